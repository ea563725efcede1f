/- A part of the calculus by which the claim's proof goes: over any program and any numbering of its functions; no condition beyond those that each theorem names. -/
import Derived.Laws.IdiomStrings
import Derived.Test.YtlildailoffclaaKd
set_option linter.unusedSimpArgs false
set_option linter.unusedVariables false
namespace Go.Kf
open Go Go.RowKit
section
variable (N : Nums) (A : zck)
def PK.af : PK → FuncId
 | .bool => A.zhv | .i8 => A.zhu | .i16 => A.zbx | .u16 => A.zdg | .i32 => A.zbi | .i64 => A.zfp | .uuid => A.zhs | .en _ => 0
def Txt.af (fl : Bool) : Txt → FuncId
 | .str => if fl then A.zbs else A.zdw
 | .nstr => if fl then A.zbu else A.zda
 | .byt => if fl then A.zdp else A.zgp
 | .nbyt => if fl then A.zfi else A.zht
def PK.ldq (k : PK) (i q : Nat) : List ROp := match k with
 | .uuid => [⟨some (q + 100), .alloc N.zag, 0, none, []⟩, ⟨none, .store N.zag (V q) (T i), 0, none, []⟩]
 | _ => [⟨some (q + 100), .assign (T i), 0, none, []⟩]
def zts (vv : Nat) (Tt : TypeId) (idx : Nat) (t : TypeId) : List ROp := [⟨some 0, .move (V vv), 0, none, []⟩, ⟨some 1, .nilCheck (T 0), 0, none, []⟩, ⟨some 2, .fieldAddr Tt (T 1) idx, 0, none, []⟩, ⟨some 3, .load t (T 2), 0, none, []⟩]
def zxh (st : TypeId) (t : TypeId) (q : Nat) : List ROp := [⟨some 0, .move (V q), 0, none, []⟩, ⟨some 1, .move (V (q + 5)), 0, none, []⟩, ⟨some 2, .indexAddr st (T 0) (T 1), 0, none, []⟩, ⟨some 3, .load t (T 2), 0, none, []⟩]
def cAp (f t q : Nat) (src : Op) : C := .ops [⟨some 0, .move (V 1), 0, none, []⟩, ⟨some 1, src, 0, none, []⟩, ⟨some 2, .call ⟨.value (.func f), #[T 0, T 1], #[N.za, t]⟩, N.za, none, []⟩, ⟨some 101, .assign (T 2), 0, none, []⟩]
def PK.ap (k : PK) (q : Nat) : C := cAp N (k.af A) (k.t N) q (k.src N q)
def Txt.ap (t : Txt) (q : Nat) : C := .seq (.ops [⟨some (q + 1 + 100), .move (V 4), 0, none, []⟩]) (.cond (q + 1) (cAp N (t.af A true) (t.t N) q (.move (V q))) (cAp N (t.af A false) (t.t N) q (.move (V q))))
def Txt.apJ (t : Txt) (q j : Nat) : C := .seq (.ops [⟨some (j + 100), .move (V 4), 0, none, []⟩]) (.cond j (cAp N (t.af A true) (t.t N) q (.move (V q))) (cAp N (t.af A false) (t.t N) q (.move (V q))))
def cAtv (vv : Nat) (Tt : TypeId) (idx : Nat) (k : Int) (q : Nat) : C := .seq (.ops (zts vv Tt idx N.zay ++ [⟨some (q + 100), .assign (T 3), 0, none, []⟩]))
 (.seq (.ops [⟨some 0, .move (V 3), 0, none, []⟩, ⟨some (q + 1 + 100), .binOp .lss N.zbd (T 0) (.const (.int .i16 k)) N.zbd, 0, none, []⟩]) (.cond (q + 1)
  (.seq (.ops [⟨some (q + 2 + 100), .assign (.const (.string ⟨#[]⟩)), 0, none, []⟩])
   (.seq (.seq (.ops [⟨some 0, .move (V q), 0, none, []⟩, ⟨some (q + 3 + 100), .binOp .neq N.zay (T 0) (.const (.pointer none)) N.zay, 0, none, []⟩])
     (.cond (q + 3) (.ops [⟨some 0, .move (V q), 0, none, []⟩, ⟨some 1, .nilCheck (T 0), 0, none, []⟩, ⟨some 2, .load N.zal (T 1), 0, none, []⟩, ⟨some (q + 2 + 100), .assign (T 2), 0, none, []⟩]) .skip))
    (.seq (.ops [⟨some 0, .move (V (q + 2)), 0, none, []⟩, ⟨some (q + 4 + 100), .assign (T 0), 0, none, []⟩]) (Txt.str.apJ N A (q + 4) (q + 5)))))
  (Txt.nstr.apJ N A q (q + 6))))
def cAl (nul : Option Int) (fl : Bool) (st q : Nat) : C := match nul with
 | none => .ops [⟨some 0, .move (V 1), 0, none, []⟩, ⟨some 1, .move (V q), 0, none, []⟩, ⟨some 2, .call ⟨.builtin .len, #[T 1], #[st]⟩, N.ze, none, []⟩, ⟨some 3, .call ⟨.value (.func (if fl then A.zba else A.zce)), #[T 0, T 2], #[N.za, N.ze]⟩, N.za, none, []⟩, ⟨some 101, .assign (T 3), 0, none, []⟩]
 | some _ => .ops [⟨some 0, .move (V 1), 0, none, []⟩, ⟨some 1, .move (V q), 0, none, []⟩, ⟨some 2, .call ⟨.builtin .len, #[T 1], #[st]⟩, N.ze, none, []⟩, ⟨some 3, .move (V q), 0, none, []⟩, ⟨some 4, .binOp .eql st (T 3) (.const (.slice none 0 0)) st, 0, none, []⟩,
   ⟨some 5, .call ⟨.value (.func (if fl then A.zak else A.zaw)), #[T 0, T 2, T 4], #[N.za, N.ze, N.zaq]⟩, N.za, none, []⟩, ⟨some 101, .assign (T 5), 0, none, []⟩]
def cGdA (g : Gd) (n : Nat) (c : Nat → C) : C :=
 match g with
 | .all => c n
 | .ge m => .seq (.ops [⟨some 0, .move (V 3), 0, none, []⟩, ⟨some (n + 100), .binOp .geq N.zbd (T 0) (.const (.int .i16 m)) N.zbd, 0, none, []⟩]) (.cond n (c (n + 1)) .skip)
 | .btw a b => .seq (.ops [⟨some 0, .move (V 3), 0, none, []⟩, ⟨some 1, .binOp .geq N.zbd (T 0) (.const (.int .i16 a)) N.zbd, 0, none, []⟩, ⟨some 2, .move (T 1), 0, none, []⟩, ⟨some 3, .move (V 3), 0, some (some 2, true), []⟩,
   ⟨some 4, .binOp .leq N.zbd (T 3) (.const (.int .i16 b)) N.zbd, 0, some (some 2, true), []⟩, ⟨some (n + 100), .pick (T 2) (T 4) (.const (.bool false)), 0, none, []⟩]) (.cond n (c (n + 1)) .skip)
def cAtags (vv : Nat) (Tt : TypeId) (idx q : Nat) : C :=
 .seq (.ops [⟨some (q + 100), .move (V 4), 0, none, []⟩]) (.cond q (.seq
  (.ops [⟨some 0, .move (V 1), 0, none, []⟩, ⟨some 1, .move (V vv), 0, none, []⟩, ⟨some 2, .nilCheck (T 1), 0, none, []⟩, ⟨some 3, .fieldAddr Tt (T 2) idx, 0, none, []⟩, ⟨some 4, .call ⟨.value (.func A.ziz), #[T 3], #[N.zcq]⟩, N.ze, none, []⟩,
   ⟨some 5, .convert N.ze N.zc (T 4), 0, none, []⟩, ⟨some 6, .binOp .add N.zc (.const (.int .u32 0)) (T 5) N.zc, 0, none, []⟩, ⟨some 7, .call ⟨.value (.func A.zcb), #[T 0, T 6], #[N.za, N.zc]⟩, N.za, none, []⟩, ⟨some 101, .assign (T 7), 0, none, []⟩])
  (.ops [⟨some 0, .move (V vv), 0, none, []⟩, ⟨some 1, .nilCheck (T 0), 0, none, []⟩, ⟨some 2, .fieldAddr Tt (T 1) idx, 0, none, []⟩, ⟨some 3, .move (V 1), 0, none, []⟩, ⟨some 4, .call ⟨.value (.func A.zek), #[T 2, T 3], #[N.zcq, N.za]⟩, N.za, none, []⟩, ⟨some 101, .assign (T 4), 0, none, []⟩])) .skip)
mutual
def Ty.avn : Ty → Nat
 | .pr .. => 1
 | .txt _ => 2
 | .arr _ _ e => 6 + e.avn
 | .row _ _ _ fs => 1 + fs.avn
 | .tv _ => 7
def El.avn : El → Nat
 | .pr _ => 1
 | .txt _ => 2
 | .row _ _ _ fs => 1 + fs.avn
def Fds.avn : Fds → Nat
 | .nil => 0
 | .tags => 1
 | .cons g ty r => g.vn + ty.avn + r.avn
end
mutual
def Ty.agen (vv : Nat) (Tt : TypeId) (idx : Nat) : Ty → Nat → Nat → C
 | .pr p _, q, _ => .seq (.ops (zts vv Tt idx (p.t N) ++ p.ldq N 3 q)) (p.ap N A q)
 | .txt t, q, _ => .seq (.ops (zts vv Tt idx (t.t N) ++ [⟨some (q + 100), .assign (T 3), 0, none, []⟩])) (t.ap N A q)
 | .arr st nul e, q, k => .seq (.ops (zts vv Tt idx st ++ [⟨some (q + 100), .assign (T 3), 0, none, []⟩])) (
  .seq (.seq (.ops [⟨some (q + 1 + 100), .move (V 4), 0, none, []⟩]) (.cond (q + 1) (cAl N A nul true st q) (cAl N A nul false st q))) (
  .seq (.ops [⟨some 0, .move (V q), 0, none, []⟩, ⟨some (q + 2 + 100), .call ⟨.builtin .len, #[T 0], #[st]⟩, N.ze, none, []⟩, ⟨some (q + 3 + 100), .move (.const (.int .i64 0)), 0, none, []⟩])
   (zny N (q + 3) (q + 2) (q + 4) k (.seq (.ops [⟨some 0, .move (V (q + 3)), 0, none, []⟩, ⟨some (q + 5 + 100), .assign (T 0), 0, none, []⟩]) (e.agen st q k)))))
 | .row .., _, _ => .skip
 | .tv k, q, _ => cAtv N A vv Tt idx k q
def El.agen (st : TypeId) : El → Nat → Nat → C
 | .pr p, q, _ => .seq (.ops (zxh st (p.t N) q ++ p.ldq N 3 (q + 6))) (p.ap N A (q + 6))
 | .txt t, q, _ => .seq (.ops (zxh st (t.t N) q ++ [⟨some (q + 6 + 100), .assign (T 3), 0, none, []⟩])) (t.ap N A (q + 6))
 | .row T' _ _ fs, q, k => .seq (.ops [⟨some 0, .move (V q), 0, none, []⟩, ⟨some 1, .move (V (q + 5)), 0, none, []⟩, ⟨some 2, .indexAddr st (T 0) (T 1), 0, none, []⟩, ⟨some (q + 6 + 100), .assign (T 2), 0, none, []⟩]) (seqs (fs.agen (q + 6) T' 0 (q + 7) (k + 2)))
def Fds.agen (vv : Nat) (Tt : TypeId) : Fds → Nat → Nat → Nat → List C
 | .nil, _, _, _ => []
 | .tags, idx, q, _ => [cAtags N A vv Tt idx q]
 | .cons g ty r, idx, q, k => cGdA N g q (fun q => ty.agen vv Tt idx q k) :: r.agen vv Tt (idx + 1) (q + g.vn + ty.avn) (k + ty.bn)
end
def Msg.appC (m : Msg) : C := seqs ([.ops [⟨some 102, .assign (.const (.slice none 0 0)), 0, none, []⟩],
 .ops [⟨some 0, .move (V 0), 0, none, []⟩, ⟨some 1, .nilCheck (T 0), 0, none, []⟩, ⟨some 2, .fieldAddr m.tT (T 1) 0, 0, none, []⟩, ⟨some 3, .load N.zbd (T 2), 0, none, []⟩, ⟨some 103, .assign (T 3), 0, none, []⟩],
 .ops [⟨some 0, .move (V 3), 0, none, []⟩],
 .ops [⟨some 0, .move (V 3), 0, none, []⟩, ⟨some 1, .binOp .geq N.zbd (T 0) (.const (.int .i16 m.fl)) N.zbd, 0, none, []⟩, ⟨some 104, .assign (T 1), 0, none, []⟩],
 .ops [⟨some 0, .move (V 4), 0, none, []⟩]] ++ m.fs.agen N A 0 m.tT 1 5 0 ++ [.ops [⟨some 0, .move (V 1), 0, none, []⟩, ⟨some 102, .assign (T 0), 0, none, []⟩], .ret])
end
section
variable {P : Program} {N : Nums} {A : zck}
structure AS (w0 : World) (lo : Nat) (ver : Int) (fl : Bool) (d : Value) (l : List UInt8) (σ : Env) (w : World) : Prop where
 f1 : σ 1 = d
 f3 : σ 3 = .int .i16 ver
 f4 : σ 4 = .bool fl
 own : OwnB w lo d l
 mod : Mod w0 w (fun k _ => lo ≤ k)
theorem AS.step {w0 w w' : World} {lo : Nat} {ver : Int} {fl : Bool} {d d' : Value} {l s : List UInt8} {σ σ' : Env} (h : AS w0 lo ver fl d l σ w) (ha : Apd w lo d l s d' w') (h1 : σ' 1 = d') (h3 : σ' 3 = σ 3) (h4 : σ' 4 = σ 4) : AS w0 lo ver fl d' (l ++ s) σ' w' :=
 ⟨h1, h3.trans h.f3, h4.trans h.f4, ha.own, h.mod.trans (Apd.low h.own ha) fun _ _ _ h => h.elim id id⟩
theorem AS.env {w0 w : World} {lo : Nat} {ver : Int} {fl : Bool} {d : Value} {l : List UInt8} {σ σ' : Env} (h : AS w0 lo ver fl d l σ w) (h1 : σ' 1 = σ 1) (h3 : σ' 3 = σ 3) (h4 : σ' 4 = σ 4) : AS w0 lo ver fl d l σ' w :=
 ⟨h1.trans h.f1, h3.trans h.f3, h4.trans h.f4, h.own, h.mod⟩
theorem AS.fresh {w0 w w' : World} {lo : Nat} {ver : Int} {fl : Bool} {d : Value} {l : List UInt8} {σ : Env} (h : AS w0 lo ver fl d l σ w) (m : Mod w w' zw) : AS w0 lo ver fl d l σ w' :=
 ⟨h.f1, h.f3, h.f4, Own.stay m (fun _ _ _ h => h) h.own, h.mod.trans m fun _ _ _ h => h.elim id False.elim⟩
theorem W_cAp {f t q : Nat} {x : Value} {s : List UInt8} {loc : List Nat} {N' : Nat} {Q : Exit → Env → World → Prop} {w0 w : World} {lo : Nat} {ver : Int} {fl : Bool} {d : Value} {l : List UInt8} {σ : Env} (hf : zdh P f) (h : AS w0 lo ver fl d l σ w) (hq : σ q = x)
  (hc : Call P f #[d, x] w (Apd w lo d l s)) (hQ : ∀ σ' w' d', AS w0 lo ver fl d' (l ++ s) σ' w' → (∀ i, i ≠ 1 → σ' i = σ i) → Q .normal σ' w') : W P loc N' (cAp N f t q (.move (V q))) Q σ w := by
 unfold cAp
 subst hq
 refine zn fun τ => ?_
 simp +decide (disch := omega) only [bK, bE, Nat.reduceBeqDiff, Nat.reduceAdd, h.f1]
 rw [zah hf]
 simp +decide (disch := omega) only [bK, bE, Nat.reduceBeqDiff, BEq.rfl]
 refine hc.mono ?_
 intro d' w' ha
 have fr : ∀ (σ' : Env), (∀ i, σ' i = if i = 1 then d' else σ i) → Q .normal σ' w' := fun σ' hσ =>
  hQ σ' w' d' (h.step ha (by rw [hσ]; rfl) (by rw [hσ]; rfl) (by rw [hσ]; rfl)) fun i hi => by rw [hσ, if_neg hi]
 refine zd (K := fun σ' w' => Q .normal σ' w') fun σ' hσ => fr σ' fun i => ?_
 rw [hσ i]
 by_cases hi : i = 1
 ·subst hi; rfl
 ·have e1 : (i + 100 == 101) = false := beq_eq_false_iff_ne.2 (by omega)
  rw [if_neg hi]
  simp +decide only [bE, Nat.reduceBeqDiff, e1]
theorem zuj {vv idx off q b oo sz by' : Nat} {Tt t : TypeId} {dt : TypeDesc} {z : Value} {cs : List Value} {loc : List Nat} {N' : Nat} {Q : Exit → Env → World → Prop} {σ : Env} {w : World} (hT : HF P Tt idx off) (ht : TI P t dt sz by' z)
  (hv : σ vv = .pointer (some ⟨b, oo, none⟩)) (hr : w.rangeAt b (oo + off) cs) (hl : cs.length = sz) (h1 : zml dt = false → sz = 1) (hQ : ∀ σ', (∀ i, i ≠ q → σ' i = σ i) → σ' q = ldv dt cs → Q .normal σ' w) :
  W P loc N' (.ops (zts vv Tt idx t ++ [⟨some (q + 100), .assign (T 3), 0, none, []⟩])) Q σ w := by
 have hld := ht.run_load (w := w) hr hl h1
 unfold zts
 simp only [List.cons_append, List.nil_append]
 refine zn fun τ => ?_
 simp +decide (disch := omega) only [bK, bE, BEq.rfl, hv]
 rw [zat rfl]
 simp +decide (disch := omega) only [bK, bE, BEq.rfl, hT.run, hld]
 refine zd (K := fun σ' w' => Q .normal σ' w') fun σ' hσ => hQ σ' (fun i hi => ?_) ?_
 ·rw [hσ i]
  have e1 : (i + 100 == q + 100) = false := beq_eq_false_iff_ne.2 (by omega)
  simp +decide (disch := omega) only [bE, Nat.reduceBeqDiff, e1]
 ·rw [hσ q]
  simp +decide (disch := omega) only [bE, BEq.rfl]
theorem zya {q b n c j sz by' a1 a2 : Nat} {st t : TypeId} {dt : TypeDesc} {z z2 : Value} {cs : List Value} {loc : List Nat} {N' : Nat} {Q : Exit → Env → World → Prop} {σ : Env} {w : World} (hS : TI P st (.slice t) a1 a2 z2) (ht : TI P t dt sz by' z)
  (hv : σ q = .slice (some ⟨b, 0, none⟩) n c) (hi : σ (q + 5) = .int .i64 j) (hj : j < n) (hr : w.rangeAt b (j * sz) cs) (hl : cs.length = sz) (h1 : zml dt = false → sz = 1) (hQ : ∀ σ', (∀ i, i ≠ q + 6 → σ' i = σ i) → σ' (q + 6) = ldv dt cs → Q .normal σ' w) :
  W P loc N' (.ops (zxh st t q ++ [⟨some (q + 6 + 100), .assign (T 3), 0, none, []⟩])) Q σ w := by
 have hld := ht.run_load (w := w) hr hl h1
 have hix := zbf (w := w) hS ht (bl := b) (o := 0) (n := n) (c := c) (i := j) (k := .i64) hj
 rw [Nat.zero_add] at hix
 unfold zxh
 simp only [List.cons_append, List.nil_append]
 refine zn fun τ => ?_
 simp +decide (disch := omega) only [bK, bE, Nat.reduceBeqDiff, BEq.rfl, hv, hi, hix, hld]
 refine zd (K := fun σ' w' => Q .normal σ' w') fun σ' hσ => hQ σ' (fun i hi => ?_) ?_
 ·rw [hσ i]
  have e1 : (i + 100 == q + 6 + 100) = false := beq_eq_false_iff_ne.2 (by omega)
  simp +decide (disch := omega) only [bE, Nat.reduceBeqDiff, e1]
 ·rw [hσ (q + 6)]
  simp +decide (disch := omega) only [bE, BEq.rfl]
end
section
variable {P : Program} {N : Nums} {A : zck}
theorem box_newG {t : TypeId} {dt : TypeDesc} {sz by' : Nat} {z cs : List Value} (h : TI P t dt sz by' (.agg z.toArray)) (hz : ∀ c ∈ z, c.oneCell' = true) (hzl : z.length = sz) (hl : cs.length = sz) (h1 : ∀ c ∈ cs, c.oneCell' = true) (w : World) :
  ∃ w1 w2, (∀ old : Value, (Instr.alloc t true old).run P w = .ok (.pointer (some ⟨w.heap.size, 0, none⟩)) w1) ∧ (Instr.storeAt t (.pointer (some ⟨w.heap.size, 0, none⟩)) (.agg cs.toArray)).run P w1 = .ok () w2 ∧
   Mod w w1 zw ∧ Mod w w2 zw ∧ w2.heap.size = w.heap.size + 1 ∧ w2.rangeAt w.heap.size 0 cs ∧ w2.there w.heap.size 0 sz := by
 have hc : Value.cells (.agg z.toArray) = z.toArray := by
  simp [Value.cells]
 obtain ⟨w1, hw1⟩ : ∃ w1, w1 = w.alloc (.cells (Value.cells (.agg z.toArray)) t) := ⟨_, rfl⟩
 have m1 : Mod w w1 zw := by rw [hw1]; exact Mod.alloc _ _ _
 have r1 : w1.rangeAt w.heap.size 0 z := by rw [hw1]; exact zu w z.toArray _ _
 have t1 : w1.there w.heap.size 0 sz := by rw [hw1, ← hzl]; exact zbe w z.toArray t
 have s1 : w1.heap.size = w.heap.size + 1 := by rw [hw1]; exact zae _ _
 have hst := h.run_store (w := w1) (b := w.heap.size) (o := 0) (v := .agg cs.toArray) (cs := cs) rfl hl t1 h1
 have ms : Mod w1 (w1.setCells w.heap.size 0 cs) (blk w.heap.size) := Mod.setCells _ _ _ fun _ _ _ _ => rfl
 refine ⟨w1, _, fun old => by rw [hw1]; exact h.run_alloc old, hst, m1, m1.fresh ms fun k o h => by have : k = w.heap.size := h; omega, by rw [zco]; exact s1, ?_, ms.there (by omega) t1⟩
 have := zar cs 0 w1 _ r1 (by omega)
 rwa [List.drop_of_length_le (by omega), List.append_nil] at this
theorem boxU (B : Base P N) (hU : N.zag ≠ 0) {s : List UInt8} (hs : s.length = 16) (w : World) :
  ∃ w1 w2, (∀ old : Value, (Instr.alloc N.zag true old).run P w = .ok (.pointer (some ⟨w.heap.size, 0, none⟩)) w1) ∧ (Instr.storeAt N.zag (.pointer (some ⟨w.heap.size, 0, none⟩)) (.agg (s.map zam).toArray)).run P w1 = .ok () w2 ∧ Mod w w2 zw ∧ w2.rangeAt w.heap.size 0 (s.map zam) := by
 have hT : TI P N.zag (.array 16 N.zk) 16 16 (.agg (List.replicate 16 (.int .u8 0)).toArray) := by
  have := B.uuid hU
  rwa [show (Array.replicate 16 (Value.int .u8 0)) = (List.replicate 16 (Value.int .u8 0)).toArray from rfl] at this
 obtain ⟨w1, w2, h1, h2, _, h4, _, h6, _⟩ := box_newG (cs := s.map zam) hT (fun c hc => by rw [List.eq_of_mem_replicate hc]; rfl) (by simp) (by simp [hs]) (zkh s) w
 exact ⟨w1, w2, h1, h2, h4, h6⟩
theorem W_ldFU (B : Base P N) (hU : N.zag ≠ 0) {vv idx off q b oo : Nat} {Tt : TypeId} {s : List UInt8} {loc : List Nat} {N' : Nat} {Q : Exit → Env → World → Prop} {σ : Env} {w : World} (hT : HF P Tt idx off) (hs : s.length = 16)
  (hv : σ vv = .pointer (some ⟨b, oo, none⟩)) (hr : w.rangeAt b (oo + off) (s.map zam)) (hQ : ∀ σ' w' bq, Mod w w' zw → (∀ i, i ≠ q → σ' i = σ i) → σ' q = .pointer (some ⟨bq, 0, none⟩) → w'.rangeAt bq 0 (s.map zam) → Q .normal σ' w') :
  W P loc N' (.ops (zts vv Tt idx N.zag ++ [⟨some (q + 100), .alloc N.zag, 0, none, []⟩, ⟨none, .store N.zag (V q) (T 3), 0, none, []⟩])) Q σ w := by
 have hld := (B.uuid hU).run_load (w := w) hr (by simp [hs]) (fun h => by cases h)
 have hlv : ldv (.array 16 N.zk) (s.map zam) = .agg (s.map zam).toArray := rfl
 rw [hlv] at hld
 obtain ⟨w1, w2, hal, hst, m2, r2⟩ := boxU B hU hs w
 unfold zts
 simp only [List.cons_append, List.nil_append]
 refine zn fun τ => ?_
 simp +decide (disch := omega) only [bK, bE, Nat.reduceBeqDiff, BEq.rfl, hv]
 rw [zat rfl]
 simp +decide (disch := omega) only [bK, bE, BEq.rfl, hT.run, hld, hal, hst]
 refine zd (K := fun σ' w' => Q .normal σ' w') fun σ' hσ => hQ σ' w2 w.heap.size m2 (fun i hi => ?_) ?_ r2
 ·rw [hσ i]
  have e1 : (i + 100 == q + 100) = false := beq_eq_false_iff_ne.2 (by omega)
  simp +decide (disch := omega) only [bE, Nat.reduceBeqDiff, e1]
 ·rw [hσ q]
  simp +decide (disch := omega) only [bE, BEq.rfl]
theorem W_ldEU (B : Base P N) (hU : N.zag ≠ 0) {q b n c j a1 a2 : Nat} {st : TypeId} {z2 : Value} {s : List UInt8} {loc : List Nat} {N' : Nat} {Q : Exit → Env → World → Prop} {σ : Env} {w : World} (hS : TI P st (.slice N.zag) a1 a2 z2) (hs : s.length = 16)
  (hv : σ q = .slice (some ⟨b, 0, none⟩) n c) (hi : σ (q + 5) = .int .i64 j) (hj : j < n) (hr : w.rangeAt b (j * 16) (s.map zam)) (hQ : ∀ σ' w' bq, Mod w w' zw → (∀ i, i ≠ q + 6 → σ' i = σ i) → σ' (q + 6) = .pointer (some ⟨bq, 0, none⟩) → w'.rangeAt bq 0 (s.map zam) → Q .normal σ' w') :
  W P loc N' (.ops (zxh st N.zag q ++ [⟨some (q + 6 + 100), .alloc N.zag, 0, none, []⟩, ⟨none, .store N.zag (V (q + 6)) (T 3), 0, none, []⟩])) Q σ w := by
 have hld := (B.uuid hU).run_load (w := w) hr (by simp [hs]) (fun h => by cases h)
 have hlv : ldv (.array 16 N.zk) (s.map zam) = .agg (s.map zam).toArray := rfl
 rw [hlv] at hld
 have hix := zbf (w := w) hS (B.uuid hU) (bl := b) (o := 0) (n := n) (c := c) (i := j) (k := .i64) hj
 rw [Nat.zero_add] at hix
 obtain ⟨w1, w2, hal, hst, m2, r2⟩ := boxU B hU hs w
 unfold zxh
 simp only [List.cons_append, List.nil_append]
 refine zn fun τ => ?_
 simp +decide (disch := omega) only [bK, bE, Nat.reduceBeqDiff, BEq.rfl, hv, hi, hix, hld, hal, hst]
 refine zd (K := fun σ' w' => Q .normal σ' w') fun σ' hσ => hQ σ' w2 w.heap.size m2 (fun i hi => ?_) ?_ r2
 ·rw [hσ i]
  have e1 : (i + 100 == q + 6 + 100) = false := beq_eq_false_iff_ne.2 (by omega)
  simp +decide (disch := omega) only [bE, Nat.reduceBeqDiff, e1]
 ·rw [hσ (q + 6)]
  simp +decide (disch := omega) only [bE, BEq.rfl]
theorem W_cApU (B : Base P N) (hU : N.zag ≠ 0) {f q bq : Nat} {s : List UInt8} {loc : List Nat} {N' : Nat} {Q : Exit → Env → World → Prop} {w0 w : World} {lo : Nat} {ver : Int} {fl : Bool} {d : Value} {l : List UInt8} {σ : Env} (hf : zdh P f) (h : AS w0 lo ver fl d l σ w) (hs : s.length = 16) (hq : σ q = .pointer (some ⟨bq, 0, none⟩)) (hr : w.rangeAt bq 0 (s.map zam))
  (hc : Call P f #[d, .agg (s.map zam).toArray] w (Apd w lo d l s)) (hQ : ∀ σ' w' d', AS w0 lo ver fl d' (l ++ s) σ' w' → (∀ i, i ≠ 1 → σ' i = σ i) → Q .normal σ' w') : W P loc N' (cAp N f N.zag q (.load N.zag (V q))) Q σ w := by
 have hld := (B.uuid hU).run_load (w := w) hr (by simp [hs]) (fun h => by cases h)
 have hlv : ldv (.array 16 N.zk) (s.map zam) = .agg (s.map zam).toArray := rfl
 rw [hlv] at hld
 unfold cAp
 refine zn fun τ => ?_
 simp +decide (disch := omega) only [bK, bE, Nat.reduceBeqDiff, Nat.reduceAdd, h.f1, hq, hld]
 rw [zah hf]
 simp +decide (disch := omega) only [bK, bE, Nat.reduceBeqDiff, BEq.rfl]
 refine hc.mono ?_
 intro d' w' ha
 have fr : ∀ (σ' : Env), (∀ i, σ' i = if i = 1 then d' else σ i) → Q .normal σ' w' := fun σ' hσ =>
  hQ σ' w' d' (h.step ha (by rw [hσ]; rfl) (by rw [hσ]; rfl) (by rw [hσ]; rfl)) fun i hi => by rw [hσ, if_neg hi]
 refine zd (K := fun σ' w' => Q .normal σ' w') fun σ' hσ => fr σ' fun i => ?_
 rw [hσ i]
 by_cases hi : i = 1
 ·subst hi; rfl
 ·have e1 : (i + 100 == 101) = false := beq_eq_false_iff_ne.2 (by omega)
  rw [if_neg hi]
  simp +decide only [bE, Nat.reduceBeqDiff, e1]
end
mutual
def Val.sm : Val → Prop
 | .num v => (zhn v).length < 4294967295
 | .nstr (some l) => l.length < 4294967295
 | .oct (some l) => l.length < 4294967295
 | .arr _ l => l.length < 4294967295 ∧ smL l
 | .row l => smL l
 | .tags l => l.length < 4294967295 ∧ ∀ x ∈ l, x.2.length < 4294967295
 | _ => True
def smL : List Val → Prop
 | [] => True
 | v :: l => v.sm ∧ smL l
end
theorem smL.mem : ∀ {l : List Val}, smL l → ∀ v ∈ l, v.sm
 | [], _, v, h => by cases h
 | x :: l, h, v, hv => by
  simp only [smL] at h
  rcases List.mem_cons.1 hv with rfl | hv
  ·exact h.1
  ·exact smL.mem h.2 v hv
structure ApC (P : Program) (N : Nums) (A : zck) : Prop where
 pr : ∀ k : PK, k.af A ≠ 0 → zdh P (k.af A) ∧ ∀ v, k.okV v → ApF P (k.af A) v (k.wr v)
 txt : ∀ (t : Txt) (fl : Bool), t.af A fl ≠ 0 → zdh P (t.af A fl) ∧ ∀ {w : World} {lo : Nat} {d c : Value} {l : List UInt8} {G : Nat → Prop} (v : Val), t.okV v → v.sm → Rep w G v [c] → (∀ k, G k → k < lo) → OwnB w lo d l → lo ≤ w.heap.size →
  l.length + (t.wr fl v).length < 1099511627776 → Call P (t.af A fl) #[d, c] w (Apd w lo d l (t.wr fl v))
 al : ∀ fl : Bool, (if fl then A.zba else A.zce) ≠ 0 → zdh P (if fl then A.zba else A.zce) ∧ ∀ n : Nat, n < 4294967295 → ApF P (if fl then A.zba else A.zce) (.int .i64 n) (zao fl false n 4)
 nl : ∀ fl : Bool, (if fl then A.zak else A.zaw) ≠ 0 → zdh P (if fl then A.zak else A.zaw) ∧ ∀ (n : Nat) (b : Bool), n < 4294967295 → ApF2 P (if fl then A.zak else A.zaw) (.int .i64 n) (.bool b) (zao fl b n 4)
 uv : UvT P N A
 tl : FOk P A.ziz 1 (zkt N A) [.var 1]
 ea : FOk P A.zek 2 (zfj N A) [.var 3]
 e1 : FOk P A.zcg 3 (zdq N A) []
 tn : EachN P N
def HeldV (k : PK) (σ : Env) (w : World) (q : Nat) (v : Value) : Prop := match k with
 | .uuid => ∃ bq, ∃ s : List UInt8, v = .agg (s.map zam).toArray ∧ s.length = 16 ∧ σ q = .pointer (some ⟨bq, 0, none⟩) ∧ w.rangeAt bq 0 (s.map zam)
 | _ => σ q = v
section
variable {P : Program} {N : Nums} {A : zck}
theorem W_prAp (B : Base P N) (C : ApC P N A) {k : PK} (hk : k.af A ≠ 0) (hu : k.nt N) {v : Value} (hv : k.okV v) {q : Nat} {loc : List Nat} {N' : Nat} {Q : Exit → Env → World → Prop} {w0 w : World} {lo : Nat} {ver : Int} {fl : Bool} {d : Value} {l : List UInt8} {σ : Env}
  (hh : HeldV k σ w q v) (h : AS w0 lo ver fl d l σ w) (hlo : lo ≤ w0.heap.size) (hlen : l.length + (k.wr v).length < 1099511627776) (hQ : ∀ σ' w' d', AS w0 lo ver fl d' (l ++ k.wr v) σ' w' → (∀ i, i ≠ 1 → σ' i = σ i) → Q .normal σ' w') : W P loc N' (k.ap N A q) Q σ w := by
 obtain ⟨hb, hc⟩ := C.pr k hk
 have hcall : Call P (k.af A) #[d, v] w (Apd w lo d l (k.wr v)) := hc v hv h.own (Nat.le_trans hlo h.mod.size) hlen
 cases k with
 | uuid =>
  obtain ⟨bq, s, rfl, hs, hq, hr⟩ := hh
  have e : PK.wr .uuid (.agg (s.map zam).toArray) = s := ztt s
  rw [e] at hcall hlen hQ
  exact W_cApU B (hu.1 rfl) hb h hs hq hr hcall hQ
 | _ => exact W_cAp hb h hh hcall hQ
theorem af_ne {k : PK} (h : k.af A ≠ 0) : k.isEn = false := by cases k <;> first | rfl | exact absurd rfl h
theorem W_prF (B : Base P N) {k : PK} (hen : k.isEn = false) (hu : k.nt N) {v : Value} (hv : k.okV v) {vv idx off q b oo : Nat} {Tt : TypeId} {loc : List Nat} {N' : Nat} {Q : Exit → Env → World → Prop} {σ : Env} {w : World} (hT : HF P Tt idx off)
  (hvv : σ vv = .pointer (some ⟨b, oo, none⟩)) (hr : w.rangeAt b (oo + off) v.cells.toList) (hQ : ∀ σ' w', Mod w w' zw → (∀ i, i ≠ q → σ' i = σ i) → HeldV k σ' w' q v → Q .normal σ' w') :
  W P loc N' (.ops (zts vv Tt idx (k.t N) ++ k.ldq N 3 q)) Q σ w := by
 cases k with
 | en t => cases hen
 | uuid =>
  obtain ⟨s, rfl, hs⟩ := hv
  exact W_ldFU B (hu.1 rfl) hT hs hvv (by simpa [Value.cells] using hr) fun σ' w' bq m f1 f2 f3 => hQ σ' w' m f1 ⟨bq, s, rfl, hs, f2, f3⟩
 | bool => obtain ⟨x, rfl⟩ := hv; exact zuj hT B.bool hvv hr rfl (fun _ => rfl) fun σ' f1 f2 => hQ σ' w (.refl _ _) f1 f2
 | i8 => obtain ⟨x, rfl, _⟩ := hv; exact zuj hT (B.int8 (hu.2 rfl)) hvv hr rfl (fun _ => rfl) fun σ' f1 f2 => hQ σ' w (.refl _ _) f1 f2
 | i16 => obtain ⟨x, rfl, _⟩ := hv; exact zuj hT B.int16 hvv hr rfl (fun _ => rfl) fun σ' f1 f2 => hQ σ' w (.refl _ _) f1 f2
 | u16 => obtain ⟨x, rfl, _⟩ := hv; exact zuj hT B.uint16 hvv hr rfl (fun _ => rfl) fun σ' f1 f2 => hQ σ' w (.refl _ _) f1 f2
 | i32 => obtain ⟨x, rfl, _⟩ := hv; exact zuj hT B.int32 hvv hr rfl (fun _ => rfl) fun σ' f1 f2 => hQ σ' w (.refl _ _) f1 f2
 | i64 => obtain ⟨x, rfl, _⟩ := hv; exact zuj hT B.int64 hvv hr rfl (fun _ => rfl) fun σ' f1 f2 => hQ σ' w (.refl _ _) f1 f2
theorem W_prE (B : Base P N) {k : PK} (hen : k.isEn = false) (hu : k.nt N) {v : Value} (hv : k.okV v) {q b n c j a1 a2 : Nat} {st : TypeId} {z2 : Value} {loc : List Nat} {N' : Nat} {Q : Exit → Env → World → Prop} {σ : Env} {w : World} (hS : TI P st (.slice (k.t N)) a1 a2 z2)
  (hvq : σ q = .slice (some ⟨b, 0, none⟩) n c) (hi : σ (q + 5) = .int .i64 j) (hj : j < n) (hr : w.rangeAt b (j * k.sz) v.cells.toList) (hQ : ∀ σ' w', Mod w w' zw → (∀ i, i ≠ q + 6 → σ' i = σ i) → HeldV k σ' w' (q + 6) v → Q .normal σ' w') :
  W P loc N' (.ops (zxh st (k.t N) q ++ k.ldq N 3 (q + 6))) Q σ w := by
 cases k with
 | en t => cases hen
 | uuid =>
  obtain ⟨s, rfl, hs⟩ := hv
  exact W_ldEU B (hu.1 rfl) hS hs hvq hi hj (by have : w.rangeAt b (j * 16) (Value.agg (s.map zam).toArray).cells.toList := hr; simpa [Value.cells] using this) fun σ' w' bq m f1 f2 f3 => hQ σ' w' m f1 ⟨bq, s, rfl, hs, f2, f3⟩
 | bool => obtain ⟨x, rfl⟩ := hv; exact zya hS B.bool hvq hi hj hr rfl (fun _ => rfl) fun σ' f1 f2 => hQ σ' w (.refl _ _) f1 f2
 | i8 => obtain ⟨x, rfl, _⟩ := hv; exact zya hS (B.int8 (hu.2 rfl)) hvq hi hj hr rfl (fun _ => rfl) fun σ' f1 f2 => hQ σ' w (.refl _ _) f1 f2
 | i16 => obtain ⟨x, rfl, _⟩ := hv; exact zya hS B.int16 hvq hi hj hr rfl (fun _ => rfl) fun σ' f1 f2 => hQ σ' w (.refl _ _) f1 f2
 | u16 => obtain ⟨x, rfl, _⟩ := hv; exact zya hS B.uint16 hvq hi hj hr rfl (fun _ => rfl) fun σ' f1 f2 => hQ σ' w (.refl _ _) f1 f2
 | i32 => obtain ⟨x, rfl, _⟩ := hv; exact zya hS B.int32 hvq hi hj hr rfl (fun _ => rfl) fun σ' f1 f2 => hQ σ' w (.refl _ _) f1 f2
 | i64 => obtain ⟨x, rfl, _⟩ := hv; exact zya hS B.int64 hvq hi hj hr rfl (fun _ => rfl) fun σ' f1 f2 => hQ σ' w (.refl _ _) f1 f2
theorem W_txtAp (C : ApC P N A) {t : Txt} (ht1 : t.af A true ≠ 0) (ht0 : t.af A false ≠ 0) {v : Val} (hv : t.okV v) (hsm : v.sm) {c : Value} {G : Nat → Prop} {q : Nat} {loc : List Nat} {N' : Nat} (hloc : zhy loc N') {Q : Exit → Env → World → Prop} {w0 w : World} {lo : Nat} {ver : Int} {fl : Bool} {d : Value} {l : List UInt8} {σ : Env}
  (hq5 : 5 ≤ q) (hq : σ q = c) (hrep : Rep w G v [c]) (hG : ∀ k, G k → k < lo) (h : AS w0 lo ver fl d l σ w) (hlo : lo ≤ w0.heap.size) (hlen : l.length + (t.wr fl v).length < 1099511627776)
  (hQ : ∀ σ' w' d', AS w0 lo ver fl d' (l ++ t.wr fl v) σ' w' → (∀ i, i ≠ 1 → i ≠ q + 1 → σ' i = σ i) → Q .normal σ' w') : W P loc N' (t.ap N A q) Q σ w := by
 unfold Txt.ap
 refine zf fun K hK => zn fun τ => ?_
 simp +decide (disch := omega) only [runR, znc, ev_tmp, envOf_var, Nat.reduceAdd, h.f4]
 refine hK _ _ (zd fun σ1 hσ => ?_)
 have g : ∀ i, i ≠ q + 1 → σ1 i = σ i := fun i hi => by
  rw [hσ i]
  have e1 : (i + 100 == q + 1 + 100) = false := beq_eq_false_iff_ne.2 (by omega)
  simp +decide (disch := omega) only [zie, envOf_var, sel_false, e1]
 have gq : σ1 (q + 1) = .bool fl := by
  rw [hσ (q + 1)]
  simp +decide (disch := omega) only [zie, sel_true, BEq.rfl]
 clear hσ hK K
 have h1 : AS w0 lo ver fl d l σ1 w := h.env (g 1 (by omega)) (g 3 (by omega)) (g 4 (by omega))
 refine W_if hloc gq ?_
 cases fl with
 | true =>
  simp only [if_true]
  obtain ⟨hb, hc⟩ := C.txt t true ht1
  exact W_cAp hb h1 (by rw [g q (by omega)]; exact hq) (hc v hv hsm hrep hG h.own (Nat.le_trans hlo h.mod.size) hlen) fun σ' w' d' ha f => hQ σ' w' d' ha fun i h1 h2 => (f i h1).trans (g i h2)
 | false =>
  simp only [Bool.false_eq_true, if_false]
  obtain ⟨hb, hc⟩ := C.txt t false ht0
  exact W_cAp hb h1 (by rw [g q (by omega)]; exact hq) (hc v hv hsm hrep hG h.own (Nat.le_trans hlo h.mod.size) hlen) fun σ' w' d' ha f => hQ σ' w' d' ha fun i h1 h2 => (f i h1).trans (g i h2)
theorem W_txtApJ (C : ApC P N A) {t : Txt} (ht1 : t.af A true ≠ 0) (ht0 : t.af A false ≠ 0) {v : Val} (hv : t.okV v) (hsm : v.sm) {c : Value} {G : Nat → Prop} {q j : Nat} (hj5 : 5 ≤ j) (hjq : j ≠ q) {loc : List Nat} {N' : Nat} (hloc : zhy loc N') {Q : Exit → Env → World → Prop} {w0 w : World} {lo : Nat} {ver : Int} {fl : Bool} {d : Value} {l : List UInt8} {σ : Env}
  (hq5 : 5 ≤ q) (hq : σ q = c) (hrep : Rep w G v [c]) (hG : ∀ k, G k → k < lo) (h : AS w0 lo ver fl d l σ w) (hlo : lo ≤ w0.heap.size) (hlen : l.length + (t.wr fl v).length < 1099511627776)
  (hQ : ∀ σ' w' d', AS w0 lo ver fl d' (l ++ t.wr fl v) σ' w' → (∀ i, i ≠ 1 → i ≠ j → σ' i = σ i) → Q .normal σ' w') : W P loc N' (t.apJ N A q j) Q σ w := by
 unfold Txt.apJ
 refine zf fun K hK => zn fun τ => ?_
 simp +decide (disch := omega) only [runR, znc, ev_tmp, envOf_var, Nat.reduceAdd, h.f4]
 refine hK _ _ (zd fun σ1 hσ => ?_)
 have g : ∀ i, i ≠ j → σ1 i = σ i := fun i hi => by
  rw [hσ i]
  have e1 : (i + 100 == j + 100) = false := beq_eq_false_iff_ne.2 (by omega)
  simp +decide (disch := omega) only [zie, envOf_var, sel_false, e1]
 have gq : σ1 (j) = .bool fl := by
  rw [hσ (j)]
  simp +decide (disch := omega) only [zie, sel_true, BEq.rfl]
 clear hσ hK K
 have h1 : AS w0 lo ver fl d l σ1 w := h.env (g 1 (by omega)) (g 3 (by omega)) (g 4 (by omega))
 refine W_if hloc gq ?_
 cases fl with
 | true =>
  simp only [if_true]
  obtain ⟨hb, hc⟩ := C.txt t true ht1
  exact W_cAp hb h1 (by rw [g q (by omega)]; exact hq) (hc v hv hsm hrep hG h.own (Nat.le_trans hlo h.mod.size) hlen) fun σ' w' d' ha f => hQ σ' w' d' ha fun i h1 h2 => (f i h1).trans (g i h2)
 | false =>
  simp only [Bool.false_eq_true, if_false]
  obtain ⟨hb, hc⟩ := C.txt t false ht0
  exact W_cAp hb h1 (by rw [g q (by omega)]; exact hq) (hc v hv hsm hrep hG h.own (Nat.le_trans hlo h.mod.size) hlen) fun σ' w' d' ha f => hQ σ' w' d' ha fun i h1 h2 => (f i h1).trans (g i h2)
end
section
variable {P : Program} {N : Nums} {A : zck}
theorem W_al1 {nul : Option Int} {st et q n c a1 a2 f : Nat} {z : Value} {a : Option Addr} {loc : List Nat} {N' : Nat} {Q : Exit → Env → World → Prop} {w0 w : World} {lo : Nat} {ver : Int} {fl : Bool} {d : Value} {l s : List UInt8} {σ : Env} (hst : TI P st (.slice et) a1 a2 z)
  (fl' : Bool) (hnul : nul = none) (hf : f = if fl' then A.zba else A.zce) (hb : zdh P f) (hq : σ q = .slice a n c) (h : AS w0 lo ver fl d l σ w) (hc : Call P f #[d, .int .i64 n] w (Apd w lo d l s))
  (hQ : ∀ σ' w' d', AS w0 lo ver fl d' (l ++ s) σ' w' → (∀ i, i ≠ 1 → σ' i = σ i) → Q .normal σ' w') : W P loc N' (cAl N A nul fl' st q) Q σ w := by
 subst hnul
 unfold cAl
 simp only
 rw [← hf]
 refine zn fun τ => ?_
 simp +decide (disch := omega) only [bK, bE, Nat.reduceBeqDiff, BEq.rfl, Nat.reduceAdd, h.f1, hq, hst.run_len]
 rw [zah hb]
 simp +decide (disch := omega) only [bK, bE, Nat.reduceBeqDiff, BEq.rfl]
 refine hc.mono ?_
 intro d' w' ha
 have fr : ∀ (σ' : Env), (∀ i, σ' i = if i = 1 then d' else σ i) → Q .normal σ' w' := fun σ' hσ =>
  hQ σ' w' d' (h.step ha (by rw [hσ]; rfl) (by rw [hσ]; rfl) (by rw [hσ]; rfl)) fun i hi => by rw [hσ, if_neg hi]
 refine zd (K := fun σ' w' => Q .normal σ' w') fun σ' hσ => fr σ' fun i => ?_
 rw [hσ i]
 by_cases hi : i = 1
 ·subst hi; rfl
 ·have e1 : (i + 100 == 101) = false := beq_eq_false_iff_ne.2 (by omega)
  rw [if_neg hi]
  simp +decide only [bE, Nat.reduceBeqDiff, e1]
theorem W_al2 {nul : Option Int} {k : Int} {st et q n c a1 a2 f : Nat} {z : Value} {a : Option Addr} {loc : List Nat} {N' : Nat} {Q : Exit → Env → World → Prop} {w0 w : World} {lo : Nat} {ver : Int} {fl : Bool} {d : Value} {l s : List UInt8} {σ : Env} (hst : TI P st (.slice et) a1 a2 z)
  (fl' : Bool) (hnul : nul = some k) (hf : f = if fl' then A.zak else A.zaw) (hb : zdh P f) (hq : σ q = .slice a n c) (h : AS w0 lo ver fl d l σ w) (hc : Call P f #[d, .int .i64 n, .bool a.isNone] w (Apd w lo d l s))
  (hQ : ∀ σ' w' d', AS w0 lo ver fl d' (l ++ s) σ' w' → (∀ i, i ≠ 1 → σ' i = σ i) → Q .normal σ' w') : W P loc N' (cAl N A nul fl' st q) Q σ w := by
 subst hnul
 unfold cAl
 simp only
 rw [← hf]
 refine zn fun τ => ?_
 simp +decide (disch := omega) only [bK, bE, Nat.reduceBeqDiff, BEq.rfl, Nat.reduceAdd, h.f1, hq, hst.run_len, run_eqlS hst.und]
 rw [zdy hb]
 simp +decide (disch := omega) only [bK, bE, Nat.reduceBeqDiff, BEq.rfl]
 refine hc.mono ?_
 intro d' w' ha
 have fr : ∀ (σ' : Env), (∀ i, σ' i = if i = 1 then d' else σ i) → Q .normal σ' w' := fun σ' hσ =>
  hQ σ' w' d' (h.step ha (by rw [hσ]; rfl) (by rw [hσ]; rfl) (by rw [hσ]; rfl)) fun i hi => by rw [hσ, if_neg hi]
 refine zd (K := fun σ' w' => Q .normal σ' w') fun σ' hσ => fr σ' fun i => ?_
 rw [hσ i]
 by_cases hi : i = 1
 ·subst hi; rfl
 ·have e1 : (i + 100 == 101) = false := beq_eq_false_iff_ne.2 (by omega)
  rw [if_neg hi]
  simp +decide only [bE, Nat.reduceBeqDiff, e1]
def alOk (A : zck) : Option Int → Prop
 | none => A.zba ≠ 0 ∧ A.zce ≠ 0
 | some k => k ≤ 0 ∧ A.zak ≠ 0 ∧ A.zaw ≠ 0
theorem W_al (C : ApC P N A) {nul : Option Int} {st et q n c a1 a2 : Nat} {z : Value} {a : Option Addr} {loc : List Nat} {N' : Nat} (hloc : zhy loc N') {Q : Exit → Env → World → Prop} {w0 w : World} {lo : Nat} {ver : Int} {fl : Bool} {d : Value} {l : List UInt8} {σ : Env} (hst : TI P st (.slice et) a1 a2 z)
  (ho : alOk A nul) (hq5 : 5 ≤ q) (hq : σ q = .slice a n c) (hn : n < 4294967295) (h : AS w0 lo ver fl d l σ w) (hlo : lo ≤ w0.heap.size) (hlen : l.length + (zao fl (nul.isSome && a.isNone) n 4).length < 1099511627776)
  (hQ : ∀ σ' w' d', AS w0 lo ver fl d' (l ++ zao fl (nul.isSome && a.isNone) n 4) σ' w' → (∀ i, i ≠ 1 → i ≠ q + 1 → σ' i = σ i) → Q .normal σ' w') :
  W P loc N' (.seq (.ops [⟨some (q + 1 + 100), .move (V 4), 0, none, []⟩]) (.cond (q + 1) (cAl N A nul true st q) (cAl N A nul false st q))) Q σ w := by
 refine zf fun K hK => zn fun τ => ?_
 simp +decide (disch := omega) only [bK, bE, Nat.reduceAdd, h.f4]
 refine hK _ _ (zd fun σ1 hσ => ?_)
 have g : ∀ i, i ≠ q + 1 → σ1 i = σ i := fun i hi => by
  rw [hσ i]
  have e1 : (i + 100 == q + 1 + 100) = false := beq_eq_false_iff_ne.2 (by omega)
  simp +decide (disch := omega) only [bE, e1]
 have gq : σ1 (q + 1) = .bool fl := by
  rw [hσ (q + 1)]
  simp +decide (disch := omega) only [bE, BEq.rfl]
 clear hσ hK K
 have h1 : AS w0 lo ver fl d l σ1 w := h.env (g 1 (by omega)) (g 3 (by omega)) (g 4 (by omega))
 have hq1 : σ1 q = .slice a n c := by rw [g q (by omega)]; exact hq
 have hlow := Nat.le_trans hlo h.mod.size
 refine W_if hloc gq ?_
 cases nul with
 | none =>
  have e : ((none : Option Int).isSome && a.isNone) = false := rfl
  rw [e] at hlen hQ
  cases fl with
  | true =>
   simp only [if_true]
   obtain ⟨hb, hc⟩ := C.al true ho.1
   exact W_al1 hst true rfl rfl hb hq1 h1 (hc n hn h.own hlow hlen) fun σ' w' d' ha f => hQ σ' w' d' ha fun i h1 h2 => (f i h1).trans (g i h2)
  | false =>
   simp only [Bool.false_eq_true, if_false]
   obtain ⟨hb, hc⟩ := C.al false ho.2
   exact W_al1 hst false rfl rfl hb hq1 h1 (hc n hn h.own hlow hlen) fun σ' w' d' ha f => hQ σ' w' d' ha fun i h1 h2 => (f i h1).trans (g i h2)
 | some k =>
  have e : ((some k : Option Int).isSome && a.isNone) = a.isNone := by simp
  rw [e] at hlen hQ
  cases fl with
  | true =>
   simp only [if_true]
   obtain ⟨hb, hc⟩ := C.nl true ho.2.1
   exact W_al2 hst true rfl rfl hb hq1 h1 (hc n a.isNone hn h.own hlow hlen) fun σ' w' d' ha f => hQ σ' w' d' ha fun i h1 h2 => (f i h1).trans (g i h2)
  | false =>
   simp only [Bool.false_eq_true, if_false]
   obtain ⟨hb, hc⟩ := C.nl false ho.2.2
   exact W_al2 hst false rfl rfl hb hq1 h1 (hc n a.isNone hn h.own hlow hlen) fun σ' w' d' ha f => hQ σ' w' d' ha fun i h1 h2 => (f i h1).trans (g i h2)
end
section
variable (P : Program) (N : Nums) (A : zck)
mutual
def El.aok : El → Prop
 | .pr k => k.af A ≠ 0 ∧ k.nt N
 | .txt t => t.af A true ≠ 0 ∧ t.af A false ≠ 0 ∧ (t = .nstr → N.zay ≠ 0)
 | .row T' _ _ fs => fs.hf P T' 0 0 ∧ fs.aok
def Ty.aok : Ty → Prop
 | .pr k _ => k.af A ≠ 0 ∧ k.nt N
 | .txt t => t.af A true ≠ 0 ∧ t.af A false ≠ 0 ∧ (t = .nstr → N.zay ≠ 0)
 | .arr st nul e => TI P st (.slice (e.ty N)) 1 24 (.slice none 0 0) ∧ (∃ d by' z, TI P (e.ty N) d e.sz by' z) ∧ alOk A nul ∧ e.aok
 | .row .. => False
 | .tv _ => (Txt.str.af A true ≠ 0 ∧ Txt.str.af A false ≠ 0) ∧ Txt.nstr.af A true ≠ 0 ∧ Txt.nstr.af A false ≠ 0 ∧ N.zay ≠ 0
def Fds.aok : Fds → Prop
 | .cons _ ty r => ty.aok ∧ r.aok
 | _ => True
end
variable (ver : Int) (fl : Bool)
def TyW (ty : Ty) : Prop := ∀ {w0 w : World} {G : Nat → Prop} {lo b oo vv idx off q kk : Nat} {Tt : TypeId} {d : Value} {l : List UInt8} {σ : Env} {loc : List Nat} {N' : Nat} {Q : Exit → Env → World → Prop} (v : Val) (cs : List Value),
 zhy loc N' → ty.okV v → v.sm → Rep w0 G v cs → w0.rangeAt b (oo + off) cs → (∀ k, G k → k < lo) → b < lo → lo ≤ w0.heap.size → HF P Tt idx off → σ vv = .pointer (some ⟨b, oo, none⟩) → 5 ≤ q → AS w0 lo ver fl d l σ w → l.length + (ty.wr ver fl v).length < 1099511627776 →
 (∀ σ' w' d', AS w0 lo ver fl d' (l ++ ty.wr ver fl v) σ' w' → (∀ i, i < q → i ≠ 1 → σ' i = σ i) → Q .normal σ' w') → W P loc N' (ty.agen N A vv Tt idx q kk) Q σ w
def ElW (e : El) : Prop := ∀ {w0 w : World} {G : Nat → Prop} {lo be n c j q kk : Nat} {st : TypeId} {d : Value} {l : List UInt8} {σ : Env} {loc : List Nat} {N' : Nat} {Q : Exit → Env → World → Prop} (v : Val) (cs : List Value),
 zhy loc N' → e.okV v → v.sm → Rep w0 G v cs → w0.rangeAt be (j * e.sz) cs → (∀ k, G k → k < lo) → be < lo → lo ≤ w0.heap.size → TI P st (.slice (e.ty N)) 1 24 (.slice none 0 0) → (∃ d by' z, TI P (e.ty N) d e.sz by' z) → σ q = .slice (some ⟨be, 0, none⟩) n c → σ (q + 5) = .int .i64 j → j < n → 5 ≤ q →
 AS w0 lo ver fl d l σ w → l.length + (e.wr ver fl v).length < 1099511627776 →
 (∀ σ' w' d', AS w0 lo ver fl d' (l ++ e.wr ver fl v) σ' w' → (∀ i, i < q + 6 → i ≠ 1 → σ' i = σ i) → Q .normal σ' w') → W P loc N' (e.agen N A st q kk) Q σ w
def FdsW (fs : Fds) : Prop := ∀ {w0 w : World} {G : Nat → Prop} {lo b oo vv idx off q kk : Nat} {Tt : TypeId} {d : Value} {l : List UInt8} {σ : Env} {loc : List Nat} {N' : Nat} {Q : Exit → Env → World → Prop} {tl : List C} (vs : List Val) (css : List (List Value)),
 zhy loc N' → fs.okV vs → smL vs → RepL w0 G vs css → w0.rangeAt b (oo + off) css.flatten → (∀ k, G k → k < lo) → b < lo → lo ≤ w0.heap.size → fs.hf P Tt idx off → σ vv = .pointer (some ⟨b, oo, none⟩) → vv < q → vv ≠ 1 → 5 ≤ q → AS w0 lo ver fl d l σ w → l.length + (fs.wr ver fl vs).length < 1099511627776 →
 (∀ σ' w' d', AS w0 lo ver fl d' (l ++ fs.wr ver fl vs) σ' w' → (∀ i, i < q → i ≠ 1 → σ' i = σ i) → WL P loc N' tl Q σ' w') → WL P loc N' (fs.agen N A vv Tt idx q kk ++ tl) Q σ w
end
section
variable {P : Program} {N : Nums} {A : zck}
theorem txt_tiA (B : Base P N) {t : Txt} (h : t = .nstr → N.zay ≠ 0) : ∃ d by', TI P (t.t N) d 1 by' t.zero ∧ zml d = false := by
 cases t with
 | str => exact ⟨_, _, B.string, rfl⟩
 | nstr => exact ⟨_, _, B.pstring (h rfl), rfl⟩
 | byt => exact ⟨_, _, B.Lu8, rfl⟩
 | nbyt => exact ⟨_, _, B.Lu8, rfl⟩
theorem ztc {t : Txt} {w : World} {G : Nat → Prop} {v : Val} {cs : List Value} (hv : t.okV v) (hr : Rep w G v cs) : ∃ c, cs = [c] := by
 cases t <;> cases v <;> simp only [Txt.okV] at hv
 ·obtain ⟨x, rfl, _⟩ := hv; simp only [Rep] at hr; exact ⟨_, hr⟩
 ·rename_i o
  cases o with
  | none => simp only [Rep] at hr; exact ⟨_, hr⟩
  | some s => simp only [Rep] at hr; obtain ⟨b, e, _⟩ := hr; exact ⟨_, e⟩
 ·simp only [Rep] at hr; obtain ⟨u, e, _⟩ := hr; exact ⟨_, e⟩
 ·simp only [Rep] at hr; obtain ⟨u, e, _⟩ := hr; exact ⟨_, e⟩
theorem tyW_pr (B : Base P N) (C : ApC P N A) {ver : Int} {fl : Bool} {k : PK} {dd : Option Value} (ha : (Ty.pr k dd).aok P N A) : TyW P N A ver fl (.pr k dd) := by
 intro w0 w G lo b oo vv idx off q kk Tt d l σ loc N' Q v cs hloc hv hsm hrep hr hG hb hlo hT hvv hq h hlen hQ
 obtain ⟨ha1, ha2⟩ := ha
 cases v with
 | num v =>
  simp only [Rep] at hrep
  subst hrep
  have hr' : w.rangeAt b (oo + off) v.cells.toList := h.mod.rangeAt (by omega) (fun _ _ _ h => by omega) hr
  unfold Ty.agen
  refine zf fun K hK => W_prF B (af_ne ha1) ha2 hv hT hvv hr' fun σ1 w1 m1 f1 hh => hK _ _ ?_
  exact W_prAp B C ha1 ha2 hv hh ((h.env (σ' := σ1) (f1 1 (by omega)) (f1 3 (by omega)) (f1 4 (by omega))).fresh m1) hlo hlen fun σ' w' d' ha f => hQ σ' w' d' ha fun i hi h1 => (f i h1).trans (f1 i (by omega))
 | _ => simp only [Ty.okV] at hv
theorem tyW_txt (B : Base P N) (C : ApC P N A) {ver : Int} {fl : Bool} {t : Txt} (ha : (Ty.txt t).aok P N A) : TyW P N A ver fl (.txt t) := by
 intro w0 w G lo b oo vv idx off q kk Tt d l σ loc N' Q v cs hloc hv hsm hrep hr hG hb hlo hT hvv hq h hlen hQ
 obtain ⟨ha1, ha2, ha3⟩ := ha
 have hv' : t.okV v := by cases v <;> exact hv
 obtain ⟨c, rfl⟩ := ztc hv' hrep
 obtain ⟨dt, by', hti, hag⟩ := txt_tiA B ha3
 have hr' : w.rangeAt b (oo + off) [c] := h.mod.rangeAt (by omega) (fun _ _ _ h => by omega) hr
 have hrep' : Rep w G v [c] := Rep.mod h.mod (fun k hk => ⟨by have := hG k hk; omega, fun _ h => by have := hG k hk; omega, hk⟩) v hrep
 have hld : ldv dt [c] = c := by unfold ldv; rw [hag]; rfl
 unfold Ty.agen
 refine zf fun K hK => zuj hT hti hvv hr' rfl (fun _ => rfl) fun σ1 f1 g1 => hK _ _ ?_
 rw [hld] at g1
 have e : (Ty.txt t).wr ver fl v = t.wr fl v := by cases v <;> simp only [Ty.wr]
 rw [e] at hlen hQ
 exact W_txtAp C ha1 ha2 hv' hsm hloc hq g1 hrep' hG (h.env (f1 1 (by omega)) (f1 3 (by omega)) (f1 4 (by omega))) hlo hlen fun σ' w' d' ha f => hQ σ' w' d' ha fun i hi h1 => (f i h1 (by omega)).trans (f1 i (by omega))
theorem elW_pr (B : Base P N) (C : ApC P N A) {ver : Int} {fl : Bool} {k : PK} (ha : (El.pr k).aok P N A) : ElW P N A ver fl (.pr k) := by
 intro w0 w G lo be n c j q kk st d l σ loc N' Q v cs hloc hv hsm hrep hr hG hb hlo hst het hvq hi hj hq h hlen hQ
 obtain ⟨ha1, ha2⟩ := ha
 cases v with
 | num v =>
  simp only [Rep] at hrep
  subst hrep
  have hr' : w.rangeAt be (j * k.sz) v.cells.toList := h.mod.rangeAt (by omega) (fun _ _ _ h => by omega) hr
  unfold El.agen
  refine zf fun K hK => W_prE B (af_ne ha1) ha2 hv hst hvq hi hj hr' fun σ1 w1 m1 f1 hh => hK _ _ ?_
  exact W_prAp B C ha1 ha2 hv hh ((h.env (σ' := σ1) (f1 1 (by omega)) (f1 3 (by omega)) (f1 4 (by omega))).fresh m1) hlo hlen fun σ' w' d' ha f => hQ σ' w' d' ha fun i hi h1 => (f i h1).trans (f1 i (by omega))
 | _ => simp only [El.okV] at hv
theorem elW_txt (B : Base P N) (C : ApC P N A) {ver : Int} {fl : Bool} {t : Txt} (ha : (El.txt t).aok P N A) : ElW P N A ver fl (.txt t) := by
 intro w0 w G lo be n c j q kk st d l σ loc N' Q v cs hloc hv hsm hrep hr hG hb hlo hst het hvq hi hj hq h hlen hQ
 obtain ⟨ha1, ha2, ha3⟩ := ha
 have hv' : t.okV v := by cases v <;> exact hv
 obtain ⟨x, rfl⟩ := ztc hv' hrep
 obtain ⟨dt, by', hti, hag⟩ := txt_tiA B ha3
 have hr' : w.rangeAt be (j * 1) [x] := h.mod.rangeAt (by omega) (fun _ _ _ h => by omega) hr
 have hrep' : Rep w G v [x] := Rep.mod h.mod (fun k hk => ⟨by have := hG k hk; omega, fun _ h => by have := hG k hk; omega, hk⟩) v hrep
 have hld : ldv dt [x] = x := by unfold ldv; rw [hag]; rfl
 unfold El.agen
 refine zf fun K hK => zya hst hti hvq hi hj hr' rfl (fun _ => rfl) fun σ1 f1 g1 => hK _ _ ?_
 rw [hld] at g1
 have e : (El.txt t).wr ver fl v = t.wr fl v := by cases v <;> simp only [El.wr]
 rw [e] at hlen hQ
 exact W_txtAp C ha1 ha2 hv' hsm hloc (by omega) g1 hrep' hG (h.env (f1 1 (by omega)) (f1 3 (by omega)) (f1 4 (by omega))) hlo hlen fun σ' w' d' ha f => hQ σ' w' d' ha fun i hi h1 => (f i h1 (by omega)).trans (f1 i (by omega))
end
section
variable {P : Program} {N : Nums} {A : zck}
theorem run_neqP {t a : TypeId} (h : P.underlying t = some (.pointer a)) {x y : Operand} {m : Option Addr} {w : World} :
  (do eqGuard .neq t x y (.pointer m) (.pointer none); binOp .neq t (.pointer m) (.pointer none) : Sem Value).run P w = .ok (.bool !m.isNone) w := by
 have e : (Op.equal t (.pointer m) (.pointer none)).run P w = .ok m.isNone w := by
  unfold Op.equal Op.maxDepth
  rw [show (10000 : Nat) = 9999 + 1 from rfl]
  unfold Op.equalIn
  rw [Sem.run_bind, run_underlying h, Result.andThen_ok]
  cases m <;> rfl
 have e1 : (eqGuard .neq t x y (.pointer m) (.pointer none)).run P w = .ok () w := rfl
 rw [Sem.run_bind, e1, Result.andThen_ok]
 show ((do pure (.bool (!(← Op.equal t (.pointer m) (.pointer none)))) : Sem Value)).run P w = _
 rw [Sem.run_bind, e, Result.andThen_ok]
 rfl
theorem tyW_tv (B : Base P N) (C : ApC P N A) {ver : Int} {fl : Bool} {k : Int} (ha : (Ty.tv k).aok P N A) : TyW P N A ver fl (.tv k) := by
 intro w0 w G lo b oo vv idx off q kk Tt d l σ loc N' Q v cs hloc hv hsm hrep hr hG hb hlo hT hvv hq h hlen hQ
 obtain ⟨⟨hs1, hs0⟩, hn1, hn0, hp⟩ := ha
 cases v with
 | nstr o =>
  have hv' : Txt.nstr.okV (.nstr o) := hv
  obtain ⟨c, rfl⟩ := ztc hv' hrep
  have hr' : w.rangeAt b (oo + off) [c] := h.mod.rangeAt (by omega) (fun _ _ _ h => by omega) hr
  have hrep' : Rep w G (.nstr o) [c] := Rep.mod h.mod (fun k hk => ⟨by have := hG k hk; omega, fun _ h => by have := hG k hk; omega, hk⟩) _ hrep
  have hld : ldv (.pointer N.zal) [c] = c := rfl
  unfold Ty.agen cAtv
  refine zf fun K hK => zuj hT (B.pstring hp) hvv hr' rfl (fun _ => rfl) fun σ1 f1 g1 => hK _ _ ?_
  rw [hld] at g1
  clear hK K
  have h1 : AS w0 lo ver fl d l σ1 w := h.env (f1 1 (by omega)) (f1 3 (by omega)) (f1 4 (by omega))
  refine zf fun K hK => zn fun τ => ?_
  simp +decide (disch := omega) only [bK, bE, BEq.rfl, Nat.reduceAdd, h1.f3]
  refine hK _ _ (zd fun σ2 hσ => ?_)
  have g2 : ∀ i, i ≠ q + 1 → σ2 i = σ1 i := fun i hi => by
   rw [hσ i]
   have e1 : (i + 100 == q + 1 + 100) = false := beq_eq_false_iff_ne.2 (by omega)
   simp +decide (disch := omega) only [bE, Nat.reduceBeqDiff, e1]
  have gq2 : σ2 (q + 1) = .bool (decide (ver < k)) := by
   rw [hσ (q + 1)]
   simp +decide (disch := omega) only [bE, BEq.rfl]
  clear hσ hK K
  have h2 : AS w0 lo ver fl d l σ2 w := h1.env (g2 1 (by omega)) (g2 3 (by omega)) (g2 4 (by omega))
  have ewr : (Ty.tv k).wr ver fl (.nstr o) = if ver < k then tvW fl (.nstr o) else Txt.nstr.wr fl (.nstr o) := by simp only [Ty.wr]
  rw [ewr] at hlen hQ
  refine W_if hloc gq2 ?_
  by_cases hk : ver < k
  ·simp only [hk, decide_true, if_true] at hlen hQ ⊢
   refine zf fun K hK => zn fun τ => ?_
   simp +decide (disch := omega) only [bK]
   refine hK _ _ (zd fun σ3 hσ => ?_)
   have g3 : ∀ i, i ≠ q + 2 → σ3 i = σ2 i := fun i hi => by
    rw [hσ i]
    have e1 : (i + 100 == q + 2 + 100) = false := beq_eq_false_iff_ne.2 (by omega)
    simp +decide (disch := omega) only [bE, e1]
   have gq3 : σ3 (q + 2) = .string ⟨#[]⟩ := by
    rw [hσ (q + 2)]
    simp +decide (disch := omega) only [bE, BEq.rfl]
   clear hσ hK K
   have gc : σ3 q = c := (g3 q (by omega)).trans ((g2 q (by omega)).trans g1)
   obtain ⟨m, rfl, hm, hsome⟩ := ztp hrep'
   have fin : ∀ σ4 : Env, (∀ i, i ≠ q + 2 → i ≠ q + 3 → σ4 i = σ3 i) → σ4 (q + 2) = strV (o.getD []) → W P loc N' (.seq (.ops [⟨some 0, .move (V (q + 2)), 0, none, []⟩, ⟨some (q + 4 + 100), .assign (T 0), 0, none, []⟩]) (Txt.str.apJ N A (q + 4) (q + 5))) Q σ4 w := by
    intro σ4 g4 gs
    refine zf fun K hK => zn fun τ => ?_
    simp +decide (disch := omega) only [bK, bE, BEq.rfl, gs]
    refine hK _ _ (zd fun σ5 hσ => ?_)
    have g5 : ∀ i, i ≠ q + 4 → σ5 i = σ4 i := fun i hi => by
     rw [hσ i]
     have e1 : (i + 100 == q + 4 + 100) = false := beq_eq_false_iff_ne.2 (by omega)
     simp +decide (disch := omega) only [bE, Nat.reduceBeqDiff, e1]
    have gq5 : σ5 (q + 4) = strV (o.getD []) := by
     rw [hσ (q + 4)]
     simp +decide (disch := omega) only [bE, BEq.rfl]
    clear hσ hK K
    have ga : ∀ i, i ≠ q + 2 → i ≠ q + 3 → i ≠ q + 4 → σ5 i = σ2 i := fun i x y z => (g5 i z).trans ((g4 i x y).trans (g3 i x))
    have h5 : AS w0 lo ver fl d l σ5 w := h2.env (ga 1 (by omega) (by omega) (by omega)) (ga 3 (by omega) (by omega) (by omega)) (ga 4 (by omega) (by omega) (by omega))
    have hsm2 : (o.getD []).length < 4294967295 := by
     cases o with
     | none => simp
     | some s => simpa only [Val.sm, Option.getD_some] using hsm
    have hwr : Txt.str.wr fl (.num (strV (o.getD []))) = tvW fl (.nstr o) := by rw [Txt.wr, zji, tvW]
    rw [← hwr] at hlen hQ
    refine W_txtApJ (v := .num (strV (o.getD []))) (G := G) C hs1 hs0 (show Txt.str.okV _ from ⟨_, rfl, by unfold big; omega⟩) (show (zhn _).length < _ by rw [zji]; exact hsm2) (by omega) (by omega) hloc (by omega) gq5 (by simp only [Rep]; rfl) hG h5 hlo hlen fun σ' w' d' ha f => hQ σ' w' d' ha fun i hi h1' => ?_
    exact (f i h1' (by omega)).trans ((ga i (by omega) (by omega) (by omega)).trans ((g2 i (by omega)).trans (f1 i (by omega))))
   refine zf fun K hK => zf fun K1 hK1 => zn fun τ => ?_
   simp +decide (disch := omega) only [bK, bE, BEq.rfl, gc, run_neqP (B.pstring hp).und]
   refine hK1 _ _ (zd fun σ4 hσ => ?_)
   have g4 : ∀ i, i ≠ q + 3 → σ4 i = σ3 i := fun i hi => by
    rw [hσ i]
    have e1 : (i + 100 == q + 3 + 100) = false := beq_eq_false_iff_ne.2 (by omega)
    simp +decide (disch := omega) only [bE, Nat.reduceBeqDiff, e1]
   have gq4 : σ4 (q + 3) = .bool !m.isNone := by
    rw [hσ (q + 3)]
    simp +decide (disch := omega) only [bE, BEq.rfl]
   clear hσ hK1 K1
   refine W_if hloc gq4 ?_
   cases o with
   | none =>
    rw [hm]
    simp only [Option.isNone_none, Bool.not_true, Bool.false_eq_true, if_false]
    exact zbv (hK _ _ (fin σ4 (fun i _ y => g4 i y) ((g4 _ (by omega)).trans gq3)))
   | some s =>
    rw [hm]
    simp only [Option.isNone_some, Bool.not_false, if_true]
    obtain ⟨b', rfl, hcell⟩ := hsome s rfl
    have gc4 : σ4 q = .pointer (some ⟨b', 0, none⟩) := (g4 q (by omega)).trans gc
    refine zn fun τ => ?_
    simp +decide (disch := omega) only [bK, bE, BEq.rfl, gc4]
    rw [zat rfl]
    simp +decide (disch := omega) only [bK, bE, BEq.rfl, B.string.run_load1 rfl, hcell]
    refine hK _ _ (zd fun σ5 hσ => fin σ5 (fun i x y => ?_) ?_)
    ·rw [hσ i]
     have e1 : (i + 100 == q + 2 + 100) = false := beq_eq_false_iff_ne.2 (by omega)
     simp +decide (disch := omega) only [bE, Nat.reduceBeqDiff, e1]
     exact g4 i y
    ·rw [hσ (q + 2)]
     simp +decide (disch := omega) only [bE, BEq.rfl]
     rfl
  ·simp only [hk, decide_false, Bool.false_eq_true, if_false] at hlen hQ ⊢
   exact W_txtApJ (v := .nstr o) C hn1 hn0 hv' hsm (by omega) (by omega) hloc hq ((g2 q (by omega)).trans g1) hrep' hG h2 hlo hlen fun σ' w' d' ha f => hQ σ' w' d' ha fun i hi h1' => (f i h1' (by omega)).trans ((g2 i (by omega)).trans (f1 i (by omega)))
 | _ => exact absurd hv (by intro h; exact h.elim)
end
section
variable {P : Program} {N : Nums} {A : zck}
section
variable {loc : List Nat} {N' : Nat} {Q : Exit → Env → World → Prop} {σ : Env} {w : World}
theorem W_gdA (hlo : zhy loc N') {g : Gd} {n : Nat} {c : Nat → C} {ver : Int} (h5 : σ 3 = .int .i16 ver) (hon : g.on ver = true → ∀ σ', Ag n σ σ' → W P loc N' (c (n + g.vn)) Q σ' w) (hoff : g.on ver = false → ∀ σ', Ag n σ σ' → Q .normal σ' w) : W P loc N' (cGdA N g n c) Q σ w := by
 cases g with
 | all => exact hon rfl σ (Ag.refl _ _)
 | ge m =>
  unfold cGdA
  refine zf fun K hK => zn fun τ => ?_
  simp +decide (disch := omega) only [bK, bE, BEq.rfl, Nat.reduceAdd, h5, zci, zjj, locs_envOf]
  refine hK _ _ (W_if hlo (upd_same _ _ _) ?_)
  have a := (Ag.refl n σ).upd (v := .bool (decide (ver ≥ m))) (Nat.le_refl n)
  by_cases hg : ver ≥ m
  ·rw [decide_eq_true hg] at a ⊢
   exact hon (by simp [Gd.on, hg]) _ a
  ·rw [decide_eq_false hg] at a ⊢
   exact zbv (hoff (by simp [Gd.on]; omega) _ a)
 | btw x y =>
  unfold cGdA
  refine zf fun K hK => zn fun τ => ?_
  simp +decide (disch := omega) only [bK, bE, BEq.rfl, Nat.reduceAdd, h5]
  have fin : ∀ (ρ : Env) (bb : Bool), (∀ i, ρ (i + 100) = σ i) → bb = (Gd.btw x y).on ver → K (upd (locs ρ) n (.bool bb)) w := by
   intro ρ bb hρ hb
   have e : locs ρ = σ := by funext i; exact hρ i
   rw [e]
   refine hK _ _ (W_if hlo (upd_same _ _ _) ?_)
   have a := (Ag.refl n σ).upd (v := .bool bb) (Nat.le_refl n)
   cases bb with
   | true => exact hon hb.symm _ a
   | false => exact zbv (hoff hb.symm _ a)
  by_cases hg : ver ≥ x
  ·rw [decide_eq_true hg]
   refine Eq.mpr (zbw (by simp +decide only [bE, BEq.rfl])) ?_
   simp +decide (disch := omega) only [bK, bE, Nat.reduceBeqDiff, Nat.reduceAdd, h5]
   refine Eq.mpr (zbw (by simp +decide only [bE, Nat.reduceBeqDiff, BEq.rfl])) ?_
   simp +decide (disch := omega) only [bK, bE, Nat.reduceBeqDiff, BEq.rfl, if_true, zcw]
   rw [show ∀ ρ : Env, ∀ v, locs (put ρ (some (n + 100)) v) = upd (locs ρ) n v from fun ρ v => zci ρ n v]
   refine fin _ _ (fun i => by simp +decide only [bE, Nat.reduceBeqDiff]) ?_
   simp [Gd.on, hg]
  ·rw [decide_eq_false hg]
   refine Eq.mpr (zcf (by simp +decide only [bE, BEq.rfl]; rfl)) ?_
   refine Eq.mpr (zcf (by simp +decide only [bE, Nat.reduceBeqDiff, BEq.rfl]; rfl)) ?_
   simp +decide (disch := omega) only [bK, bE, Nat.reduceBeqDiff, BEq.rfl, if_false, zcw]
   rw [show ∀ ρ : Env, ∀ v, locs (put ρ (some (n + 100)) v) = upd (locs ρ) n v from fun ρ v => zci ρ n v]
   refine fin _ _ (fun i => by simp +decide only [bE, Nat.reduceBeqDiff]) ?_
   simp [Gd.on]; omega
end
theorem fdsW_nil {ver : Int} {fl : Bool} : FdsW P N A ver fl .nil := by
 intro w0 w G lo b oo vv idx off q kk Tt d l σ loc N' Q tl vs css hloc hv hsm hrep hr hG hb hlo hT hvv hvq hv1 hq h hlen hQ
 refine hQ σ w d ?_ fun _ _ _ => rfl
 have e : Fds.wr ver fl .nil vs = [] := by cases vs <;> rfl
 rw [e, List.append_nil]; exact h
theorem fdsW_cons (B : Base P N) {ver : Int} {fl : Bool} {g : Gd} {ty : Ty} {r : Fds} (h1 : TyW P N A ver fl ty) (h2 : FdsW P N A ver fl r) : FdsW P N A ver fl (.cons g ty r) := by
 intro w0 w G lo b oo vv idx off q kk Tt d l σ loc N' Q tl vs css hloc hv hsm hrep hr hG hb hlo hT hvv hvq hv1 hq h hlen hQ
 cases vs with
 | nil => simp only [Fds.okV] at hv
 | cons v vs =>
  obtain ⟨c, rest, rfl, r1, r2⟩ := hrep
  simp only [smL] at hsm
  have hcl := Ty.rep_len ty v hv.1 r1
  rw [List.flatten_cons, zx, hcl, Nat.add_assoc] at hr
  obtain ⟨hr1, hr2⟩ := hr
  have e : Fds.wr ver fl (.cons g ty r) (v :: vs) = (if g.on ver then ty.wr ver fl v else []) ++ r.wr ver fl vs := by rw [Fds.wr]
  rw [e] at hlen hQ
  rw [List.length_append] at hlen
  rw [Fds.agen, List.cons_append]
  refine WL_one (W_gdA hloc h.f3 (fun hon σ1 ag => ?_) (fun hoff σ1 ag => ?_))
  ·rw [if_pos hon] at hlen hQ
   refine h1 v c hloc hv.1 hsm.1 r1 hr1 hG hb hlo hT.1 (by rw [ag vv hvq]; exact hvv) (by omega) (h.env (ag 1 (by omega)) (ag 3 (by omega)) (ag 4 (by omega))) (by omega) fun σ2 w2 d2 ha f => ?_
   refine h2 vs rest hloc hv.2 hsm.2 r2 hr2 hG hb hlo hT.2 (by rw [f vv (by omega) hv1, ag vv hvq]; exact hvv) (by omega) hv1 (by omega) ha (by rw [List.length_append]; omega) fun σ3 w3 d3 ha3 f3 => ?_
   exact hQ σ3 w3 d3 (by rw [← List.append_assoc]; exact ha3) fun i hi h1 => ((f3 i (by omega) h1).trans (f i (by omega) h1)).trans (ag i hi)
  ·rw [if_neg (by rw [hoff]; decide)] at hlen hQ
   rw [List.nil_append] at hQ
   refine h2 vs rest hloc hv.2 hsm.2 r2 hr2 hG hb hlo hT.2 (by rw [ag vv hvq]; exact hvv) (by omega) hv1 (by omega) (h.env (ag 1 (by omega)) (ag 3 (by omega)) (ag 4 (by omega))) (by simp at hlen; omega) fun σ3 w3 d3 ha3 f3 => ?_
   exact hQ σ3 w3 d3 ha3 fun i hi h1 => (f3 i (by omega) h1).trans (ag i hi)
theorem elW_row (B : Base P N) {ver : Int} {fl : Bool} {T' pT dflt : Nat} {fs : Fds} (ha : fs.hf P T' 0 0) (h1 : FdsW P N A ver fl fs) : ElW P N A ver fl (.row T' pT dflt fs) := by
 intro w0 w G lo be n c j q kk st d l σ loc N' Q v cs hloc hv hsm hrep hr hG hb hlo hst het hvq hi hj hq h hlen hQ
 obtain ⟨dt, by', z, het⟩ := het
 cases v with
 | row vs =>
  simp only [Rep] at hrep
  obtain ⟨css, rfl, hrl⟩ := hrep
  have hix := fun {w : World} => zbf (P := P) (w := w) hst het (bl := be) (o := 0) (n := n) (c := c) (i := j) (k := .i64) hj
  unfold El.agen
  refine zf fun K hK => zn fun τ => ?_
  simp +decide (disch := omega) only [bK, bE, Nat.reduceBeqDiff, BEq.rfl, Nat.zero_add, hvq, hi, hix]
  refine hK _ _ (zd fun σ1 hσ => ?_)
  have g : ∀ i, i ≠ q + 6 → σ1 i = σ i := fun i hi => by
   rw [hσ i]
   have e1 : (i + 100 == q + 6 + 100) = false := beq_eq_false_iff_ne.2 (by omega)
   simp +decide (disch := omega) only [bE, Nat.reduceBeqDiff, e1]
  have gq : σ1 (q + 6) = .pointer (some ⟨be, j * (El.row T' pT dflt fs).sz, none⟩) := by
   rw [hσ (q + 6)]
   simp +decide (disch := omega) only [bE, BEq.rfl]
  clear hσ hK K
  have e : (El.row T' pT dflt fs).wr ver fl (.row vs) = fs.wr ver fl vs := by simp only [El.wr]
  rw [e] at hlen hQ
  have key := h1 (Tt := T') (idx := 0) (off := 0) (kk := kk + 2) (vv := q + 6) (q := q + 7) (tl := []) (Q := Q) vs css hloc hv (by simpa only [Val.sm] using hsm) hrl (by rw [Nat.add_zero]; exact hr) hG hb hlo ha gq (by omega) (by omega) (by omega) (h.env (g 1 (by omega)) (g 3 (by omega)) (g 4 (by omega))) hlen fun σ3 w3 d3 ha3 f3 => hQ σ3 w3 d3 ha3 fun i hi h1 => (f3 i (by omega) h1).trans (g i (by omega))
  rw [List.append_nil] at key
  cases hl : fs.agen N A (q + 6) T' 0 (q + 7) (kk + 2) with
  | nil => rw [hl] at key; exact zbv key
  | cons x l => rw [hl] at key; exact zif (by simp) key
 | _ => simp only [El.okV] at hv
end
section
variable {P : Program} {N : Nums} {A : zck}
theorem fdsW_tags (B : Base P N) (F : Fns P N) (C : ApC P N A) {ver : Int} {fl : Bool} : FdsW P N A ver fl .tags := by
 intro w0 w G lo b oo vv idx off q kk Tt d l σ loc N' Q tl vs css hloc hv hsm hrep hr hG hb hlo hT hvv hvq hv1 hq h hlen hQ
 match vs, hv with
 | [.tags u], hv =>
  obtain ⟨c, r, rfl, r1, r2⟩ := hrep
  simp only [RepL] at r2
  subst r2
  simp only [Rep] at r1
  obtain ⟨v, rfl, ht⟩ := r1
  simp only [smL, Val.sm, and_true] at hsm
  have hT : HF P Tt idx off := hT
  have e : Fds.wr ver fl .tags [.tags u] = if fl then zuq u else [] := rfl
  rw [e] at hlen hQ
  rw [Fds.agen]
  have hbw : b < w0.heap.size := by omega
  have mw := h.mod.size
  have hc0 : w0.cell? ⟨b, oo + off, none⟩ = some v := by
   have := hr 0 v (by simp); simpa using this
  have hc : w.cell? ⟨b, oo + off, none⟩ = some v := by rw [h.mod.cell _ _ hbw (fun h => by omega)]; exact hc0
  have htw : zoe w G v u := ht.mod h.mod fun k hk => ⟨by have := hG k hk; omega, fun _ h => by have := hG k hk; omega, hk⟩
  refine WL_one ?_
  unfold cAtags
  refine zf fun K hK => zn fun τ => ?_
  simp +decide (disch := omega) only [bK, bE, Nat.reduceAdd, h.f4]
  refine hK _ _ (zd fun σ1 hσ => ?_)
  have g : ∀ i, i ≠ q → σ1 i = σ i := fun i hi => by
   rw [hσ i]
   have e1 : (i + 100 == q + 100) = false := beq_eq_false_iff_ne.2 (by omega)
   simp +decide (disch := omega) only [bE, e1]
  have gq : σ1 q = .bool fl := by
   rw [hσ q]
   simp +decide (disch := omega) only [bE, BEq.rfl]
  clear hσ hK K
  have h1 : AS w0 lo ver fl d l σ1 w := h.env (g 1 (by omega)) (g 3 (by omega)) (g 4 (by omega))
  have hvv1 : σ1 vv = .pointer (some ⟨b, oo, none⟩) := by rw [g vv (by omega)]; exact hvv
  refine W_if hloc gq ?_
  cases fl with
  | false =>
   simp only [Bool.false_eq_true, if_false, List.append_nil] at hQ ⊢
   exact zbv (hQ σ1 w d h1 fun i hi _ => g i (by omega))
  | true =>
   simp only [if_true] at hQ hlen ⊢
   have hlt : l.length + ((uvB u.length).length + ((zdd u).flatMap tagW).length) < 1099511627776 := by
    have : (zuq u).length = (uvB u.length).length + ((zdd u).flatMap tagW).length := by simp [zuq]
    omega
   have e32 : ∀ m : Int, IntKind.u32.wrap m = m % 4294967296 := fun m => by simp [IntKind.wrap, IntKind.signed, IntKind.bits]
   have hcv : IntKind.u32.wrap (u.length : Int) = u.length := by rw [e32]; omega
   have hadd : IntKind.u32.wrap (0 + (u.length : Int)) = u.length := by rw [e32]; omega
   refine zf fun K hK => zn fun τ => ?_
   simp +decide (disch := omega) only [bK, bE, Nat.reduceBeqDiff, BEq.rfl, Nat.reduceAdd, h1.f1, hvv1]
   rw [zat rfl]
   simp +decide (disch := omega) only [bK, bE, BEq.rfl, hT.run]
   rw [zbb C.tl.has]
   simp +decide (disch := omega) only [bK, bE, BEq.rfl]
   refine (zvy B C.tn.tags C.tl hc htw).mono ?_
   rintro _ w2 ⟨rfl, rfl⟩
   simp +decide (disch := omega) only [bK, zax B.int B.uint32 ⟨_, rfl⟩, hcv, hadd]
   rw [zah C.uv.uv.has]
   simp +decide (disch := omega) only [bK, bE, Nat.reduceBeqDiff, BEq.rfl]
   refine (zuf B C.uv (n := u.length) (by omega) h1.own (Nat.le_trans hlo mw) (by omega)).mono ?_
   intro d2 w2 ha2
   refine hK _ _ (zd fun σ2 hσ => ?_)
   have g2 : ∀ i, σ2 i = if i = 1 then d2 else σ1 i := fun i => by
    rw [hσ i]
    by_cases hi : i = 1
    ·subst hi; rfl
    ·have e1 : (i + 100 == 101) = false := beq_eq_false_iff_ne.2 (by omega)
     rw [if_neg hi]
     simp +decide only [bE, Nat.reduceBeqDiff, e1]
   clear hσ hK K
   have h2 := h1.step ha2 (σ' := σ2) (by rw [g2]; rfl) (by rw [g2]; rfl) (by rw [g2]; rfl)
   have hvv2 : σ2 vv = .pointer (some ⟨b, oo, none⟩) := by rw [g2, if_neg hv1]; exact hvv1
   have hc2 : w2.cell? ⟨b, oo + off, none⟩ = some v := by rw [h2.mod.cell _ _ hbw (fun h => by omega)]; exact hc0
   have htw2 : zoe w2 G v u := ht.mod h2.mod fun k hk => ⟨by have := hG k hk; omega, fun _ h => by have := hG k hk; omega, hk⟩
   refine zn fun τ => ?_
   simp +decide (disch := omega) only [bK, bE, Nat.reduceBeqDiff, Nat.reduceAdd, hvv2]
   rw [zat rfl]
   simp +decide (disch := omega) only [bK, bE, Nat.reduceBeqDiff, BEq.rfl, hT.run, h2.f1]
   rw [zah C.ea.has]
   simp +decide (disch := omega) only [bK, bE, Nat.reduceBeqDiff, BEq.rfl]
   refine (ap_Each B F C.tn C.uv C.e1 C.ea hc2 hb hG htw2 (by omega) (fun x hx => by have := hsm.2 x hx; omega) h2.own (Nat.le_trans hlo h2.mod.size) (by rw [List.length_append]; omega)).mono ?_
   rintro d3 w3 ⟨ho3, m3⟩
   have fr : ∀ (σ' : Env), (∀ i, σ' i = if i = 1 then d3 else σ2 i) → WL P loc N' tl Q σ' w3 := fun σ' hσ => by
    refine hQ σ' w3 d3 ⟨by rw [hσ]; rfl, by rw [hσ]; exact h2.f3, by rw [hσ]; exact h2.f4, ?_, h2.mod.trans m3 fun _ _ _ h => h.elim id id⟩ fun i hi h1 => by rw [hσ, if_neg h1, g2, if_neg h1, g i (by omega)]
    have e5 : l ++ zuq u = l ++ uvB u.length ++ (zdd u).flatMap tagW := by simp [zuq, List.append_assoc]
    rw [e5]; exact ho3
   refine zd (K := fun σ' w' => WL P loc N' tl Q σ' w') fun σ' hσ => fr σ' fun i => ?_
   rw [hσ i]
   by_cases hi : i = 1
   ·subst hi; rfl
   ·have e1 : (i + 100 == 101) = false := beq_eq_false_iff_ne.2 (by omega)
    rw [if_neg hi]
    simp +decide only [bE, Nat.reduceBeqDiff, e1]
end
section
variable {P : Program} {N : Nums} {A : zck}
theorem tyW_arr (B : Base P N) (C : ApC P N A) {ver : Int} {fl : Bool} (hver : 0 ≤ ver) {st : Nat} {nul : Option Int} {e : El} (ha : (Ty.arr st nul e).aok P N A) (he : ElW P N A ver fl e) : TyW P N A ver fl (.arr st nul e) := by
 intro w0 w G lo b oo vv idx off q kk Tt d l σ loc N' Q v cs hloc hv hsm hrep hr hG hb hlo hT hvv hq h hlen hQ
 obtain ⟨hst, het, hal, hea⟩ := ha
 have go : ∀ (a : Option Addr) (c : Nat) (vs : List Val), w0.cell? ⟨b, oo + off, none⟩ = some (.slice a vs.length c) → vs.length < 4294967295 → (∀ x ∈ vs, e.okV x) → (∀ x ∈ vs, x.sm) →
   (vs ≠ [] → ∃ be css, a = some ⟨be, 0, none⟩ ∧ (∀ x ∈ css, x.length = e.sz) ∧ RepL w0 G vs css ∧ w0.rangeAt be 0 css.flatten ∧ be < lo) →
   l.length + (zao fl (nul.isSome && a.isNone) vs.length 4 ++ vs.flatMap (e.wr ver fl)).length < 1099511627776 →
   (∀ σ' w' d', AS w0 lo ver fl d' (l ++ (zao fl (nul.isSome && a.isNone) vs.length 4 ++ vs.flatMap (e.wr ver fl))) σ' w' → (∀ i, i < q → i ≠ 1 → σ' i = σ i) → Q .normal σ' w') → W P loc N' (Ty.agen N A vv Tt idx (.arr st nul e) q kk) Q σ w := by
  intro a c vs hcell hvl hok hsmv hmem hlen hQ
  obtain ⟨cnt, hcnt⟩ : ∃ x, x = zao fl (nul.isSome && a.isNone) vs.length 4 := ⟨_, rfl⟩
  rw [← hcnt] at hlen hQ
  rw [List.length_append] at hlen
  have hr' : w.rangeAt b (oo + off) [.slice a vs.length c] := zha.2 (by rw [h.mod.cell _ _ (by omega) (fun h => by omega)]; exact hcell)
  unfold Ty.agen
  refine zf fun K hK => zuj hT hst hvv hr' rfl (fun _ => rfl) fun σ1 f1 g1 => hK _ _ ?_
  clear hK K
  have g1 : σ1 q = .slice a vs.length c := g1
  have h1 := h.env (σ' := σ1) (f1 1 (by omega)) (f1 3 (by omega)) (f1 4 (by omega))
  refine zf fun K hK => W_al C hloc hst hal hq g1 hvl h1 hlo (by rw [← hcnt]; omega) fun σ2 w2 d2 h2 f2 => hK _ _ ?_
  clear hK K
  rw [← hcnt] at h2
  have g2 : σ2 q = .slice a vs.length c := by rw [f2 q (by omega) (by omega)]; exact g1
  refine zf fun K hK => zn fun τ => ?_
  simp +decide (disch := omega) only [bK, bE, BEq.rfl, g2, hst.run_len]
  refine hK _ _ (zd fun σ3 hσ => ?_)
  have f3 : ∀ i, i ≠ q + 2 → i ≠ q + 3 → σ3 i = σ2 i := fun i hi1 hi2 => by
   rw [hσ i]
   have e1 : (i + 100 == q + 2 + 100) = false := beq_eq_false_iff_ne.2 (by omega)
   have e2 : (i + 100 == q + 3 + 100) = false := beq_eq_false_iff_ne.2 (by omega)
   simp +decide (disch := omega) only [bE, Nat.reduceBeqDiff, e1, e2]
  have n3 : σ3 (q + 2) = .int .i64 vs.length := by
   rw [hσ (q + 2)]
   have e2 : (q + 2 + 100 == q + 3 + 100) = false := beq_eq_false_iff_ne.2 (by omega)
   simp +decide (disch := omega) only [bE, BEq.rfl, e2]
  have j3 : σ3 (q + 3) = .int .i64 ((0 : Nat) : Int) := by
   rw [hσ (q + 3)]
   simp +decide (disch := omega) only [bE, BEq.rfl]
   rfl
  clear hσ hK K
  refine zgv hloc (L := vs.length) (by omega) (fun j σ w => (∃ d, AS w0 lo ver fl d (l ++ cnt ++ (vs.take j).flatMap (e.wr ver fl)) σ w) ∧ σ q = .slice a vs.length c ∧ σ (q + 2) = .int .i64 vs.length ∧ σ (q + 3) = .int .i64 j ∧ j ≤ vs.length ∧ ∀ i, i < q → i ≠ 1 → σ i = σ2 i)
   (fun j σ w h => ⟨h.2.2.2.1, h.2.2.1, h.2.2.2.2.1⟩) (fun j σ w b h => ?_) ?_ (fun σ' w' h => ?_) (fun j σ4 w4 hj h => ?_)
  ·obtain ⟨⟨d, hd⟩, i1, i2, i3, i4, i5⟩ := h
   exact ⟨⟨d, hd.env (zq (by omega)) (zq (by omega)) (zq (by omega))⟩, by rw [zq (by omega)]; exact i1, by rw [zq (by omega)]; exact i2, by rw [zq (by omega)]; exact i3, i4, fun i hi h1 => by rw [zq (by omega)]; exact i5 i hi h1⟩
  ·exact ⟨⟨d2, by rw [List.take_zero, List.flatMap_nil, List.append_nil]; exact h2.env (f3 1 (by omega) (by omega)) (f3 3 (by omega) (by omega)) (f3 4 (by omega) (by omega))⟩, by rw [f3 q (by omega) (by omega)]; exact g2, n3, j3, Nat.zero_le _, fun i hi _ => f3 i (by omega) (by omega)⟩
  ·obtain ⟨⟨d5, hd⟩, _, _, _, _, i5⟩ := h
   rw [List.take_length, List.append_assoc] at hd
   exact hQ σ' w' d5 hd fun i hi h1 => ((i5 i hi h1).trans (f2 i h1 (by omega))).trans (f1 i (by omega))
  ·obtain ⟨⟨d5, hd⟩, i1, i2, i3, i4, i5⟩ := h
   have hx : vs[j]? = some vs[j] := List.getElem?_eq_getElem hj
   obtain ⟨be, css, rfl, hcs, hrl, hrg, hbe⟩ := hmem (fun e => by rw [e] at hj; simp at hj)
   obtain ⟨cj, hcj, hrj⟩ := hrl.get hx
   have hgj := zit hrg hcs hcj
   rw [Nat.zero_add] at hgj
   have htk : (vs.take (j + 1)).flatMap (e.wr ver fl) = (vs.take j).flatMap (e.wr ver fl) ++ e.wr ver fl vs[j] := by
    rw [List.take_add_one, hx]; simp only [Option.toList_some, List.flatMap_append, List.flatMap_cons, List.flatMap_nil, List.append_nil]
   have hlj : ((vs.take j).flatMap (e.wr ver fl)).length + (e.wr ver fl vs[j]).length ≤ (vs.flatMap (e.wr ver fl)).length := by
    have e1 : vs.flatMap (e.wr ver fl) = (vs.take (j + 1)).flatMap (e.wr ver fl) ++ (vs.drop (j + 1)).flatMap (e.wr ver fl) := by rw [← List.flatMap_append, List.take_append_drop]
    rw [e1, htk, List.length_append, List.length_append]; omega
   refine zf fun K2 hK2 => zn fun τ => ?_
   simp +decide (disch := omega) only [bK, bE, BEq.rfl, i3]
   refine hK2 _ _ (zd fun σ5 hσ => ?_)
   have f5 : ∀ i, i ≠ q + 5 → σ5 i = σ4 i := fun i hi => by
    rw [hσ i]
    have e1 : (i + 100 == q + 5 + 100) = false := beq_eq_false_iff_ne.2 (by omega)
    simp +decide (disch := omega) only [bE, Nat.reduceBeqDiff, e1]
   have g5 : σ5 (q + 5) = .int .i64 j := by
    rw [hσ (q + 5)]
    simp +decide (disch := omega) only [bE, BEq.rfl]
   clear hσ hK2 K2
   refine he vs[j] cj hloc (hok _ (List.getElem_mem hj)) (hsmv _ (List.getElem_mem hj)) hrj hgj hG hbe hlo hst het (by rw [f5 q (by omega)]; exact i1) g5 hj hq (hd.env (f5 1 (by omega)) (f5 3 (by omega)) (f5 4 (by omega))) (by rw [List.length_append, List.length_append]; omega) fun σ6 w6 d6 h6 f6 => ?_
   have k3 : σ6 (q + 3) = .int .i64 j := by rw [f6 (q + 3) (by omega) (by omega), f5 (q + 3) (by omega)]; exact i3
   refine ⟨k3, ⟨d6, ?_⟩, by rw [zq (by omega), f6 q (by omega) (by omega), f5 q (by omega)]; exact i1, by rw [zq (by omega), f6 (q + 2) (by omega) (by omega), f5 (q + 2) (by omega)]; exact i2, upd_same _ _ _, hj, fun i hi h1 => by rw [zq (by omega), f6 i (by omega) h1, f5 i (by omega)]; exact i5 i hi h1⟩
   rw [htk, ← List.append_assoc]
   exact h6.env (zq (by omega)) (zq (by omega)) (zq (by omega))
 cases v with
 | nilA =>
  simp only [Rep] at hrep
  subst hrep
  have e1 : (nul.isSome && (none : Option Addr).isNone) = nulAt ver nul := by
   cases nul with
   | none => rfl
   | some k =>
    have : k ≤ ver := by have := hal.1; omega
    simp [nulAt, this]
  refine go none 0 [] (by have := hr 0 _ rfl; simpa using this) (by simp) (fun x hx => by cases hx) (fun x hx => by cases hx) (fun h => absurd rfl h) ?_ ?_
  ·rw [e1]; simpa [Ty.wr] using hlen
  ·rw [e1]; simpa [Ty.wr] using hQ
 | arr sz vs =>
  obtain ⟨rfl, hlen2, hok⟩ := hv
  simp only [Rep] at hrep
  obtain ⟨be, c, css, rfl, hle, hGb, hcs, hrl, hrg⟩ := hrep
  have e1 : (nul.isSome && (some (⟨be, 0, none⟩ : Addr)).isNone) = false := by simp
  refine go (some ⟨be, 0, none⟩) c vs (by have := hr 0 _ rfl; simpa using this) (by simp only [Val.sm] at hsm; exact hsm.1) hok (fun x hx => by simp only [Val.sm] at hsm; exact smL.mem hsm.2 x hx) (fun hne => ⟨be, css, rfl, hcs, hrl, hrg, hG be (hGb hne)⟩) ?_ ?_
  ·rw [e1]; simpa [Ty.wr] using hlen
  ·rw [e1]; simpa [Ty.wr] using hQ
 | _ => simp only [Ty.okV] at hv
end
section
variable {P : Program} {N : Nums} {A : zck}
mutual
theorem Ty.wW (B : Base P N) (F : Fns P N) (C : ApC P N A) {ver : Int} {fl : Bool} (hver : 0 ≤ ver) : ∀ (ty : Ty), ty.aok P N A → TyW P N A ver fl ty
 | .pr k d, h => tyW_pr B C h
 | .txt t, h => tyW_txt B C h
 | .arr st nul e, h => tyW_arr B C hver h (El.wW B F C hver e h.2.2.2)
 | .row .., h => h.elim
 | .tv _, h => tyW_tv B C h
theorem El.wW (B : Base P N) (F : Fns P N) (C : ApC P N A) {ver : Int} {fl : Bool} (hver : 0 ≤ ver) : ∀ (e : El), e.aok P N A → ElW P N A ver fl e
 | .pr k, h => elW_pr B C h
 | .txt t, h => elW_txt B C h
 | .row T' pT d fs, h => elW_row B h.1 (Fds.wW B F C hver fs h.2)
theorem Fds.wW (B : Base P N) (F : Fns P N) (C : ApC P N A) {ver : Int} {fl : Bool} (hver : 0 ≤ ver) : ∀ (fs : Fds), fs.aok P N A → FdsW P N A ver fl fs
 | .nil, _ => fdsW_nil
 | .tags, _ => fdsW_tags B F C
 | .cons g ty r, h => fdsW_cons B (Ty.wW B F C hver ty h.1) (Fds.wW B F C hver r h.2)
end
theorem zuc (B : Base P N) (F : Fns P N) (C : ApC P N A) {m : Msg} (ha : m.fs.aok P N A) (hhf : m.fs.hf P m.tT 1 1) (hv0 : HF P m.tT 0 0) {f : FuncId} (hF : FOk P f 2 (m.appC N A) [.var 2])
  {w : World} {G : Nat → Prop} {M lo : Nat} {ver : Int} {d : Value} {l : List UInt8} {vs : List Val} {css : List (List Value)} (hver : 0 ≤ ver) (hc : w.cell? ⟨M, 0, none⟩ = some (.int .i16 ver)) (hv : m.fs.okV vs) (hsm : smL vs) (hrep : RepL w G vs css) (hr : w.rangeAt M 1 css.flatten)
  (hG : ∀ k, G k → k < lo) (hM : M < lo) (hlo : lo ≤ w.heap.size) (ho : OwnB w lo d l) (hlen : l.length + (m.fs.wr ver (decide (ver ≥ m.fl)) vs).length < 1099511627776) :
  Call P f #[.pointer (some ⟨M, 0, none⟩), d] w fun v' w' => OwnB w' lo v' (l ++ m.fs.wr ver (decide (ver ≥ m.fl)) vs) ∧ Mod w w' (fun k _ => lo ≤ k) := by
 refine hF.call rfl fun loc N' hloc => ?_
 unfold Msg.appC
 rw [List.append_assoc]
 refine zif (by simp) ?_
 simp only [List.cons_append, List.nil_append]
 refine zau fun K hK => zn fun τ => ?_
 simp +decide only [bK]
 refine hK _ _ (zd fun σ1 hσ => ?_)
 have a0 := hσ 0
 have a1 := hσ 1
 simp +decide only [bE, Nat.reduceBeqDiff, Nat.reduceAdd, Nat.zero_add, zbm, zcc] at a0 a1
 clear hσ hK K
 refine zau fun K hK => zn fun τ => ?_
 simp +decide only [bK, bE, BEq.rfl, Nat.zero_add, a0]
 rw [zat rfl]
 simp +decide only [bK, bE, BEq.rfl, Nat.add_zero, hv0.run, B.int16.run_load1 rfl, hc]
 refine hK _ _ (zd fun σ2 hσ => ?_)
 have b0 := hσ 0
 have b1 := hσ 1
 have b3 := hσ 3
 simp +decide only [bE, Nat.reduceBeqDiff, BEq.rfl, Nat.reduceAdd, Nat.zero_add, a0, a1] at b0 b1 b3
 clear hσ hK K
 refine zau fun K hK => zn fun τ => ?_
 simp +decide only [bK, bE, Nat.reduceAdd]
 refine hK _ _ (zd fun σ3 hσ => ?_)
 have c0 := hσ 0
 have c1 := hσ 1
 have c3 := hσ 3
 simp +decide only [bE, Nat.reduceBeqDiff, Nat.reduceAdd, Nat.zero_add, b0, b1, b3] at c0 c1 c3
 clear hσ hK K
 refine zau fun K hK => zn fun τ => ?_
 simp +decide only [bK, bE, BEq.rfl, Nat.reduceAdd, c3]
 refine hK _ _ (zd fun σ4 hσ => ?_)
 have d0 := hσ 0
 have d1 := hσ 1
 have d3 := hσ 3
 have d4 := hσ 4
 simp +decide only [bE, Nat.reduceBeqDiff, BEq.rfl, Nat.reduceAdd, Nat.zero_add, c0, c1, c3] at d0 d1 d3 d4
 clear hσ hK K
 refine zau fun K hK => zn fun τ => ?_
 simp +decide only [bK, bE, Nat.reduceAdd]
 refine hK _ _ (zd fun σ5 hσ => ?_)
 have e0 := hσ 0
 have e1 := hσ 1
 have e3 := hσ 3
 have e4 := hσ 4
 simp +decide only [bE, Nat.reduceBeqDiff, Nat.reduceAdd, Nat.zero_add, d0, d1, d3, d4] at e0 e1 e3 e4
 clear hσ hK K
 refine Fds.wW B F C hver m.fs ha (idx := 1) (off := 1) (oo := 0) (vv := 0) (q := 5) (kk := 0) vs css hloc hv hsm hrep (by rw [Nat.zero_add]; exact hr) hG hM hlo hhf e0 (by decide) (by decide) (by decide) ⟨e1, e3, e4, ho, .refl _ _⟩ hlen fun σ6 w6 d6 h6 _ => ?_
 refine zau fun K hK => zn fun τ => ?_
 simp +decide only [bK, bE, BEq.rfl, Nat.reduceAdd, h6.f1]
 refine hK _ _ (zd fun σ7 hσ => zau fun K2 hK2 => zbl ?_)
 have g2 := hσ 2
 simp +decide only [bE, BEq.rfl, Nat.reduceAdd] at g2
 exact ⟨.inr rfl, _, rfl, by rw [g2]; exact h6.own, h6.mod⟩
end
theorem okV_sm {k : PK} {v : Value} (h : k.okV v) : (Val.num v).sm := by
 simp only [Val.sm]
 cases k with
 | bool => obtain ⟨x, rfl⟩ := h; simp [zhn]
 | uuid => obtain ⟨x, rfl, hx⟩ := h; simp [zhn, hx]
 | _ => obtain ⟨x, rfl, _⟩ := h; simp [zhn]
section
variable (N : Nums)
end
section
variable {P : Program} {N : Nums} {A : zck}
end
section
variable {P : Program} {N : Nums} {M : zaz} {A : zck}
theorem run_bs0 (B : Base P N) (w : World) : ∃ w', (Instr.buildSlice N.za 0 #[]).run P w = .ok (.slice (some ⟨w.heap.size, 0, none⟩) 0 0) w' ∧ Mod w w' zw ∧ w'.heap.size = w.heap.size + 1 ∧ OwnB w' w.heap.size (.slice (some ⟨w.heap.size, 0, none⟩) 0 0) [] := by
 exact ⟨_, zqj B.Lu8 B.uint8, Mod.alloc _ _ _, zae _ _, .inr ⟨w.heap.size, 0, rfl, Nat.le_refl _, by rw [zae]; exact Nat.lt_succ_self _, Nat.le_refl _, fun j hj => by simp at hj, fun j x hx => by simp at hx, rfl⟩⟩
end
section
variable (N : Nums) (A : zck)
def zfw : C := .seq (.ops [⟨some 102, .assign (.const (.slice none 0 0)), 0, none, []⟩]) (.seq (.ops [⟨some 0, .move (V 0), 0, none, []⟩, ⟨some 1, .move (V 1), 0, none, []⟩, ⟨some 2, .call ⟨.builtin .len, #[T 1], #[N.za]⟩, N.ze, none, []⟩,
  ⟨some 3, .convert N.ze N.zc (T 2), 0, none, []⟩, ⟨some 4, .binOp .add N.zc (.const (.int .u32 1)) (T 3) N.zc, 0, none, []⟩, ⟨some 5, .call ⟨.value (.func A.zcb), #[T 0, T 4], #[N.za, N.zc]⟩, N.za, none, []⟩, ⟨some 100, .assign (T 5), 0, none, []⟩])
 (.seq (.ops [⟨some 0, .move (V 0), 0, none, []⟩, ⟨some 1, .move (V 1), 0, none, []⟩, ⟨some 2, .call ⟨.builtin .append, #[T 0, T 1], #[N.za, N.za]⟩, N.za, none, []⟩, ⟨some 102, .assign (T 2), 0, none, []⟩]) .ret))
def zkx : C := .seq (.ops [⟨some 102, .assign (.const (.slice none 0 0)), 0, none, []⟩]) (.seq (.ops [⟨some 0, .move (V 0), 0, none, []⟩, ⟨some 1, .move (V 1), 0, none, []⟩, ⟨some 2, .call ⟨.builtin .len, #[T 1], #[N.za]⟩, N.ze, none, []⟩,
  ⟨some 3, .convert N.ze N.zbp (T 2), 0, none, []⟩, ⟨some 4, .call ⟨.value (.func A.zbi), #[T 0, T 3], #[N.za, N.zbp]⟩, N.za, none, []⟩, ⟨some 100, .assign (T 4), 0, none, []⟩])
 (.seq (.ops [⟨some 0, .move (V 0), 0, none, []⟩, ⟨some 1, .move (V 1), 0, none, []⟩, ⟨some 2, .call ⟨.builtin .append, #[T 0, T 1], #[N.za, N.za]⟩, N.za, none, []⟩, ⟨some 102, .assign (T 2), 0, none, []⟩]) .ret))
end
section
variable {P : Program} {N : Nums} {A : zck}
theorem zvb (B : Base P N) {w : World} {a : Option Addr} {n c : Nat} {ty : TypeId} : (Builtin.len_ #[N.za] ty #[.slice a n c]).run P w = .ok (.int .i64 (n : Int)) w := by
 simp [Builtin.len_, Sem.run_bind, B.Lu8.run_und, goInt]
theorem ztu {w : World} {G : Nat → Prop} {v : Value} {o : Option (List UInt8)} (h : OctG w G v o) : OctA w v (o.getD []) ∧ ∃ a c, v = .slice a (o.getD []).length c := by
 cases o with
 | none => exact ⟨.inl ⟨none, 0, h, rfl⟩, none, 0, h⟩
 | some l =>
  obtain ⟨b, o, c, rfl, h2, h3, h4⟩ := h
  exact ⟨.inr ⟨b, o, c, rfl, h2, h4⟩, _, _, rfl⟩
theorem zrh (B : Base P N) (hU : UvT P N A) (h : FOk P A.zdp 2 (zfw N A) [.var 2]) {w : World} {lo : Nat} {d c : Value} {l s : List UInt8} {G : Nat → Prop} {o : Option (List UInt8)} (hs : s = o.getD []) (hG : OctG w G c o) (hsm : s.length < 4294967295) (hGl : ∀ k, G k → k < lo)
  (ho : OwnB w lo d l) (hlo : lo ≤ w.heap.size) (hb : l.length + (uvB (s.length + 1) ++ s).length < 1099511627776) : Call P A.zdp #[d, c] w (Apd w lo d l (uvB (s.length + 1) ++ s)) := by
 obtain ⟨hA, a, cc, e⟩ := ztu hG
 rw [← hs] at e hA
 refine h.call rfl fun loc N' hlo' => ?_
 unfold zfw
 refine zf fun K hK => zn fun τ => ?_
 simp +decide only [bK]
 refine hK _ _ (zd fun σ1 hσ => ?_)
 have a0 := hσ 0
 have a1 := hσ 1
 simp +decide only [bE, Nat.reduceBeqDiff, Nat.reduceAdd, Nat.zero_add, zbm, zcc] at a0 a1
 clear hσ hK K
 rw [List.length_append] at hb
 refine zf fun K hK => zn fun τ => ?_
 rw [e] at a1
 simp +decide only [bK, bE, Nat.reduceBeqDiff, BEq.rfl, Nat.reduceAdd, Nat.zero_add, a0, a1, zvb B, zax B.int B.uint32 ⟨_, rfl⟩, zpq hsm]
 rw [zah hU.uv.has]
 simp +decide only [bK, bE, Nat.reduceBeqDiff, BEq.rfl]
 refine (zuf B hU (n := s.length + 1) (by omega) ho hlo (by omega)).mono ?_
 intro v1 w1 h1
 refine hK _ _ (zd fun σ2 hσ => ?_)
 have c0 := hσ 0
 have c1 := hσ 1
 simp +decide only [bE, Nat.reduceBeqDiff, BEq.rfl, Nat.reduceAdd, Nat.zero_add, a1] at c0 c1
 clear hσ hK K
 have hl1 : (l ++ uvB (s.length + 1)).length + s.length < 1099511627776 := by rw [List.length_append]; omega
 have mL := Apd.low ho h1
 have hA1 : OctA w1 (.slice a s.length cc) s := by
  have := (ztu (OctG.mod (G' := G) mL (fun k hk => ⟨by have := hGl k hk; omega, fun _ h => by have := hGl k hk; omega, hk⟩) hG)).1
  rwa [← hs, e] at this
 obtain ⟨v2, w2, h3, h4, h5, h6⟩ := zee (ty := N.za) B h1.own hA1 (Nat.le_trans hlo h1.mod.size) hl1
 refine zf fun K hK => zn fun τ => ?_
 simp +decide only [bK, bE, Nat.reduceBeqDiff, BEq.rfl, Nat.reduceAdd, Nat.zero_add, c0, c1, h3]
 refine hK _ _ (zd fun σ3 hσ => zbl ?_)
 have b2 := hσ 2
 simp +decide only [bE, BEq.rfl, Nat.reduceAdd] at b2
 exact ⟨.inr rfl, _, rfl, by rw [b2]; exact h1.trans ⟨h4, h5, h6⟩⟩
theorem ap_Int32w (B : Base P N) (hU : FOk P A.zdf 2 (zdx N A) [.var 2]) (h : FOk P A.zbi 2 (zew N A) [.var 2]) (n : Int) : ApF P A.zbi (.int .i32 (IntKind.i32.wrap n)) (fixB n 4) := by
 intro w lo v l ho hlo hb
 have := zoc B hU h (IntKind.i32.wrap n) ho hlo (by rw [zdr] at hb ⊢; exact hb)
 rwa [ziv (k := 4) rfl] at this
theorem ap_Bytes (B : Base P N) (hU : FOk P A.zdf 2 (zdx N A) [.var 2]) (hI : FOk P A.zbi 2 (zew N A) [.var 2]) (h : FOk P A.zgp 2 (zkx N A) [.var 2]) {w : World} {lo : Nat} {d c : Value} {l s : List UInt8} {G : Nat → Prop} {o : Option (List UInt8)} (hs : s = o.getD []) (hG : OctG w G c o) (hsm : s.length < 4294967295) (hGl : ∀ k, G k → k < lo)
  (ho : OwnB w lo d l) (hlo : lo ≤ w.heap.size) (hb : l.length + (fixB s.length 4 ++ s).length < 1099511627776) : Call P A.zgp #[d, c] w (Apd w lo d l (fixB s.length 4 ++ s)) := by
 obtain ⟨hA, a, cc, e⟩ := ztu hG
 rw [← hs] at e hA
 refine h.call rfl fun loc N' hlo' => ?_
 unfold zkx
 refine zf fun K hK => zn fun τ => ?_
 simp +decide only [bK]
 refine hK _ _ (zd fun σ1 hσ => ?_)
 have a0 := hσ 0
 have a1 := hσ 1
 simp +decide only [bE, Nat.reduceBeqDiff, Nat.reduceAdd, Nat.zero_add, zbm, zcc] at a0 a1
 clear hσ hK K
 rw [List.length_append] at hb
 refine zf fun K hK => zn fun τ => ?_
 rw [e] at a1
 simp +decide only [bK, bE, Nat.reduceBeqDiff, BEq.rfl, Nat.reduceAdd, Nat.zero_add, a0, a1, zvb B, zax B.int B.int32 ⟨_, rfl⟩]
 rw [zah hI.has]
 simp +decide only [bK, bE, Nat.reduceBeqDiff, BEq.rfl]
 refine (ap_Int32w B hU hI s.length ho hlo (by omega)).mono ?_
 intro v1 w1 h1
 refine hK _ _ (zd fun σ2 hσ => ?_)
 have c0 := hσ 0
 have c1 := hσ 1
 simp +decide only [bE, Nat.reduceBeqDiff, BEq.rfl, Nat.reduceAdd, Nat.zero_add, a1] at c0 c1
 clear hσ hK K
 have hl1 : (l ++ fixB s.length 4).length + s.length < 1099511627776 := by rw [List.length_append]; omega
 have mL := Apd.low ho h1
 have hA1 : OctA w1 (.slice a s.length cc) s := by
  have := (ztu (OctG.mod (G' := G) mL (fun k hk => ⟨by have := hGl k hk; omega, fun _ h => by have := hGl k hk; omega, hk⟩) hG)).1
  rwa [← hs, e] at this
 obtain ⟨v2, w2, h3, h4, h5, h6⟩ := zee (ty := N.za) B h1.own hA1 (Nat.le_trans hlo h1.mod.size) hl1
 refine zf fun K hK => zn fun τ => ?_
 simp +decide only [bK, bE, Nat.reduceBeqDiff, BEq.rfl, Nat.reduceAdd, Nat.zero_add, c0, c1, h3]
 refine hK _ _ (zd fun σ3 hσ => zbl ?_)
 have b2 := hσ 2
 simp +decide only [bE, BEq.rfl, Nat.reduceAdd] at b2
 exact ⟨.inr rfl, _, rfl, by rw [b2]; exact h1.trans ⟨h4, h5, h6⟩⟩
end
structure ApFns (P : Program) (N : Nums) (A : zck) : Prop where
 b : A.zhv ≠ 0 → FOk P A.zhv 2 (zlv N A) [.var 2]
 i8 : A.zhu ≠ 0 → N.zjw ≠ 0 ∧ FOk P A.zhu 2 (zlu N A) [.var 2]
 u16 : FOk P A.zdg 2 (zep N A) [.var 2]
 i16 : A.zbx ≠ 0 → FOk P A.zbx 2 (zfr N A) [.var 2]
 u32 : A.zbi ≠ 0 → FOk P A.zdf 2 (zdx N A) [.var 2]
 i32 : A.zbi ≠ 0 → FOk P A.zbi 2 (zew N A) [.var 2]
 u64 : A.zfp ≠ 0 → FOk P A.zfz 2 (zhj N A) [.var 2]
 i64 : A.zfp ≠ 0 → FOk P A.zfp 2 (zkw N A) [.var 2]
 uu : A.zhs ≠ 0 → N.zag ≠ 0 ∧ FOk P A.zhs 2 (zlt N A) [.var 3]
 str : A.zdw ≠ 0 → A.zbx ≠ 0 ∧ FOk P A.zdw 2 (zhk N A) [.var 2]
 cstr : A.zbs ≠ 0 → FOk P A.zbs 2 (zem N A) [.var 2]
 nstr : A.zda ≠ 0 → N.zay ≠ 0 ∧ A.zdw ≠ 0 ∧ FOk P A.zda 2 (zfd N A) [.var 2]
 cnstr : A.zbu ≠ 0 → N.zay ≠ 0 ∧ A.zbs ≠ 0 ∧ FOk P A.zbu 2 (zdo N A) [.var 2]
 byt : A.zgp ≠ 0 → A.zbi ≠ 0 ∧ FOk P A.zgp 2 (zkx N A) [.var 2]
 cbyt : A.zdp ≠ 0 → FOk P A.zdp 2 (zfw N A) [.var 2]
 nob : A.zht = 0 ∧ A.zfi = 0
 al : A.zce ≠ 0 → A.zbi ≠ 0 ∧ FOk P A.zce 2 (zid N A) [.var 2]
 cal : A.zba ≠ 0 → FOk P A.zba 2 (zex N A) [.var 2]
 nal : A.zaw ≠ 0 → A.zbi ≠ 0 ∧ FOk P A.zaw 3 (zeu N A) [.var 3]
 cnal : A.zak ≠ 0 → FOk P A.zak 3 (zdc N A) [.var 3]
 uv : UvT P N A
 tl : FOk P A.ziz 1 (zkt N A) [.var 1]
 ea : FOk P A.zek 2 (zfj N A) [.var 3]
 e1 : FOk P A.zcg 3 (zdq N A) []
section
variable {P : Program} {N : Nums} {A : zck}
theorem apC_of (B : Base P N) (H : ApFns P N A) (hT : EachN P N) : ApC P N A where
 pr k hk := by
  cases k with
  | en t => exact absurd rfl hk
  | bool => exact ⟨(H.b hk).has, fun v hv => by obtain ⟨x, rfl⟩ := hv; exact ap_Bool B (H.b hk) x⟩
  | i8 => exact ⟨(H.i8 hk).2.has, fun v hv => by obtain ⟨x, rfl, _⟩ := hv; exact ap_Int8 B (H.i8 hk).1 (H.i8 hk).2 x⟩
  | i16 => exact ⟨(H.i16 hk).has, fun v hv => by obtain ⟨x, rfl, _⟩ := hv; exact zug B H.u16 (H.i16 hk) x⟩
  | u16 => exact ⟨H.u16.has, fun v hv => by obtain ⟨x, rfl, _⟩ := hv; exact zwi B H.u16 x⟩
  | i32 => exact ⟨(H.i32 hk).has, fun v hv => by obtain ⟨x, rfl, _⟩ := hv; exact zoc B (H.u32 hk) (H.i32 hk) x⟩
  | i64 => exact ⟨(H.i64 hk).has, fun v hv => by obtain ⟨x, rfl, _⟩ := hv; exact ap_Int64 B (H.u64 hk) (H.i64 hk) x⟩
  | uuid =>
   exact ⟨(H.uu hk).2.has, fun v hv => by
    obtain ⟨s, rfl, hs⟩ := hv
    have e : PK.wr .uuid (.agg (s.map zam).toArray) = s := ztt s
    rw [e]
    intro w lo v l ho hlo hb
    exact ap_Uuid B (H.uu hk).1 (H.uu hk).2 hs ho hlo hb⟩
 txt t fl ht := by
  obtain ⟨n3, n4⟩ := H.nob
  cases t with
  | str =>
   cases fl with
   | false =>
    refine ⟨(H.str ht).2.has, ?_⟩
    intro w lo d c l G v hv hsm hr hG ho hlo hb
    cases v with
    | num x =>
     obtain ⟨s, rfl, hs⟩ := hv
     have hr : [c] = (strV s).cells.toList := by simpa only [Rep] using hr
     have hc : c = strV s := by simpa [strV, Value.cells] using hr
     subst hc
     have e : Txt.str.wr false (.num (strV s)) = fixB s.length 2 ++ s := by rw [Txt.wr, zji, zsr]
     rw [e] at hb ⊢
     have hs2 : s.length < 4294967295 := by simpa only [Val.sm, zji] using hsm
     exact zwj B H.u16 (H.i16 (H.str ht).1) (H.str ht).2 s hs2 ho hlo hb
    | _ => simp only [Txt.okV] at hv
   | true =>
    refine ⟨(H.cstr ht).has, ?_⟩
    intro w lo d c l G v hv hsm hr hG ho hlo hb
    cases v with
    | num x =>
     obtain ⟨s, rfl, hs⟩ := hv
     have hr : [c] = (strV s).cells.toList := by simpa only [Rep] using hr
     have hc : c = strV s := by simpa [strV, Value.cells] using hr
     subst hc
     have e : Txt.str.wr true (.num (strV s)) = uvB (s.length + 1) ++ s := by rw [Txt.wr, zji, zmf]
     rw [e] at hb ⊢
     have hs2 : s.length < 4294967295 := by simpa only [Val.sm, zji] using hsm
     exact zkz B H.uv (H.cstr ht) s hs2 ho hlo hb
    | _ => simp only [Txt.okV] at hv
  | nstr =>
   cases fl with
   | false =>
    refine ⟨(H.nstr ht).2.2.has, ?_⟩
    intro w lo d c l G v hv hsm hr hG ho hlo hb
    cases v with
    | nstr o =>
     have hs : (o.getD []).length < 4294967295 := by
      cases o with
      | none => simp
      | some s => simpa only [Val.sm, Option.getD_some] using hsm
     have h2 := H.str (H.nstr ht).2.1
     exact zov B (H.nstr ht).1 H.u16 (H.i16 h2.1) h2.2 (H.nstr ht).2.2 (ztp hr) hs ho hlo hb
    | _ => simp only [Txt.okV] at hv
   | true =>
    refine ⟨(H.cnstr ht).2.2.has, ?_⟩
    intro w lo d c l G v hv hsm hr hG ho hlo hb
    cases v with
    | nstr o =>
     have hs : (o.getD []).length < 4294967295 := by
      cases o with
      | none => simp
      | some s => simpa only [Val.sm, Option.getD_some] using hsm
     exact zod B (H.cnstr ht).1 H.uv (H.cstr (H.cnstr ht).2.1) (H.cnstr ht).2.2 (ztp hr) hs ho hlo hb
    | _ => simp only [Txt.okV] at hv
  | byt =>
   cases fl with
   | false =>
    refine ⟨(H.byt ht).2.has, ?_⟩
    intro w lo d c l G v hv hsm hr hG ho hlo hb
    cases v with
    | oct o =>
     simp only [Rep] at hr
     obtain ⟨x, hx, hx2⟩ := hr
     obtain rfl : c = x := by simpa using hx
     have e : Txt.byt.wr false (.oct o) = fixB (o.getD []).length 4 ++ o.getD [] := by rw [Txt.wr, zsq]
     rw [e] at hb ⊢
     have hs : (o.getD []).length < 4294967295 := by
      cases o with
      | none => simp
      | some s => simpa only [Val.sm, Option.getD_some] using hsm
     exact ap_Bytes B (H.u32 (H.byt ht).1) (H.i32 (H.byt ht).1) (H.byt ht).2 rfl hx2 hs hG ho hlo hb
    | _ => simp only [Txt.okV] at hv
   | true =>
    refine ⟨(H.cbyt ht).has, ?_⟩
    intro w lo d c l G v hv hsm hr hG ho hlo hb
    cases v with
    | oct o =>
     simp only [Rep] at hr
     obtain ⟨x, hx, hx2⟩ := hr
     obtain rfl : c = x := by simpa using hx
     have e : Txt.byt.wr true (.oct o) = uvB ((o.getD []).length + 1) ++ o.getD [] := by rw [Txt.wr, zmf]
     rw [e] at hb ⊢
     have hs : (o.getD []).length < 4294967295 := by
      cases o with
      | none => simp
      | some s => simpa only [Val.sm, Option.getD_some] using hsm
     exact zrh B H.uv (H.cbyt ht) rfl hx2 hs hG ho hlo hb
    | _ => simp only [Txt.okV] at hv
  | nbyt => cases fl <;> exact absurd (by assumption) ht
 al fl h := by
  cases fl with
  | false =>
   refine ⟨(H.al h).2.has, fun n hn => ?_⟩
   rw [zsq]
   exact zxy B (H.u32 (H.al h).1) (H.i32 (H.al h).1) (H.al h).2 n
  | true =>
   refine ⟨(H.cal h).has, fun n hn => ?_⟩
   rw [zmf]
   exact zwl B H.uv (H.cal h) hn
 nl fl h := by
  cases fl with
  | false => exact ⟨(H.nal h).2.has, fun n b hn => zwk B (H.u32 (H.nal h).1) (H.i32 (H.nal h).1) (H.nal h).2 n b⟩
  | true => exact ⟨(H.cnal h).has, fun n b hn => zuh B H.uv (H.cnal h) hn b⟩
 uv := H.uv
 tl := H.tl
 ea := H.ea
 e1 := H.e1
 tn := hT
end
def fitV (kind : Int) (pf : Tr → Tr) (null : Bool) (t : Tr) : Tr :=
 if kind = 8 ∨ kind = 9 then .mk 0 (zbq t.s) null [] []
 else if kind = 10 then .mk 0 [] null (pf t).l (pf t).u
 else .mk t.n t.s false [] []
def fitU (u : List (Nat × List UInt8)) : List (Nat × List UInt8) := (unkT u).map fun x => (x.1, zbq x.2)
mutual
def fitF (v : Int) : Fld → Tr → Tr
 | .mk k f t' n g d o sub, t =>
  if k = 11 then .mk 0 [] (Fld.nullB (.mk k f t' n g d o []) v t) ((zev t.l).map (fitV o (fun t => .mk 0 [] false (zjg v sub 0 t) (fitU t.u)) false)) []
  else fitV k (fun t => .mk 0 [] false (zjg v sub 0 t) (fitU t.u)) (Fld.nullB (.mk k f t' n g d o []) v t) t
def zjg (v : Int) : List Fld → Nat → Tr → List Tr
 | [], _, _ => []
 | f :: r, i, t => fitF v f (atT t i) :: zjg v r (i + 1) t
end
def fitP (v : Int) (fs : List Fld) (t : Tr) : Tr := .mk 0 [] false (zjg v fs 0 t) (fitU t.u)
theorem zhg {v : Int} {f : Fld} (h : f.kind ≠ 11) (t : Tr) : fitF v f t = fitV f.kind (fitP v f.sub) (f.nullB v t) t := by
 obtain ⟨k, fr, t', n, g, d, o, sub⟩ := f
 have h : k ≠ 11 := h
 rw [fitF, if_neg h]; rfl
theorem zvo {v : Int} {f : Fld} (h : f.kind = 11) (t : Tr) : fitF v f t = .mk 0 [] (f.nullB v t) ((zev t.l).map (fitV f.of (fitP v f.sub) false)) [] := by
 obtain ⟨k, fr, t', n, g, d, o, sub⟩ := f
 have h : k = 11 := h
 rw [fitF, if_pos h]; rfl
theorem zfn {v : Int} : ∀ (fs : List Fld) (i : Nat) (t : Tr), (zjg v fs i t).length = fs.length
 | [], _, _ => rfl
 | f :: r, i, t => by rw [zjg, List.length_cons, zfn r, List.length_cons]
theorem zqa {v : Int} : ∀ (fs : List Fld) (i j : Nat) (t : Tr) (f : Fld), fs[j]? = some f → (zjg v fs i t)[j]? = some (fitF v f (atT t (i + j)))
 | [], i, j, t, f, h => by simp at h
 | g :: r, i, 0, t, f, h => by simp at h; subst h; rw [zjg]; rfl
 | g :: r, i, j + 1, t, f, h => by
  rw [zjg]
  have := zqa (v := v) r (i + 1) j t f (by simpa using h)
  rw [List.getElem?_cons_succ, this, show i + 1 + j = i + (j + 1) by omega]
def PK.ofN (t : Tr) : PK → Value
 | .bool => .bool (decide (t.n % 2 = 1))
 | .i8 => .int .i8 (IntKind.i8.wrap t.n)
 | .i16 => .int .i16 (IntKind.i16.wrap t.n)
 | .u16 => .int .u16 (IntKind.u16.wrap t.n)
 | .i32 => .int .i32 (IntKind.i32.wrap t.n)
 | .i64 => .int .i64 t.n
 | .uuid => uuidV t.s
 | .en _ => .int .i8 (IntKind.i8.wrap t.n)
def Txt.ofT (t : Tr) : Txt → Val
 | .str => .num (strV t.s)
 | .nstr => .nstr (if t.nl then none else some t.s)
 | _ => .oct (if t.nl then none else some t.s)
def zmo (u : List (Nat × List UInt8)) : List (Nat × List UInt8) := u.foldl (fun a x => tput a x.1 x.2) []
mutual
def Ty.ofT : Ty → Tr → Val
 | .pr k _, t => .num (k.ofN t)
 | .txt k, t => k.ofT t
 | .arr _ _ e, t => if t.nl then .nilA else .arr e.sz (t.l.map e.ofT)
 | .row _ _ _ fs, t => .row (fs.ofT 0 t)
 | .tv _, t => Txt.nstr.ofT t
def El.ofT : El → Tr → Val
 | .pr k, t => .num (k.ofN t)
 | .txt k, t => k.ofT t
 | .row _ _ _ fs, t => .row (fs.ofT 0 t)
def Fds.ofT : Fds → Nat → Tr → List Val
 | .nil, _, _ => []
 | .tags, _, t => [.tags (zmo t.u)]
 | .cons _ ty r, i, t => ty.ofT (atT t i) :: r.ofT (i + 1) t
end
theorem tput_new {l : List (Nat × List UInt8)} {k : Nat} {v : List UInt8} (h : k ∉ l.map Prod.fst) : tput l k v = l ++ [(k, v)] := by
 unfold tput
 rw [if_neg]
 simpa using h
theorem zwr (u : List (Nat × List UInt8)) (h : (u.map Prod.fst).Nodup) : zmo u = u := by
 have key : ∀ (u acc : List (Nat × List UInt8)), ((acc ++ u).map Prod.fst).Nodup → u.foldl (fun a x => tput a x.1 x.2) acc = acc ++ u := by
  intro u
  induction u with
  | nil => intro acc _; simp
  | cons x u ih =>
   intro acc hn
   have hx : x.1 ∉ acc.map Prod.fst := by
    intro hc
    rw [List.map_append, List.nodup_append] at hn
    exact hn.2.2 _ hc _ (by simp) rfl
   rw [List.foldl_cons, tput_new hx, ih]
   ·simp
   ·simpa using hn
 exact key u [] (by simpa using h)
theorem zxp (u : List (Nat × List UInt8)) : ((fitU u).map Prod.fst).Pairwise (· < ·) := by
 have := zqe u
 unfold fitU
 rw [List.map_map]
 exact this
theorem tputs_fit (u : List (Nat × List UInt8)) : zmo (fitU u) = fitU u := by
 refine zwr _ ?_
 exact (zxp u).imp fun h => Nat.ne_of_lt h
theorem zna {K : IntKind} {k : Nat} (hk : K.bits = 8 * k) (n : Int) : fixB (K.wrap n) k = fixB n k := by
 refine zsn ?_
 have hp : ((256 ^ k : Nat) : Int) = (2 : Int) ^ K.bits := by
  rw [hk, show (256 : Nat) = 2 ^ 8 from rfl, ← Nat.pow_mul, Int.natCast_pow]; rfl
 rw [hp]
 unfold IntKind.wrap
 simp only
 split
 ·rw [Int.sub_emod, Int.emod_self, Int.sub_zero, Int.emod_emod_of_dvd _ (Int.dvd_refl _), Int.emod_emod_of_dvd _ (Int.dvd_refl _)]
 ·rw [Int.emod_emod_of_dvd _ (Int.dvd_refl _)]
theorem pr_wrF {k : PK} {kind : Int} (h : zop k kind = true) (fl : Bool) (pf : Tr → Tr) (pt : Tr → List UInt8) (n1 n2 : Bool) (t : Tr) : k.wr (k.ofN (fitV kind pf n1 t)) = valB fl kind pt n2 t := by
 have hf : fitV kind pf n1 t = .mk t.n t.s false [] [] := by
  have := zxl h
  unfold fitV
  rw [if_neg (by omega), if_neg this.2.2.1]
 rw [hf]
 cases k with
 | en t => simp [zop] at h
 | bool =>
  have h : kind = 0 := by simpa [zop] using h
  subst h
  have e : valB fl 0 pt n2 t = [UInt8.ofNat (t.n % 2).toNat] := by simp [valB]
  rw [e]
  have hm : t.n % 2 = 0 ∨ t.n % 2 = 1 := by omega
  show [if decide (t.n % 2 = 1) = true then (1 : UInt8) else 0] = _
  rcases hm with hm | hm <;> rw [hm] <;> rfl
 | i8 =>
  have h : kind = 1 := by simpa [zop] using h
  subst h
  have e : valB fl 1 pt n2 t = fixB t.n 1 := by simp [valB, zgl]
  rw [e]; exact zna rfl _
 | i16 =>
  have h : kind = 2 := by simpa [zop] using h
  subst h
  have e : valB fl 2 pt n2 t = fixB t.n 2 := by simp [valB, zgl]
  rw [e]; exact zna rfl _
 | u16 =>
  have h : kind = 5 := by simpa [zop] using h
  subst h
  have e : valB fl 5 pt n2 t = fixB t.n 2 := by simp [valB, zgl]
  rw [e]; exact zna rfl _
 | i32 =>
  have h : kind = 3 := by simpa [zop] using h
  subst h
  have e : valB fl 3 pt n2 t = fixB t.n 4 := by simp [valB, zgl]
  rw [e]; exact zna rfl _
 | i64 =>
  have h : kind = 4 := by simpa [zop] using h
  subst h
  have e : valB fl 4 pt n2 t = fixB t.n 8 := by simp [valB, zgl]
  rw [e]; rfl
 | uuid =>
  have h : kind = 7 := by simpa [zop] using h
  subst h
  have e : valB fl 7 pt n2 t = idB t.s := by simp [valB, idB]
  rw [e]
  show zhn (uuidV t.s) = idB t.s
  unfold uuidV zhn idB
  have e2 : (t.s ++ List.replicate (16 - t.s.length) 0).take 16 = t.s.take 16 ++ List.replicate (16 - t.s.length) 0 := by
   rw [List.take_append, List.take_of_length_le (l := List.replicate _ _) (by rw [List.length_replicate]; omega)]
  rw [e2]
  exact ztt _
theorem zof (k : Txt) (fl null : Bool) (hn : k = .str → null = false) (hb : k = .byt → null = false) (pf : Tr → Tr) (pt : Tr → List UInt8) (t : Tr) (kind : Int) (hk : kind = k.kind) : k.wr fl (k.ofT (fitV kind pf null t)) = valB fl kind pt null t := by
 have hf : fitV kind pf null t = .mk 0 (zbq t.s) null [] [] := by
  unfold fitV
  rw [if_pos]
  rw [hk]; cases k <;> simp [Txt.kind]
 rw [hf]
 cases k with
 | str =>
  have hk : kind = 8 := hk
  subst hk
  have hn := hn rfl
  subst hn
  rw [valB_txt]
  simp only [Txt.ofT, Tr.s, Txt.wr, zji, Bool.false_eq_true, if_false]
 | nstr =>
  have hk : kind = 8 := hk
  subst hk
  rw [valB_txt]
  cases null <;> simp only [Txt.ofT, Tr.s, Tr.nl, Txt.wr, Bool.false_eq_true, if_false, if_true, List.length_nil, List.append_nil]
 | byt =>
  have hk : kind = 9 := hk
  subst hk
  have hb := hb rfl
  subst hb
  rw [valB_byt]
  simp only [Txt.ofT, Tr.s, Tr.nl, Txt.wr, Option.getD_some, Bool.false_eq_true, if_false]
 | nbyt =>
  have hk : kind = 9 := hk
  subst hk
  rw [valB_byt]
  cases null <;> simp only [Txt.ofT, Tr.s, Tr.nl, Txt.wr, Bool.false_eq_true, if_false, if_true, List.length_nil, List.append_nil]
mutual
def Ty.matW (fl : Bool) (ver : Int) : Ty → Fld → Bool
 | .pr k _, f => zop k f.kind && !f.may ver
 | .txt .str, f => decide (f.kind = 8) && !f.may ver
 | .txt .nstr, f => decide (f.kind = 8)
 | .txt .byt, f => decide (f.kind = 9) && !f.may ver
 | .txt .nbyt, f => decide (f.kind = 9)
 | .arr _ nul e, f => decide (f.kind = 11) && (match nul with | none => !f.may ver | some k => !f.may ver || decide (k ≤ ver)) && e.matW fl ver f.of f.sub
 | .row .., _ => false
 | .tv k, f => decide (f.kind = 8) && (decide (k ≤ ver) || !f.may ver)
def El.matW (fl : Bool) (ver : Int) : El → Int → List Fld → Bool
 | .pr k, o, _ => zop k o
 | .txt .str, o, _ => decide (o = 8)
 | .txt .nstr, o, _ => decide (o = 8)
 | .txt _, o, _ => decide (o = 9)
 | .row _ _ _ fs, o, sub => decide (o = 10) && fs.matW fl ver sub && (fl || sub.any fun f => f.has ver)
def Fds.matW (fl : Bool) (ver : Int) : Fds → List Fld → Bool
 | .nil, [] => !fl
 | .tags, [] => true
 | .cons g ty r, f :: fs => (g.on ver == f.has ver) && (if f.has ver then ty.matW fl ver f else true) && r.matW fl ver fs
 | _, _ => false
end
mutual
theorem Ty.wrF {fl : Bool} {ver : Int} : ∀ (ty : Ty) (f : Fld), ty.matW fl ver f = true → ∀ (t : Tr), ty.wr ver fl (ty.ofT (fitF ver f t)) = zfe fl ver f t
 | .pr k d, f, h, t => by
  simp only [Ty.matW, Bool.and_eq_true, Bool.not_eq_true'] at h
  rw [zkd (zxl h.1).1, zhg (zxl h.1).1]
  exact pr_wrF h.1 fl _ _ _ _ t
 | .txt .str, f, h, t => by
  simp only [Ty.matW, Bool.and_eq_true, Bool.not_eq_true', decide_eq_true_eq] at h
  rw [zkd (by omega), zhg (by omega)]
  exact zof .str fl _ (fun _ => znj h.2) (fun hc => by cases hc) _ _ t _ h.1
 | .txt .nstr, f, h, t => by
  simp only [Ty.matW, decide_eq_true_eq] at h
  rw [zkd (by omega), zhg (by omega)]
  exact zof .nstr fl _ (fun hc => by cases hc) (fun hc => by cases hc) _ _ t _ h
 | .txt .byt, f, h, t => by
  simp only [Ty.matW, Bool.and_eq_true, Bool.not_eq_true', decide_eq_true_eq] at h
  rw [zkd (by omega), zhg (by omega)]
  exact zof .byt fl _ (fun hc => by cases hc) (fun _ => znj h.2) _ _ t _ h.1
 | .txt .nbyt, f, h, t => by
  simp only [Ty.matW, decide_eq_true_eq] at h
  rw [zkd (by omega), zhg (by omega)]
  exact zof .nbyt fl _ (fun hc => by cases hc) (fun hc => by cases hc) _ _ t _ h
 | .arr st nul e, f, h, t => by
  simp only [Ty.matW, Bool.and_eq_true, decide_eq_true_eq] at h
  obtain ⟨⟨h11, hnul⟩, he⟩ := h
  rw [zmx h11, zvo h11]
  cases hnb : f.nullB ver t with
  | true =>
   have hmay : f.may ver = true := by
    cases hm : f.may ver with
    | true => rfl
    | false => rw [znj hm] at hnb; cases hnb
   have hk : ∃ k, nul = some k ∧ k ≤ ver := by
    cases nul with
    | none => simp [hmay] at hnul
    | some k => exact ⟨k, rfl, by simpa [hmay] using hnul⟩
   obtain ⟨k, rfl, hk⟩ := hk
   simp only [Ty.ofT, Tr.nl, if_true, Ty.wr, nulAt, hk, decide_true, List.length_nil, List.flatMap_nil, List.append_nil]
  | false =>
   simp only [Ty.ofT, Tr.nl, Tr.l, Bool.false_eq_true, if_false, Ty.wr, List.length_map, List.flatMap_map]
   congr 1
   have e1 : (fun x : Tr => e.wr ver fl (e.ofT (fitV f.of (fitP ver f.sub) false x))) = valB fl f.of (zeh fl ver f.sub) false := funext fun x => El.wrF e f.of f.sub he x
   rw [← e1]
 | .row .., f, h, _ => by simp [Ty.matW] at h
 | .tv k, f, h, t => by
  simp only [Ty.matW, Bool.and_eq_true, Bool.or_eq_true, Bool.not_eq_true', decide_eq_true_eq] at h
  have e := zof .nstr fl (f.nullB ver t) (fun hc => by cases hc) (fun hc => by cases hc) (fitP ver f.sub) (zeh fl ver f.sub) t f.kind h.1
  rw [zkd (by omega), zhg (by omega), ← e]
  simp only [Ty.ofT, Ty.wr]
  split
  ·rename_i hk
   have hn : f.nullB ver t = false := znj (h.2.resolve_left (by omega))
   have hf : fitV f.kind (fitP ver f.sub) false t = .mk 0 (zbq t.s) false [] [] := by
    unfold fitV
    rw [if_pos (by omega)]
   rw [hn, hf]
   simp [Txt.ofT, Tr.nl, Tr.s, tvW, Txt.wr]
  ·rfl
theorem El.wrF {fl : Bool} {ver : Int} : ∀ (e : El) (o : Int) (sub : List Fld), e.matW fl ver o sub = true → ∀ (t : Tr), e.wr ver fl (e.ofT (fitV o (fitP ver sub) false t)) = valB fl o (zeh fl ver sub) false t
 | .pr k, o, sub, h, t => by
  simp only [El.matW] at h
  exact pr_wrF h fl _ _ _ _ t
 | .txt k, o, sub, h, t => by
  have hk : o = k.kind := by cases k <;> simpa [El.matW, Txt.kind] using h
  exact zof k fl _ (fun _ => rfl) (fun _ => rfl) _ _ t _ hk
 | .row T pT d fs, o, sub, h, t => by
  simp only [El.matW, Bool.and_eq_true, decide_eq_true_eq] at h
  obtain ⟨⟨h10, hfs⟩, hne⟩ := h
  have hv : valB fl o (zeh fl ver sub) false t = znh fl ver sub 0 t := by rw [h10]; simp [valB, zeh, endB, znh]
  have hf : fitV o (fitP ver sub) false t = fitP ver sub t := by rw [h10]; simp [fitV, fitP, Tr.l, Tr.u]
  rw [hv, hf]
  simp only [El.ofT, El.wr]
  refine Fds.wrF fs sub hfs 0 t _ (fun j f hj => ?_) rfl
  unfold atT fitP
  rw [List.getD, show Tr.l (.mk 0 [] false (zjg ver sub 0 t) (fitU t.u)) = zjg ver sub 0 t from rfl, Nat.zero_add, zqa sub 0 j t f hj, Nat.zero_add]
  rfl
theorem Fds.wrF {fl : Bool} {ver : Int} : ∀ (fs : Fds) (sf : List Fld), fs.matW fl ver sf = true → ∀ (i : Nat) (t T : Tr), (∀ (j : Nat) (f : Fld), sf[j]? = some f → atT T (i + j) = fitF ver f (atT t (i + j))) → T.u = fitU t.u → fs.wr ver fl (fs.ofT i T) = znh fl ver sf i t
 | .nil, [], h, i, t, T, _, _ => by
  have h : fl = false := by simpa [Fds.matW] using h
  subst h
  simp [znh, zcs, Fds.wr]
 | .tags, [], _, i, t, T, _, hu => by
  cases fl with
  | true =>
   simp only [znh, zcs, Fds.ofT, Fds.wr, if_true, List.nil_append]
   rw [hu, tputs_fit]
   exact tags_wr t.u
  | false => simp [znh, zcs, Fds.ofT, Fds.wr]
 | .cons g ty r', f :: sf, h, i, t, T, hT, hu => by
  simp only [Fds.matW, Bool.and_eq_true, beq_iff_eq] at h
  obtain ⟨⟨hg, hty⟩, hfr⟩ := h
  have h0 := hT 0 f rfl
  rw [Nat.add_zero] at h0
  have hr := Fds.wrF r' sf hfr (i + 1) t T (fun j f' hj => by
   have := hT (j + 1) f' (by simpa using hj)
   rwa [show i + (j + 1) = i + 1 + j by omega] at this) hu
  cases hh : f.has ver with
  | true =>
   rw [hh] at hty hg
   simp only [if_true] at hty
   have e : znh fl ver (f :: sf) i t = zfe fl ver f (atT t i) ++ znh fl ver sf (i + 1) t := by
    unfold znh; rw [zcs, hh]; simp only [if_true, List.append_assoc]
   rw [e, Fds.ofT, Fds.wr, hg, if_pos rfl, hr, h0, Ty.wrF ty f hty]
  | false =>
   rw [hh] at hty hg
   have e : znh fl ver (f :: sf) i t = znh fl ver sf (i + 1) t := by
    unfold znh; rw [zcs, hh]; simp
   rw [e, Fds.ofT, Fds.wr, hg, if_neg (by decide), List.nil_append, hr]
 | .nil, _ :: _, h, _, _, _, _, _ => by simp [Fds.matW] at h
 | .tags, _ :: _, h, _, _, _, _, _ => by simp [Fds.matW] at h
 | .cons .., [], h, _, _, _, _, _ => by simp [Fds.matW] at h
end
theorem msg_wrF {m : Msg} {fl : Bool} {ver : Int} {sf : List Fld} {t : Tr} (hm : m.fs.matW fl ver sf = true) : m.fs.wr ver fl (m.fs.ofT 0 (fitP ver sf t)) = zeh fl ver sf t := by
 have hp : zeh fl ver sf t = znh fl ver sf 0 t := by simp [zeh, endB, znh]
 rw [hp]
 refine Fds.wrF m.fs sf hm 0 t _ (fun j f hj => ?_) rfl
 unfold atT fitP
 rw [List.getD, show Tr.l (.mk 0 [] false (zjg ver sf 0 t) (fitU t.u)) = zjg ver sf 0 t from rfl, Nat.zero_add, zqa sf 0 j t f hj, Nat.zero_add]
 rfl
mutual
def bdT : Tr → Prop
 | .mk n s _ l u => (-9223372036854775808 ≤ n ∧ n < 9223372036854775808) ∧ s.length ≤ 1048576 ∧ l.length ≤ 1048576 ∧ u.length ≤ 1048576 ∧ (∀ x ∈ u, x.1 < 4294967296 ∧ x.2.length ≤ 1048576) ∧ bdTs l
def bdTs : List Tr → Prop
 | [] => True
 | t :: l => bdT t ∧ bdTs l
end
theorem zqd : ∀ {l : List Tr}, bdTs l ↔ ∀ x ∈ l, bdT x
 | [] => by simp [bdTs]
 | t :: l => by simp [bdTs, zqd (l := l)]
theorem zgh (t : Tr) : bdT t ↔ (-9223372036854775808 ≤ t.n ∧ t.n < 9223372036854775808) ∧ t.s.length ≤ 1048576 ∧ t.l.length ≤ 1048576 ∧ t.u.length ≤ 1048576 ∧ (∀ x ∈ t.u, x.1 < 4294967296 ∧ x.2.length ≤ 1048576) ∧ ∀ x ∈ t.l, bdT x := by
 cases t with
 | mk n s b l u => rw [bdT, zqd]; rfl
theorem bdT0 : bdT tr0 := by simp [tr0, bdT, bdTs]
theorem bdT.at {t : Tr} (h : bdT t) (i : Nat) : bdT (atT t i) := by
 unfold atT
 cases hx : t.l[i]? with
 | none => rw [List.getD, hx]; exact bdT0
 | some y => rw [List.getD, hx]; exact ((zgh t).1 h).2.2.2.2.2 y (List.mem_of_getElem? hx)
mutual
theorem bdT_of : ∀ (t : Tr), wfT t → szT t ≤ 1048576 → bdT t
 | .mk n s b l u, hw, hs => by
  have h1 : szT (.mk n s b l u) = 1 + s.length + szTs l + szU u := by rw [szT]
  have hl : ∀ l : List Tr, l.length ≤ szTs l := by
   intro l
   induction l with
   | nil => simp
   | cons x l ih => have := zte x; simp only [szTs, List.length_cons]; omega
  have hu : ∀ u : List (Nat × List UInt8), u.length ≤ szU u ∧ ∀ x ∈ u, x.2.length ≤ szU u := by
   intro u
   induction u with
   | nil => exact ⟨by simp, fun x hx => by cases hx⟩
   | cons x u ih =>
    have e : szU (x :: u) = 1 + x.2.length + szU u := by simp [szU]
    refine ⟨by rw [e, List.length_cons]; omega, fun y hy => ?_⟩
    rcases List.mem_cons.1 hy with hy | hy
    ·rw [hy, e]; omega
    ·have := ih.2 y hy; rw [e]; omega
  have h2 := hl l
  have h3 := hu u
  simp only [wfT] at hw
  rw [bdT]
  exact ⟨hw.1, by omega, by omega, by omega, fun x hx => ⟨hw.2.1 x hx, by have := h3.2 x hx; omega⟩, bdTs_of l hw.2.2 (by omega)⟩
theorem bdTs_of : ∀ (l : List Tr), wfTs l → szTs l ≤ 1048576 → bdTs l
 | [], _, _ => by simp [bdTs]
 | t :: l, hw, hs => by
  simp only [wfTs] at hw
  simp only [szTs] at hs
  rw [bdTs]
  exact ⟨bdT_of t hw.1 (by omega), bdTs_of l hw.2 (by omega)⟩
end
theorem insT_bd {S k : Nat} {x : List UInt8} (hk : k < 4294967296) (hx : x.length ≤ S) : ∀ a : List (Nat × List UInt8), (∀ y ∈ a, y.1 < 4294967296 ∧ y.2.length ≤ S) → ∀ y ∈ insT k x a, y.1 < 4294967296 ∧ y.2.length ≤ S
 | [], _, y, hy => by simp only [insT, List.mem_singleton] at hy; rw [hy]; exact ⟨hk, hx⟩
 | (k', z) :: r, h, y, hy => by
  simp only [insT] at hy
  split at hy
  ·rcases List.mem_cons.1 hy with hy | hy
   ·exact h y (by rw [hy]; simp)
   ·exact insT_bd hk hx r (fun y hy => h y (by simp [hy])) y hy
  ·split at hy
   ·exact h y hy
   ·rcases List.mem_cons.1 hy with hy | hy
    ·rw [hy]; exact ⟨hk, hx⟩
    ·exact h y hy
theorem zvl (k : Nat) (x : List UInt8) : ∀ a : List (Nat × List UInt8), (insT k x a).length ≤ a.length + 1
 | [] => by simp [insT]
 | (k', z) :: r => by
  simp only [insT]
  split
  ·have := zvl k x r; simp only [List.length_cons]; omega
  ·split <;> simp
theorem unk_bd {S : Nat} (u : List (Nat × List UInt8)) (h : ∀ y ∈ u, y.1 < 4294967296 ∧ y.2.length ≤ S) : (unkT u).length ≤ u.length ∧ ∀ y ∈ unkT u, y.1 < 4294967296 ∧ y.2.length ≤ S := by
 have key : ∀ (u a : List (Nat × List UInt8)), (∀ y ∈ u, y.1 < 4294967296 ∧ y.2.length ≤ S) → (∀ y ∈ a, y.1 < 4294967296 ∧ y.2.length ≤ S) →
   (u.foldl (fun a x => insT x.1 x.2 a) a).length ≤ a.length + u.length ∧ ∀ y ∈ u.foldl (fun a x => insT x.1 x.2 a) a, y.1 < 4294967296 ∧ y.2.length ≤ S := by
  intro u
  induction u with
  | nil => intro a _ ha; exact ⟨by simp, ha⟩
  | cons x u ih =>
   intro a hu ha
   have hx := hu x (by simp)
   have := ih (insT x.1 x.2 a) (fun y hy => hu y (by simp [hy])) (insT_bd hx.1 hx.2 a ha)
   have hl := zvl x.1 x.2 a
   rw [List.foldl_cons]
   exact ⟨by rw [List.length_cons]; omega, this.2⟩
 have := key (u.take most) [] (fun y hy => h y (List.mem_of_mem_take hy)) (fun y hy => by cases hy)
 unfold unkT
 refine ⟨?_, this.2⟩
 have h2 : (u.take most).length ≤ u.length := by rw [List.length_take]; omega
 have h3 := this.1
 simp only [List.length_nil] at h3
 omega
theorem fitU_bd {u : List (Nat × List UInt8)} (h1 : u.length ≤ 1048576) (h : ∀ y ∈ u, y.1 < 4294967296 ∧ y.2.length ≤ 1048576) : (fitU u).length ≤ 1048576 ∧ ∀ y ∈ fitU u, y.1 < 4294967296 ∧ y.2.length ≤ 1048576 := by
 obtain ⟨h2, h3⟩ := unk_bd u h
 unfold fitU
 refine ⟨by rw [List.length_map]; omega, fun y hy => ?_⟩
 obtain ⟨z, hz, rfl⟩ := List.mem_map.1 hy
 have := h3 z hz
 exact ⟨this.1, by simp only [zbq, List.length_take]; omega⟩
theorem fitV_bd {kind : Int} {pf : Tr → Tr} {null : Bool} (hp : kind = 10 → ∀ t, bdT t → bdT (pf t)) {t : Tr} (h : bdT t) : bdT (fitV kind pf null t) := by
 have h' := (zgh t).1 h
 unfold fitV
 split
 ·rw [bdT]; exact ⟨by decide, by simp only [zbq, List.length_take]; omega, by simp, by simp, fun x hx => (by cases hx), by simp [bdTs]⟩
 ·split
  ·rename_i h10
   have g := (zgh _).1 (hp h10 t h)
   rw [bdT]; exact ⟨by decide, by simp, g.2.2.1, g.2.2.2.1, g.2.2.2.2.1, zqd.2 g.2.2.2.2.2⟩
  ·rw [bdT]; exact ⟨h'.1, h'.2.1, by simp, by simp, fun x hx => (by cases hx), by simp [bdTs]⟩
mutual
theorem fitF_bd {v : Int} : ∀ (f : Fld), okFB f = true → ∀ t, bdT t → bdT (fitF v f t)
 | .mk k a b n g d o sub, hok, t, h => by
  simp only [okFB, Bool.and_eq_true, decide_eq_true_eq, Bool.or_eq_true] at hok
  obtain ⟨⟨_, h2⟩, h3⟩ := hok
  have h' := (zgh t).1 h
  rw [fitF]
  split
  ·rename_i h11
   rw [bdT]
   refine ⟨by decide, by simp, by rw [List.length_map]; simp only [zev, List.length_take]; omega, by simp, fun x hx => (by cases hx), zqd.2 fun x hx => ?_⟩
   obtain ⟨y, hy, rfl⟩ := List.mem_map.1 hx
   refine fitV_bd (fun ho t ht => ?_) (h'.2.2.2.2.2 y (List.mem_of_mem_take hy))
   rcases h3 with (h3 | h3) | ⟨h3, h4⟩
   ·exact absurd h11 h3
   ·exact absurd ho h3
   ·have h5 : sub.length < 1000 := by simpa using h3
    have ht' := (zgh t).1 ht
    have hu := fitU_bd ht'.2.2.2.1 ht'.2.2.2.2.1
    rw [bdT]; exact ⟨by decide, by simp, by rw [zfn]; omega, hu.1, hu.2, ztw sub h4 0 t ht⟩
  ·exact fitV_bd (fun ho => absurd ho h2) h
theorem ztw {v : Int} : ∀ (fs : List Fld), zkq fs = true → ∀ (i : Nat) (t : Tr), bdT t → bdTs (zjg v fs i t)
 | [], _, _, _, _ => by rw [zjg, bdTs]; trivial
 | f :: r, hok, i, t, h => by
  simp only [zkq, Bool.and_eq_true] at hok
  rw [zjg, bdTs]
  exact ⟨fitF_bd f hok.1 _ (h.at i), ztw r hok.2 (i + 1) t h⟩
end
theorem fitP_bd {v : Int} {fs : List Fld} (hok : zkq fs = true) (hl : fs.length < 1000) {t : Tr} (h : bdT t) : bdT (fitP v fs t) := by
 have h' := (zgh t).1 h
 have hu := fitU_bd h'.2.2.2.1 h'.2.2.2.2.1
 unfold fitP
 rw [bdT]; exact ⟨by decide, by simp, by rw [zfn]; omega, hu.1, hu.2, ztw fs hok 0 t h⟩
theorem tput_bd {l : List (Nat × List UInt8)} {k : Nat} {v : List UInt8} {S : Nat} (hv : v.length ≤ S) (h : ∀ x ∈ l, x.2.length ≤ S) : (tput l k v).length ≤ l.length + 1 ∧ ∀ x ∈ tput l k v, x.2.length ≤ S := by
 unfold tput
 split
 ·refine ⟨by simp, fun x hx => ?_⟩
  obtain ⟨y, hy, rfl⟩ := List.mem_map.1 hx
  split
  ·exact hv
  ·exact h y hy
 ·refine ⟨by simp, fun x hx => ?_⟩
  rcases List.mem_append.1 hx with hx | hx
  ·exact h x hx
  ·simp at hx; rw [hx]; exact hv
theorem tputs_bd {S : Nat} (u : List (Nat × List UInt8)) (h : ∀ x ∈ u, x.2.length ≤ S) : (zmo u).length ≤ u.length ∧ ∀ x ∈ zmo u, x.2.length ≤ S := by
 have key : ∀ (u a : List (Nat × List UInt8)), (∀ x ∈ u, x.2.length ≤ S) → (∀ x ∈ a, x.2.length ≤ S) → (u.foldl (fun a x => tput a x.1 x.2) a).length ≤ a.length + u.length ∧ ∀ x ∈ u.foldl (fun a x => tput a x.1 x.2) a, x.2.length ≤ S := by
  intro u
  induction u with
  | nil => intro a _ ha; exact ⟨by simp, ha⟩
  | cons x u ih =>
   intro a hu ha
   have h1 := tput_bd (k := x.1) (hu x (by simp)) ha
   have h2 := ih (tput a x.1 x.2) (fun y hy => hu y (by simp [hy])) h1.2
   rw [List.foldl_cons]
   exact ⟨by rw [List.length_cons]; omega, h2.2⟩
 have := key u [] h (fun x hx => by cases hx)
 exact ⟨by have h1 := this.1; simp only [List.length_nil] at h1; unfold zmo; omega, this.2⟩
theorem zon (k : PK) {t : Tr} (h : bdT t) : k.okV (k.ofN t) := by
 have h' := ((zgh t).1 h).1
 have e64 : ∀ n : Int, -9223372036854775808 ≤ n → n < 9223372036854775808 → IntKind.i64.wrap n = n := fun n h1 h2 => zge h1 h2
 cases k with
 | bool => exact ⟨_, rfl⟩
 | i8 => exact ⟨_, rfl, by have := zun t.n; exact e64 _ (by omega) (by omega)⟩
 | en _ => exact ⟨_, rfl, by have := zun t.n; exact e64 _ (by omega) (by omega)⟩
 | i16 => exact ⟨_, rfl, by have := wrap_i16_r t.n; exact e64 _ (by omega) (by omega)⟩
 | u16 => exact ⟨_, rfl, by
   have e : IntKind.u16.wrap t.n = t.n % 65536 := by
    have e : IntKind.u16.wrap t.n = (let m := t.n % 65536; if (false && decide (m ≥ 32768)) = true then m - 65536 else m) := rfl
    rw [e]; simp
   rw [e]; exact e64 _ (by omega) (by omega)⟩
 | i32 => exact ⟨_, rfl, by have := wrap_i32_r t.n; exact e64 _ (by omega) (by omega)⟩
 | i64 => exact ⟨_, rfl, e64 _ h'.1 h'.2⟩
 | uuid => exact ⟨_, rfl, by rw [List.length_take, List.length_append, List.length_replicate]; omega⟩
theorem ztb (k : Txt) {t : Tr} (h : bdT t) : k.okV (k.ofT t) ∧ (k.ofT t).sm := by
 have h' := ((zgh t).1 h).2.1
 have hb : t.s.length < big := by unfold big; omega
 cases k with
 | str => exact ⟨⟨_, rfl, hb⟩, by simp only [Txt.ofT, Val.sm, zji]; omega⟩
 | nstr =>
  simp only [Txt.ofT]
  cases t.nl with
  | true => simp [Txt.okV, Val.sm, big]
  | false => simp only [Bool.false_eq_true, if_false, Txt.okV, Val.sm, Option.getD_some]; exact ⟨hb, by omega⟩
 | byt =>
  simp only [Txt.ofT]
  cases t.nl with
  | true => simp [Txt.okV, Val.sm, big]
  | false => simp only [Bool.false_eq_true, if_false, Txt.okV, Val.sm, Option.getD_some]; exact ⟨hb, by omega⟩
 | nbyt =>
  simp only [Txt.ofT]
  cases t.nl with
  | true => simp [Txt.okV, Val.sm, big]
  | false => simp only [Bool.false_eq_true, if_false, Txt.okV, Val.sm, Option.getD_some]; exact ⟨hb, by omega⟩
theorem smL_mem : ∀ {l : List Val}, (∀ v ∈ l, v.sm) → smL l
 | [], _ => by simp [smL]
 | v :: l, h => by rw [smL]; exact ⟨h v (by simp), smL_mem fun x hx => h x (by simp [hx])⟩
mutual
theorem Ty.ofOk : ∀ (ty : Ty) {t : Tr}, bdT t → ty.okV (ty.ofT t) ∧ (ty.ofT t).sm
 | .pr k d, t, h => by
  simp only [Ty.ofT, Ty.okV]
  exact ⟨zon k h, okV_sm (zon k h)⟩
 | .txt k, t, h => by simp only [Ty.ofT, Ty.okV]; exact ztb k h
 | .arr st nul e, t, h => by
  have h' := (zgh t).1 h
  simp only [Ty.ofT]
  cases t.nl with
  | true => simp only [if_true, Ty.okV, Val.sm]; exact ⟨trivial, trivial⟩
  | false =>
   simp only [Bool.false_eq_true, if_false, Ty.okV, Val.sm, List.length_map]
   refine ⟨⟨trivial, by unfold big; omega, fun v hv => ?_⟩, by omega, smL_mem fun v hv => ?_⟩
   ·obtain ⟨x, hx, rfl⟩ := List.mem_map.1 hv
    exact (El.ofOk e (h'.2.2.2.2.2 x hx)).1
   ·obtain ⟨x, hx, rfl⟩ := List.mem_map.1 hv
    exact (El.ofOk e (h'.2.2.2.2.2 x hx)).2
 | .tv k, t, h => by simp only [Ty.ofT, Ty.okV]; exact ztb .nstr h
 | .row T pT d fs, t, h => by
  simp only [Ty.ofT, Ty.okV, Val.sm]
  exact Fds.ofOk fs 0 h
theorem El.ofOk : ∀ (e : El) {t : Tr}, bdT t → e.okV (e.ofT t) ∧ (e.ofT t).sm
 | .pr k, t, h => by
  simp only [El.ofT, El.okV]
  exact ⟨zon k h, okV_sm (zon k h)⟩
 | .txt k, t, h => by simp only [El.ofT, El.okV]; exact ztb k h
 | .row T pT d fs, t, h => by
  simp only [El.ofT, El.okV, Val.sm]
  exact Fds.ofOk fs 0 h
theorem Fds.ofOk : ∀ (fs : Fds) (i : Nat) {t : Tr}, bdT t → fs.okV (fs.ofT i t) ∧ smL (fs.ofT i t)
 | .nil, i, t, _ => by simp [Fds.ofT, Fds.okV, smL]
 | .tags, i, t, h => by
  have h' := (zgh t).1 h
  have := tputs_bd t.u fun x hx => (h'.2.2.2.2.1 x hx).2
  simp only [Fds.ofT, Fds.okV, smL, Val.sm, big]
  exact ⟨⟨by omega, fun x hx => by have := this.2 x hx; omega⟩, ⟨by omega, fun x hx => by have := this.2 x hx; omega⟩, trivial⟩
 | .cons g ty r, i, t, h => by
  have h1 := Ty.ofOk ty (h.at i)
  have h2 := Fds.ofOk r (i + 1) h
  simp only [Fds.ofT, Fds.okV, smL]
  exact ⟨⟨h1.1, h2.1⟩, h1.2, h2.2⟩
end
structure zen where
 f_at : Nat := 0
 zll : Nat := 0
 zhc : Nat := 0
 ziy : Nat := 0
 zkf : Nat := 0
 zfo : Nat := 0
 zjk : Nat := 0
def zsv (N : Nums) (M : zaz) (L : zen) : C :=
 .seq (
 .ops [
  ⟨some (3+100), .box N.zb (V 2), 0, none, []⟩,
  ⟨some (4+100), .alloc N.zb, 0, none, []⟩]) (
 .seq (
 .ops [
  ⟨some 0, .build N.zb #[], 0, none, []⟩,
  ⟨some (5+100), .alloc N.zb, 0, none, []⟩,
  ⟨none, .store N.zb (V 5) (T 0), 0, none, []⟩]) (
 .seq (
 .seq (
 .ops [
  ⟨some (6+100), .move (V 0), 0, none, []⟩,
  ⟨some (7+100), .call ⟨.builtin .len, #[V 6], #[M.zab]⟩, N.ze, none, []⟩,
  ⟨some (8+100), .move (.const (.int .i64 0)), 0, none, []⟩]) (
 .block 0 (
  .loop (
   .seq (
   .ops [
    ⟨some (9+100), .binOp .lss N.ze (V 8) (V 7) N.ze, 0, none, []⟩]) (
   .seq (
   .cond 9 (
    .skip) (
    .exit 0)) (
   .seq (
   .block 1 (
    .seq (
    .ops [
     ⟨some 0, .move (V 8), 0, none, []⟩,
     ⟨some 1, .indexAddr M.zab (V 6) (V 8), 0, none, []⟩,
     ⟨some 2, .load M.zg (T 1), 0, none, []⟩,
     ⟨some (10+100), .alloc M.zg, 0, none, []⟩,
     ⟨some (11+100), .assign (T 0), 0, none, []⟩,
     ⟨none, .store M.zg (V 10) (T 2), 0, none, []⟩]) (
    .draw [
     ⟨some 0, .fieldAddr N.zb (V 5) 3, 0, none, []⟩,
     ⟨some 1, .load N.zj (T 0), 0, none, [0]⟩,
     ⟨some 2, .load M.zg (V 10), 0, none, []⟩,
     ⟨some 3, .move (V 1), 0, none, []⟩,
     ⟨some 4, .load N.zb (V 3), 0, none, []⟩,
     ⟨some 5, .move (V 11), 0, none, []⟩,
     ⟨some 6, .call ⟨.value (.func M.zes), #[T 4, T 5], #[N.zb, N.ze]⟩, N.zb, none, [4, 5]⟩,
     ⟨some 7, .call ⟨.value (.func L.zfo), #[T 2, T 3, T 6], #[M.zg, N.ze, N.zb]⟩, N.zb, none, [2, 3, 6, 6]⟩,
     ⟨some 8, .buildSlice N.zj 1 #[(0, (T 7))], 0, none, [7]⟩,
     ⟨some 9, .call ⟨.builtin .append, #[T 1, T 8], #[N.zj, N.zj]⟩, N.zj, none, [1, 8, 7]⟩,
     ⟨some 10, .fieldAddr N.zb (V 5) 3, 0, none, [0, 1, 2, 3, 4, 5, 6, 7, 8, 9]⟩,
     ⟨none, .store N.zj (T 10) (T 9), 0, none, [10, 9, 9, 0, 1, 2, 3, 4, 5, 6, 7, 8, 9]⟩]))) (
   .ops [
    ⟨some 0, .binOp .add N.ze (V 8) (.const (.int .i64 1)) N.ze, 0, none, []⟩,
    ⟨some (8+100), .move (T 0), 0, none, []⟩]))))))) (
 .seq (
 .seq (
 .ops [
  ⟨some 0, .move (V 0), 0, none, []⟩,
  ⟨some 1, .fieldAddr N.zb (V 3) 4, 0, none, []⟩,
  ⟨some 2, .load N.zi (T 1), 0, none, []⟩,
  ⟨some (12+100), .call ⟨.value (.func M.zfy), #[T 0, T 2], #[M.zab, N.zi]⟩, N.zi, none, []⟩,
  ⟨some (13+100), .call ⟨.builtin .len, #[V 12], #[N.zi]⟩, N.ze, none, []⟩,
  ⟨some (14+100), .move (.const (.int .i64 0)), 0, none, []⟩]) (
 .block 2 (
  .loop (
   .seq (
   .ops [
    ⟨some (15+100), .binOp .lss N.ze (V 14) (V 13) N.ze, 0, none, []⟩]) (
   .seq (
   .cond 15 (
    .skip) (
    .exit 2)) (
   .seq (
   .block 3 (
    .seq (
    .ops [
     ⟨some 0, .indexAddr N.zi (V 12) (V 14), 0, none, []⟩,
     ⟨some 1, .load N.zy (T 0), 0, none, []⟩,
     ⟨some (16+100), .alloc N.zy, 0, none, []⟩,
     ⟨none, .store N.zy (V 16) (T 1), 0, none, []⟩]) (
    .draw [
     ⟨some 0, .fieldAddr N.zb (V 5) 4, 0, none, []⟩,
     ⟨some 1, .load N.zi (T 0), 0, none, [0]⟩,
     ⟨some 2, .fieldAddr N.zy (V 16) 0, 0, none, []⟩,
     ⟨some 3, .load N.zc (T 2), 0, none, [2]⟩,
     ⟨some 4, .fieldAddr N.zy (V 16) 1, 0, none, []⟩,
     ⟨some 5, .load N.za (T 4), 0, none, [4]⟩,
     ⟨some 6, .call ⟨.value (.func M.zdi), #[T 5], #[N.za]⟩, N.za, none, [5]⟩,
     ⟨some 7, .build N.zy #[(0, (T 3)), (1, (T 6))], 0, none, [3, 6]⟩,
     ⟨some 8, .buildSlice N.zi 1 #[(0, (T 7))], 0, none, [7]⟩,
     ⟨some 9, .call ⟨.builtin .append, #[T 1, T 8], #[N.zi, N.zi]⟩, N.zi, none, [1, 8, 6]⟩,
     ⟨some 10, .fieldAddr N.zb (V 5) 4, 0, none, [0, 1, 2, 3, 4, 5, 6, 7, 8, 9]⟩,
     ⟨none, .store N.zi (T 10) (T 9), 0, none, [10, 9, 9, 0, 1, 2, 3, 4, 5, 6, 7, 8, 9]⟩]))) (
   .ops [
    ⟨some 0, .binOp .add N.ze (V 14) (.const (.int .i64 1)) N.ze, 0, none, []⟩,
    ⟨some (14+100), .move (T 0), 0, none, []⟩]))))))) (
 .seq (
 .ops [
  ⟨some 0, .load N.zb (V 5), 0, none, []⟩,
  ⟨none, .store N.zb (V 4) (T 0), 0, none, []⟩]) (
 .ret)))))
def znr (N : Nums) (M : zaz) (L : zen) : C :=
 .seq (
 .ops [
  ⟨some (3+100), .box M.zg (V 0), 0, none, []⟩,
  ⟨some (4+100), .box N.zb (V 2), 0, none, []⟩,
  ⟨some (5+100), .alloc N.zb, 0, none, []⟩]) (
 .seq (
 .ops [
  ⟨some 0, .load M.zg (V 3), 0, none, []⟩,
  ⟨some 1, .move (V 1), 0, none, []⟩,
  ⟨some 2, .load N.zb (V 4), 0, none, []⟩,
  ⟨some 3, .call ⟨.value (.func M.zet), #[T 0, T 1, T 2], #[M.zg, N.ze, N.zb]⟩, N.zaq, none, []⟩,
  ⟨some (6+100), .assign (T 3), 0, none, []⟩]) (
 .seq (
 .seq (
 .ops [
  ⟨some 0, .fieldAddr M.zg (V 3) 0, 0, none, []⟩,
  ⟨some (7+100), .load N.ze (T 0), 0, none, []⟩]) (
 .block 0 (
  .seq (
  .seq (
  .ops [
   ⟨some 0, .binOp .eql N.ze (V 7) (.const (.int .i64 8)) N.ze, 0, none, []⟩,
   ⟨some (8+100), .assign (T 0), 0, none, []⟩]) (
  .cond 8 (
   .skip) (
   .ops [
    ⟨some 0, .binOp .eql N.ze (V 7) (.const (.int .i64 9)) N.ze, 0, none, []⟩,
    ⟨some (8+100), .assign (T 0), 0, none, []⟩]))) (
  .cond 8 (
   .seq (
   .ops [
    ⟨some 0, .fieldAddr N.zb (V 4) 1, 0, none, []⟩,
    ⟨some 1, .load N.za (T 0), 0, none, []⟩,
    ⟨some 2, .call ⟨.value (.func M.zdi), #[T 1], #[N.za]⟩, N.za, none, []⟩,
    ⟨some 3, .move (V 6), 0, none, []⟩,
    ⟨some 4, .build N.zb #[(1, (T 2)), (2, (T 3))], 0, none, []⟩,
    ⟨none, .store N.zb (V 5) (T 4), 0, none, []⟩]) (
   .ret)) (
   .seq (
   .ops [
    ⟨some 0, .binOp .eql N.ze (V 7) (.const (.int .i64 10)) N.ze, 0, none, []⟩,
    ⟨some (9+100), .assign (T 0), 0, none, []⟩]) (
   .cond 9 (
    .seq (
    .ops [
     ⟨some 0, .fieldAddr M.zg (V 3) 7, 0, none, []⟩,
     ⟨some 1, .load M.zab (T 0), 0, none, []⟩,
     ⟨some 2, .move (V 1), 0, none, []⟩,
     ⟨some 3, .load N.zb (V 4), 0, none, []⟩,
     ⟨some 4, .call ⟨.value (.func L.zkf), #[T 1, T 2, T 3], #[M.zab, N.ze, N.zb]⟩, N.zb, none, []⟩,
     ⟨some (10+100), .alloc N.zb, 0, none, []⟩,
     ⟨none, .store N.zb (V 10) (T 4), 0, none, []⟩]) (
    .seq (
    .ops [
     ⟨some 0, .move (V 6), 0, none, []⟩,
     ⟨some 1, .fieldAddr N.zb (V 10) 2, 0, none, []⟩,
     ⟨none, .store N.zaq (T 1) (T 0), 0, none, []⟩]) (
    .seq (
    .ops [
     ⟨some 0, .load N.zb (V 10), 0, none, []⟩,
     ⟨none, .store N.zb (V 5) (T 0), 0, none, []⟩]) (
    .ret)))) (
    .seq (
    .ops [
     ⟨some 0, .binOp .eql N.ze (V 7) (.const (.int .i64 11)) N.ze, 0, none, []⟩,
     ⟨some (11+100), .assign (T 0), 0, none, []⟩]) (
    .cond 11 (
     .seq (
     .ops [
      ⟨some 0, .move (V 6), 0, none, []⟩,
      ⟨some 1, .move (T 0), 0, none, []⟩,
      ⟨some 2, .fieldAddr M.zg (V 3) 4, 0, (some (some 1, false)), []⟩,
      ⟨some 3, .load N.ze (T 2), 0, (some (some 1, false)), []⟩,
      ⟨some 4, .binOp .geq N.ze (T 3) (.const (.int .i64 0)) N.ze, 0, (some (some 1, false)), []⟩,
      ⟨some 5, .move (T 4), 0, (some (some 1, false)), []⟩,
      ⟨some 6, .fieldAddr N.zb (V 4) 3, 0, (some (some 5, true)), []⟩,
      ⟨some 7, .load N.zj (T 6), 0, (some (some 5, true)), []⟩,
      ⟨some 8, .call ⟨.builtin .len, #[T 7], #[N.zj]⟩, N.ze, (some (some 5, true)), []⟩,
      ⟨some 9, .binOp .eql N.ze (T 8) (.const (.int .i64 0)) N.ze, 0, (some (some 5, true)), []⟩,
      ⟨some 10, .pick (T 5) (T 9) (.const (.bool false)), 0, (some (some 1, false)), []⟩,
      ⟨some 11, .pick (T 1) (.const (.bool true)) (T 10), 0, none, []⟩,
      ⟨some 12, .build N.zb #[(2, (T 11))], 0, none, []⟩,
      ⟨some (12+100), .alloc N.zb, 0, none, []⟩,
      ⟨none, .store N.zb (V 12) (T 12), 0, none, []⟩]) (
     .seq (
     .ops [
      ⟨some 0, .load M.zg (V 3), 0, none, []⟩,
      ⟨some (13+100), .alloc M.zg, 0, none, []⟩,
      ⟨none, .store M.zg (V 13) (T 0), 0, none, []⟩]) (
     .seq (
     .ops [
      ⟨some 0, .fieldAddr M.zg (V 3) 6, 0, none, []⟩,
      ⟨some 1, .load N.ze (T 0), 0, none, []⟩,
      ⟨some 2, .fieldAddr M.zg (V 13) 0, 0, none, []⟩,
      ⟨none, .store N.ze (T 2) (T 1), 0, none, []⟩,
      ⟨some 3, .fieldAddr M.zg (V 13) 3, 0, none, []⟩,
      ⟨none, .store N.ze (T 3) (.const (.int .i64 (-1))), 0, none, []⟩,
      ⟨some 4, .fieldAddr M.zg (V 13) 4, 0, none, []⟩,
      ⟨none, .store N.ze (T 4) (.const (.int .i64 (-1))), 0, none, []⟩]) (
     .seq (
     .seq (
     .ops [
      ⟨some 0, .fieldAddr N.zb (V 4) 3, 0, none, []⟩,
      ⟨some 1, .load N.zj (T 0), 0, none, []⟩,
      ⟨some (14+100), .call ⟨.value (.func M.zgm), #[T 1], #[N.zj]⟩, N.zj, none, []⟩,
      ⟨some (15+100), .call ⟨.builtin .len, #[V 14], #[N.zj]⟩, N.ze, none, []⟩,
      ⟨some (16+100), .move (.const (.int .i64 0)), 0, none, []⟩]) (
     .block 1 (
      .loop (
       .seq (
       .ops [
        ⟨some (17+100), .binOp .lss N.ze (V 16) (V 15) N.ze, 0, none, []⟩]) (
       .seq (
       .cond 17 (
        .skip) (
        .exit 1)) (
       .seq (
       .block 2 (
        .seq (
        .ops [
         ⟨some 0, .indexAddr N.zj (V 14) (V 16), 0, none, []⟩,
         ⟨some 1, .load N.zb (T 0), 0, none, []⟩,
         ⟨some (18+100), .alloc N.zb, 0, none, []⟩,
         ⟨none, .store N.zb (V 18) (T 1), 0, none, []⟩]) (
        .draw [
         ⟨some 0, .fieldAddr N.zb (V 12) 3, 0, none, []⟩,
         ⟨some 1, .load N.zj (T 0), 0, none, [0]⟩,
         ⟨some 2, .load M.zg (V 13), 0, none, []⟩,
         ⟨some 3, .move (V 1), 0, none, []⟩,
         ⟨some 4, .load N.zb (V 18), 0, none, []⟩,
         ⟨some 5, .call ⟨.value (.func L.zfo), #[T 2, T 3, T 4], #[M.zg, N.ze, N.zb]⟩, N.zb, none, [2, 3, 4]⟩,
         ⟨some 6, .buildSlice N.zj 1 #[(0, (T 5))], 0, none, [5]⟩,
         ⟨some 7, .call ⟨.builtin .append, #[T 1, T 6], #[N.zj, N.zj]⟩, N.zj, none, [1, 6, 5]⟩,
         ⟨some 8, .fieldAddr N.zb (V 12) 3, 0, none, [0, 1, 2, 3, 4, 5, 6, 7]⟩,
         ⟨none, .store N.zj (T 8) (T 7), 0, none, [8, 7, 7, 0, 1, 2, 3, 4, 5, 6, 7]⟩]))) (
       .ops [
        ⟨some 0, .binOp .add N.ze (V 16) (.const (.int .i64 1)) N.ze, 0, none, []⟩,
        ⟨some (16+100), .move (T 0), 0, none, []⟩]))))))) (
     .seq (
     .ops [
      ⟨some 0, .load N.zb (V 12), 0, none, []⟩,
      ⟨none, .store N.zb (V 5) (T 0), 0, none, []⟩]) (
     .ret)))))) (
     .skip))))))))) (
 .seq (
 .ops [
  ⟨some 0, .fieldAddr N.zb (V 4) 0, 0, none, []⟩,
  ⟨some 1, .load N.zbn (T 0), 0, none, []⟩,
  ⟨some 2, .fieldAddr N.zb (V 4) 1, 0, none, []⟩,
  ⟨some 3, .load N.za (T 2), 0, none, []⟩,
  ⟨some 4, .build N.zb #[(0, (T 1)), (1, (T 3))], 0, none, []⟩,
  ⟨none, .store N.zb (V 5) (T 4), 0, none, []⟩]) (
 .ret))))
def c_textOf (N : Nums) (M : zaz) (L : zen) : C :=
 .seq (
 .ops [
  ⟨some (1+100), .box N.zaa (V 0), 0, none, []⟩,
  ⟨some (2+100), .assign (.const (.pointer none)), 0, none, []⟩]) (
 .seq (
 .seq (
 .ops [
  ⟨some 0, .fieldAddr N.zaa (V 1) 2, 0, none, []⟩,
  ⟨some (3+100), .load N.zaq (T 0), 0, none, []⟩]) (
 .cond 3 (
  .seq (
  .ops [
   ⟨some (2+100), .assign (.const (.pointer none)), 0, none, []⟩]) (
  .ret)) (
  .skip))) (
 .seq (
 .ops [
  ⟨some 0, .fieldAddr N.zaa (V 1) 1, 0, none, []⟩,
  ⟨some 1, .load N.za (T 0), 0, none, []⟩,
  ⟨some 2, .convert N.za N.zal (T 1), 0, none, []⟩,
  ⟨some (4+100), .alloc N.zal, 0, none, []⟩,
  ⟨none, .store N.zal (V 4) (T 2), 0, none, []⟩]) (
 .seq (
 .ops [
  ⟨some (2+100), .assign (V 4), 0, none, []⟩]) (
 .ret))))
def zsw (N : Nums) (M : zaz) (L : zen) : C :=
 .seq (
 .ops [
  ⟨some (1+100), .box N.zaa (V 0), 0, none, []⟩,
  ⟨some (2+100), .assign (.const (.slice none 0 0)), 0, none, []⟩]) (
 .seq (
 .seq (
 .ops [
  ⟨some 0, .fieldAddr N.zaa (V 1) 2, 0, none, []⟩,
  ⟨some (3+100), .load N.zaq (T 0), 0, none, []⟩]) (
 .cond 3 (
  .seq (
  .ops [
   ⟨some (2+100), .assign (.const (.slice none 0 0)), 0, none, []⟩]) (
  .ret)) (
  .skip))) (
 .seq (
 .ops [
  ⟨some 0, .buildSlice N.za 0 #[], 0, none, []⟩,
  ⟨some 1, .fieldAddr N.zaa (V 1) 1, 0, none, []⟩,
  ⟨some 2, .load N.za (T 1), 0, none, []⟩,
  ⟨some 3, .call ⟨.builtin .append, #[T 0, T 2], #[N.za, N.za]⟩, N.za, none, []⟩,
  ⟨some (2+100), .assign (T 3), 0, none, []⟩]) (
 .ret)))
def zwc (N : Nums) (M : zaz) (L : zen) : C :=
 .seq (
 .ops [
  ⟨some (1+100), .alloc N.zag, 0, none, []⟩]) (
 .seq (
 .ops [
  ⟨some 0, .slice N.zag (V 1) none none none, 0, none, []⟩,
  ⟨some 1, .move (V 0), 0, none, []⟩,
  ⟨some 2, .call ⟨.builtin .copy, #[T 0, T 1], #[N.za, N.za]⟩, N.ze, none, []⟩]) (
 .seq (
 .ops [
  ⟨some 0, .load N.zag (V 1), 0, none, []⟩,
  ⟨none, .store N.zag (V 1) (T 0), 0, none, []⟩]) (
 .ret)))
structure SMk (P : Program) (N : Nums) (M : zaz) (L : zen) : Prop where
 fit : FOk P L.zkf 3 (zsv N M L) [.cell 4 N.zb]
 fitted : FOk P L.zfo 3 (znr N M L) [.cell 5 N.zb]
def GS (wS : World) : Nat → Prop := fun k => k < wS.heap.size
def FitR (wS w : World) (t : Tr) (r : Value) (w' : World) : Prop := ∃ cs, r = .agg cs.toArray ∧ RepT w' (GN (GS wS) w.heap.size w'.heap.size) t cs ∧ Mod w w' zw
def FitOk (P : Program) (L : zen) (v : Int) (fs : List Fld) : Prop := ∀ (wS w : World) (fv : Value) (t : Tr) (cs : List Value), Mod wS w zw → zgd w fv fs → RepA wS t cs →
 Call P L.zkf #[fv, .int .i64 v, .agg cs.toArray] w (FitR wS w (fitP v fs t))
def zxq (P : Program) (L : zen) (v : Int) (f : Fld) : Prop := ∀ (wS w : World) (t : Tr) (cf cs : List Value), Mod wS w zw → RepF w f cf → RepA wS t cs →
 Call P L.zfo #[.agg cf.toArray, .int .i64 v, .agg cs.toArray] w (FitR wS w (fitF v f t))
theorem OctA.tagS {wS w : World} {v : Value} {s : List UInt8} (h : OctA wS v s) (m : Mod wS w zw) {G : Nat → Prop} (hG : ∀ k, k < wS.heap.size → G k) : tagV w G v s := by
 rcases h with ⟨ad, c, e, e2⟩ | ⟨b, o, c, e, h1, h2⟩
 ·exact .inl ⟨e2, ad, c, e⟩
 ·cases s with
  | nil => exact .inl ⟨rfl, _, _, e⟩
  | cons x s =>
   refine .inr ⟨b, o, c, e, h1, fun _ => hG b ?_, zh m h2⟩
   have := h2 0 (zam x) rfl
   exact zfc (by rw [this]; rfl)
theorem RepT.leafS {w : World} {G : Nat → Prop} {n : Int} {s : List UInt8} {nl : Bool} {vs : Value} (h : tagV w G vs s) : RepT w G (.mk n s nl [] []) [.int .i64 n, vs, .bool nl, .slice none 0 0, .slice none 0 0] := by
 exact ⟨vs, .slice none 0 0, .slice none 0 0, rfl, h, .inl ⟨rfl, rfl⟩, .inl ⟨rfl, rfl⟩⟩
section
variable {P : Program} {N : Nums} {M : zaz}
theorem app_tree {tt tg lt lg : TypeId} (hS : zct P N tt tg lt lg) {w3 w w6 : World} {b3 a j : Nat} {n vs nl v e : Value} {ts : List Tr} {x : Tr} {css : List (List Value)} {cs' : List Value} {G : Nat → Prop} (hb3 : b3 < w3.heap.size) (hG : ∀ k, G k → k < b3)
  (mod : Mod w3 w (blk b3)) (m6 : Mod w w6 zw) (ha : w.heap.size ≤ a) (hr : w.rangeAt b3 0 [n, vs, nl, v, e]) (ht : w.there b3 0 5) (ho : Own w w3.heap.size 5 v j css.flatten) (hrep : zcu w (GX G w3.heap.size w v) ts css) (hj : j + 1 < 1099511627776) (hx : RepT w6 (GN G a w6.heap.size) x cs') {ty : TypeId} :
  ∃ w7 v' w8 w9, (Instr.buildSlice lt 1 #[(0, .agg cs'.toArray)]).run P w6 = .ok (.slice (some ⟨w6.heap.size, 0, none⟩) 1 1) w7 ∧ (Builtin.append_ #[lt, lt] ty #[v, .slice (some ⟨w6.heap.size, 0, none⟩) 1 1]).run P w7 = .ok v' w8 ∧
   (Instr.storeAt lt (.pointer (some ⟨b3, 3, none⟩)) v').run P w8 = .ok () w9 ∧ Mod w6 w7 zw ∧ Mod w7 w8 (fun k _ => ¬ zaj v k) ∧ Mod w3 w9 (blk b3) ∧ w9.rangeAt b3 0 [n, vs, nl, v', e] ∧ w9.there b3 0 5 ∧ Own w9 w3.heap.size 5 v' (j + 1) (css ++ [cs']).flatten ∧
   zcu w9 (GX G w3.heap.size w9 v') (ts ++ [x]) (css ++ [cs']) := by
 obtain ⟨fs', hS1⟩ := hS.ti
 have hcl' : cs'.length = 5 := hx.len
 have hsz := mod.size
 have s6 := m6.size
 have hv : ∀ k, ¬ zaj v k → w3.heap.size ≤ k ∧ k < w.heap.size := fun k hk => ho.blk hk
 have hbs := ziq (w := w6) (v := .agg cs'.toArray) (cs := cs') hS.lt hS1 rfl hcl' (by decide) (by decide)
 obtain ⟨w7, hw7⟩ : ∃ w7, w7 = w6.alloc (.cells cs'.toArray tt) := ⟨_, rfl⟩
 have m7 : Mod w6 w7 zw := by rw [hw7]; exact Mod.alloc _ _ _
 have s7 : w7.heap.size = w6.heap.size + 1 := by rw [hw7]; exact zae _ _
 have r7 : w7.rangeAt w6.heap.size 0 cs' := by rw [hw7]; exact zu w6 _ _ _
 rw [← hw7] at hbs
 clear hw7
 have m07 : Mod w w7 zw := m6.trans' m7
 have ho7 : Own w7 w3.heap.size 5 v j css.flatten := ho.stay m07 fun _ _ _ h => h
 obtain ⟨v', w8, happ, ho8, m8, hone', hnb⟩ := zgg (P := P) (ty := ty) (m := 1) (cb := 1) hS.lt hS1 ho7 r7 (by rw [hcl']) hx.one (by omega) rfl (zcu.ones hrep) (by omega) (by decide) (by decide)
 have nb3 : ¬ ¬ zaj v b3 := fun h => by have := (hv b3 h).1; omega
 have s8 := m8.size
 have h8 : w8.there b3 0 5 := m8.there (by omega) (m07.there (by omega) ht)
 have t8 : w8.there b3 3 1 := fun i hi => by
  have := h8 (3 + i) (by omega)
  rwa [show 0 + (3 + i) = 3 + i by omega] at this
 have hsto := hS.lt.run_store1 (w := w8) (b := b3) (o := 3) (v := v') hone' t8
 obtain ⟨w9, hw9⟩ : ∃ w9, w9 = w8.setCell ⟨b3, 3, none⟩ v' := ⟨_, rfl⟩
 have m9 : Mod w8 w9 fun k _ => k = b3 := by rw [hw9]; exact Mod.setCell fun _ => rfl
 have r8 : w8.rangeAt b3 0 [n, vs, nl, v, e] := m8.rangeAt (by omega) (fun _ _ _ => nb3) (zh m07 hr)
 have r9 : w9.rangeAt b3 0 [n, vs, nl, v', e] := by rw [hw9]; exact zfm (i := 3) r8 (by simp)
 rw [← hw9] at hsto
 clear hw9
 obtain ⟨q1, q2, q3, q4⟩ := zni (w := w) (w6 := w6) (w7 := w7) (w8 := w8) (w9 := w9) (G := G) (lo := w3.heap.size) (v := v) (v' := v') (b3 := b3) (a := a) hG hb3 hsz m6 ha m7 m8 m9 hv hnb
 refine ⟨w7, v', w8, w9, hbs, happ, hsto, m7, m8, mod.trans q1 fun k _ hk h => h.elim id fun h => h.elim (fun h => by have := (hv k h).1; omega) id, r9, m9.there (by omega) h8, ?_, ?_⟩
 ·have := ho8.stay m9 (fun k o h e => by have : k = b3 := e; have := ho8.blk h; omega)
  simpa using this
 ·exact (zcu.mod q1 q2 _ hrep).append ⟨cs', [], rfl, RepT.mod q3 q4 _ hx, rfl⟩
theorem app_tag {tt tg lt lg : TypeId} (hS : zct P N tt tg lt lg) {w3 w w6 : World} {b3 a j k : Nat} {n vs nl e v tv : Value} {us : List (Nat × List UInt8)} {s : List UInt8} {cs : List Value} {G : Nat → Prop} (hb3 : b3 < w3.heap.size) (hG : ∀ k, G k → k < b3)
  (mod : Mod w3 w (blk b3)) (m6 : Mod w w6 zw) (ha : w.heap.size ≤ a) (hr : w.rangeAt b3 0 [n, vs, nl, e, v]) (ht : w.there b3 0 5) (ho : Own w w3.heap.size 2 v j cs) (hrep : UsG w (GX G w3.heap.size w v) us cs) (hj : j + 1 < 1099511627776) (hx : tagV w6 (GN G a w6.heap.size) tv s) {ty : TypeId} :
  ∃ w7 v' w8 w9, (Instr.buildSlice lg 1 #[(0, .agg #[.int .u32 k, tv])]).run P w6 = .ok (.slice (some ⟨w6.heap.size, 0, none⟩) 1 1) w7 ∧ (Builtin.append_ #[lg, lg] ty #[v, .slice (some ⟨w6.heap.size, 0, none⟩) 1 1]).run P w7 = .ok v' w8 ∧
   (Instr.storeAt lg (.pointer (some ⟨b3, 4, none⟩)) v').run P w8 = .ok () w9 ∧ Mod w6 w7 zw ∧ Mod w7 w8 (fun k _ => ¬ zaj v k) ∧ Mod w3 w9 (blk b3) ∧ w9.rangeAt b3 0 [n, vs, nl, e, v'] ∧ w9.there b3 0 5 ∧ Own w9 w3.heap.size 2 v' (j + 1) (cs ++ [.int .u32 k, tv]) ∧
   UsG w9 (GX G w3.heap.size w9 v') (us ++ [(k, s)]) (cs ++ [.int .u32 k, tv]) := by
 obtain ⟨fs', hS1⟩ := hS.tu
 have hsz := mod.size
 have s6 := m6.size
 have hone2 : ∀ c ∈ [Value.int .u32 k, tv], c.oneCell' = true := fun c hc => by
  simp at hc; rcases hc with rfl | rfl
  ·rfl
  ·exact hx.one
 have hv : ∀ k, ¬ zaj v k → w3.heap.size ≤ k ∧ k < w.heap.size := fun k hk => ho.blk hk
 have hbs := ziq (w := w6) (v := .agg #[.int .u32 k, tv]) (cs := [.int .u32 k, tv]) hS.lg hS1 rfl rfl (by decide) (by decide)
 obtain ⟨w7, hw7⟩ : ∃ w7, w7 = w6.alloc (.cells [Value.int .u32 k, tv].toArray tg) := ⟨_, rfl⟩
 have m7 : Mod w6 w7 zw := by rw [hw7]; exact Mod.alloc _ _ _
 have s7 : w7.heap.size = w6.heap.size + 1 := by rw [hw7]; exact zae _ _
 have r7 : w7.rangeAt w6.heap.size 0 [.int .u32 k, tv] := by rw [hw7]; exact zu w6 _ _ _
 rw [← hw7] at hbs
 clear hw7
 have m07 : Mod w w7 zw := m6.trans' m7
 have ho7 : Own w7 w3.heap.size 2 v j cs := ho.stay m07 fun _ _ _ h => h
 obtain ⟨v', w8, happ, ho8, m8, hone', hnb⟩ := zgg (P := P) (ty := ty) (m := 1) (cb := 1) hS.lg hS1 ho7 r7 rfl hone2 (by omega) rfl hrep.ones (by omega) (by decide) (by decide)
 have nb3 : ¬ ¬ zaj v b3 := fun h => by have := (hv b3 h).1; omega
 have s8 := m8.size
 have h8 : w8.there b3 0 5 := m8.there (by omega) (m07.there (by omega) ht)
 have t8 : w8.there b3 4 1 := fun i hi => by
  have := h8 (4 + i) (by omega)
  rwa [show 0 + (4 + i) = 4 + i by omega] at this
 have hsto := hS.lg.run_store1 (w := w8) (b := b3) (o := 4) (v := v') hone' t8
 obtain ⟨w9, hw9⟩ : ∃ w9, w9 = w8.setCell ⟨b3, 4, none⟩ v' := ⟨_, rfl⟩
 have m9 : Mod w8 w9 fun k _ => k = b3 := by rw [hw9]; exact Mod.setCell fun _ => rfl
 have r8 : w8.rangeAt b3 0 [n, vs, nl, e, v] := m8.rangeAt (by omega) (fun _ _ _ => nb3) (zh m07 hr)
 have r9 : w9.rangeAt b3 0 [n, vs, nl, e, v'] := by rw [hw9]; exact zfm (i := 4) r8 (by simp)
 rw [← hw9] at hsto
 clear hw9
 obtain ⟨q1, q2, q3, q4⟩ := zni (w := w) (w6 := w6) (w7 := w7) (w8 := w8) (w9 := w9) (G := G) (lo := w3.heap.size) (v := v) (v' := v') (b3 := b3) (a := a) hG hb3 hsz m6 ha m7 m8 m9 hv hnb
 refine ⟨w7, v', w8, w9, hbs, happ, hsto, m7, m8, mod.trans q1 fun k _ hk h => h.elim id fun h => h.elim (fun h => by have := (hv k h).1; omega) id, r9, m9.there (by omega) h8, ?_, ?_⟩
 ·exact ho8.stay m9 (fun k o h e => by have : k = b3 := e; have := ho8.blk h; omega)
 ·exact (UsG.mod q1 q2 hrep).append ⟨tv, [], rfl, hx.mod q3 q4, rfl⟩
theorem build12 {tt tg lt lg : TypeId} (hT : zct P N tt tg lt lg) (w : World) {v : Value} (b : Bool) (h : v.oneCell' = true) : (Instr.build tt #[(1, v), (2, .bool b)]).run P w = .ok (.agg [.int .i64 0, v, .bool b, .slice none 0 0, .slice none 0 0].toArray) w :=
 hT.tree.run_build (by simp [Instr.fill, zcn h, zcn (show (Value.bool b).oneCell' = true from rfl)])
theorem build01 {tt tg lt lg : TypeId} (hT : zct P N tt tg lt lg) (w : World) {v : Value} (n : Int) (h : v.oneCell' = true) : (Instr.build tt #[(0, .int .i64 n), (1, v)]).run P w = .ok (.agg [.int .i64 n, v, .bool false, .slice none 0 0, .slice none 0 0].toArray) w :=
 hT.tree.run_build (by simp [Instr.fill, zcn h, zcn (show (Value.int .i64 n).oneCell' = true from rfl)])
end
structure ZSt (σ : Env) (v : Int) (null : Bool) (kind : Int) (bF bT bR : Nat) : Prop where
 h1 : σ 1 = .int .i64 v
 h3 : σ 3 = .pointer (some ⟨bF, 0, none⟩)
 h4 : σ 4 = .pointer (some ⟨bT, 0, none⟩)
 h5 : σ 5 = .pointer (some ⟨bR, 0, none⟩)
 h6 : σ 6 = .bool null
 h7 : σ 7 = .int .i64 kind
theorem ZSt.upd {σ : Env} {v : Int} {null : Bool} {kind : Int} {bF bT bR : Nat} (h : ZSt σ v null kind bF bT bR) {i : Nat} (hi : 8 ≤ i) (x : Value) : ZSt (upd σ i x) v null kind bF bT bR := by
 obtain ⟨h1, h3, h4, h5, h6, h7⟩ := h
 constructor <;> (rw [zq (by omega)]; assumption)
structure FLs (w3 : World) (wS : World) (v : Int) (bR b12 b13 : Nat) (nl : Bool) (vL : Value) (n : Nat) (ts : List Tr) (j : Nat) (σ : Env) (w : World) : Prop where
 h1 : σ 1 = .int .i64 v
 h5 : σ 5 = .pointer (some ⟨bR, 0, none⟩)
 h12 : σ 12 = .pointer (some ⟨b12, 0, none⟩)
 h13 : σ 13 = .pointer (some ⟨b13, 0, none⟩)
 h14 : σ 14 = vL
 h15 : σ 15 = .int .i64 n
 h16 : σ 16 = .int .i64 j
 le : j ≤ n
 mod : Mod w3 w (blk b12)
 ex : ∃ u css, w.rangeAt b12 0 [.int .i64 0, .slice none 0 0, .bool nl, u, .slice none 0 0] ∧ w.there b12 0 5 ∧ Own w w3.heap.size 5 u j css.flatten ∧ zcu w (GX (GS wS) w3.heap.size w u) (ts.take j) css
section
variable {P : Program} {N : Nums} {M : zaz} {L : zen}
def lFe (N : Nums) (M : zaz) (L : zen) : List ROp := [
 ⟨some 0, .fieldAddr N.zb (V 12) 3, 0, none, []⟩, ⟨some 1, .load N.zj (T 0), 0, none, [0]⟩, ⟨some 2, .load M.zg (V 13), 0, none, []⟩, ⟨some 3, .move (V 1), 0, none, []⟩, ⟨some 4, .load N.zb (V 18), 0, none, []⟩,
 ⟨some 5, .call ⟨.value (.func L.zfo), #[T 2, T 3, T 4], #[M.zg, N.ze, N.zb]⟩, N.zb, none, [2, 3, 4]⟩, ⟨some 6, .buildSlice N.zj 1 #[(0, T 5)], 0, none, [5]⟩,
 ⟨some 7, .call ⟨.builtin .append, #[T 1, T 6], #[N.zj, N.zj]⟩, N.zj, none, [1, 6, 5]⟩, ⟨some 8, .fieldAddr N.zb (V 12) 3, 0, none, [0, 1, 2, 3, 4, 5, 6, 7]⟩,
 ⟨none, .store N.zj (T 8) (T 7), 0, none, [8, 7, 7, 0, 1, 2, 3, 4, 5, 6, 7]⟩]
def cFe (N : Nums) (M : zaz) (L : zen) : C := .seq (.ops [⟨some 0, .indexAddr N.zj (V 14) (V 16), 0, none, []⟩, ⟨some 1, .load N.zb (T 0), 0, none, []⟩, ⟨some 118, .alloc N.zb, 0, none, []⟩, ⟨none, .store N.zb (V 18) (T 1), 0, none, []⟩]) (.draw (lFe N M L))
theorem W_fe (B : Base P N) (S : SpT P N M) (hL : SMk P N M L) {loc : List Nat} {N' : Nat} {Q : Exit → Env → World → Prop} {σ : Env} {wS wF w3 w : World} {v : Int} {bR b12 b13 j : Nat} {nl : Bool} {vL : Value} {l : List Tr} {c1 : List Value} {one : Fld}
  (hone : zxq P L v one) (mS : Mod wS w3 zw) (hb12 : b12 < w3.heap.size) (hbS : wS.heap.size ≤ b12) (hb13 : b13 < w3.heap.size) (hne : b13 ≠ b12) (r13 : w3.rangeAt b13 0 c1) (mF : Mod wF w3 zw) (hbF : wF.heap.size ≤ b12) (hf : RepF wF one c1) (hvL : zgb wS vL l) (hll : l.length ≤ 32767) (hj : j < l.length)
  (h : FLs w3 wS v bR b12 b13 nl vL l.length (l.map (fitF v one)) j σ w)
  (hQ : ∀ σ' w', σ' 16 = .int .i64 j → FLs w3 wS v bR b12 b13 nl vL l.length (l.map (fitF v one)) (j + 1) (upd σ' 16 (.int .i64 ((j + 1 : Nat) : Int))) w' → Q .normal σ' w') : W P loc N' (cFe N M L) Q σ w := by
 obtain ⟨h1, h5, h12, h13, h14, h15, h16, _, mod, u, css, hr, ht, ho, hrep⟩ := h
 obtain ⟨fs, hti⟩ := S.tr.ti
 obtain ⟨bl, ol, cl, cx, hv1, hx, hg⟩ := hvL.get (List.getElem?_eq_getElem hj)
 have hsz := mod.size
 have hSz := mS.size
 have hblS : bl < wS.heap.size := by
  have := hg 0 (.int .i64 l[j].n) (by obtain ⟨_, _, _, e, _⟩ := hx.out; rw [e]; rfl)
  exact zfc (by rw [this]; rfl)
 have m3w : ∀ {b o : Nat} {cs : List Value}, b < wS.heap.size → wS.rangeAt b o cs → w.rangeAt b o cs := fun hb hr => mod.rangeAt (by omega) (fun _ _ _ e => by have : _ = b12 := e; omega) (mS.rangeAt hb (fun _ _ _ h => h) hr)
 have hgw := m3w hblS hg
 have mSw : Mod wS w zw := mS.fresh mod fun k o e => by have : k = b12 := e; omega
 have hld := zbo (P := P) S.tr hgw hx.len
 have hix := fun {w : World} => zbf (P := P) (w := w) S.tr.lt hti (bl := bl) (o := ol) (n := l.length) (c := cl) (i := j) (k := .i64) hj
 obtain ⟨wa, w5, hal, hst, _, m5, s5, r5, _⟩ := zgs (cs := cx) hti (by decide) rfl hx.len hx.ones w
 unfold cFe
 refine zf fun K hK => zn fun τ => ?_
 simp +decide only [bK, bE, Nat.reduceBeqDiff, BEq.rfl, Nat.reduceAdd, h14, h16]
 rw [hv1]
 simp +decide only [bK, hix, hld, hal, hst]
 refine hK _ _ (zd fun σ5 hσ => ?_)
 have g1 := hσ 1
 have g5 := hσ 5
 have g12 := hσ 12
 have g13 := hσ 13
 have g14 := hσ 14
 have g15 := hσ 15
 have g16 := hσ 16
 have g18 := hσ 18
 simp +decide only [bE, Nat.reduceBeqDiff, BEq.rfl, Nat.reduceAdd, h1, h5, h12, h13, h14, h15, h16] at g1 g5 g12 g13 g14 g15 g16 g18
 clear hσ hK K hst hld hal
 have md : Mod w w5.drew zw := m5.trans' (Mod.drew _ _)
 have hv : ∀ k, ¬ zaj u k → w3.heap.size ≤ k ∧ k < w.heap.size := fun k hk => ho.blk hk
 have keep : ∀ {w' : World} {k o : Nat} {cs : List Value}, Mod w w' (fun k _ => ¬ zaj u k) → k < w3.heap.size → w.rangeAt k o cs → w'.rangeAt k o cs := fun m hk hc => m.rangeAt (by omega) (fun _ _ _ hn => by have := (hv _ hn).1; omega) hc
 have rc1 : w.rangeAt b13 0 c1 := mod.rangeAt hb13 (fun _ _ _ e => by have : b13 = b12 := e; omega) r13
 refine zky B.mixed [true, true, true, true, true, false, false, false, false, false] (by kernel_rfl) (fun w' => Mod w w' (fun k _ => ¬ zaj u k) ∧ w'.rangeAt w.heap.size 0 cx) ⟨md.mono fun _ _ _ h => h.elim, zh (Mod.drew _ _) r5⟩ fun τ => ?_
 have e12 : zia σ5 τ 112 = .pointer (some ⟨b12, 0, none⟩) := by rw [← g12]; exact envOf_var σ5 τ 12
 refine zp (.pointer (some ⟨b12, 3, none⟩)) (fun w' _ => zap (by simp +decide only [ev_tmp, e12, S.tr.h3.run])) rfl ?_
 refine zp u (fun w' hw => zap (by
  have : w'.cell? ⟨b12, 3, none⟩ = some u := keep hw.1 hb12 hr 3 _ rfl
  simp +decide only [bE, BEq.rfl, ev_tmp, S.tr.lt.run_load1 rfl, this, ldc_some])) rfl ?_
 refine zp (.agg c1.toArray) (fun w' hw => zap (by
  simp +decide only [bE, Nat.reduceBeqDiff, Nat.reduceAdd, ev_tmp, g13]
  exact zmd S (keep hw.1 hb13 rc1) hf.len)) rfl ?_
 refine zp (.int .i64 v) (fun w' _ => by
  rw [zby, ev_tmp]
  simp +decide only [bE, Nat.reduceBeqDiff, Nat.reduceAdd, g1]) rfl ?_
 refine zp (.agg cx.toArray) (fun w' hw => zap (by
  simp +decide only [bE, Nat.reduceBeqDiff, Nat.reduceAdd, ev_tmp, g18]
  exact zbo S.tr hw.2 hx.len)) rfl ?_
 simp only [zeb, lFe, zer, List.zip_cons_cons, List.zip_nil_right, List.zipWith_cons_cons, List.zipWith_nil_right, List.filter, Bool.not_true, Bool.not_false, List.map, zgq]
 rw [zdy hL.fitted.has]
 simp +decide only [bK, bE, Nat.reduceBeqDiff, BEq.rfl, Nat.reduceAdd]
 have hfd : RepF w5.drew one c1 := RepF.stay ((mF.fresh mod fun k o e => by have : k = b12 := e; omega : Mod wF w zw).trans' md) _ hf
 refine (hone wS w5.drew l[j] c1 cx (mSw.trans' md) hfd hx).mono ?_
 rintro _ w6 ⟨cs', rfl, hrep6, m6d⟩
 have m6 : Mod w w6 zw := md.trans' m6d
 have r6 : w6.rangeAt w.heap.size 0 cx := zh m6d (zh (Mod.drew _ _) r5)
 refine ⟨⟨m6.mono fun _ _ _ h => h.elim, r6⟩, ?_⟩
 obtain ⟨w7, v', w8, w9, hbs, happ, hsto, m7, m8, m9, r9, t9, ho9, hrep9⟩ := app_tree (ty := N.zj) S.tr hb12 (fun k (hk : k < wS.heap.size) => by omega) mod m6 (Nat.le_trans (Nat.le_succ _) (Nat.le_of_eq s5.symm)) hr ht ho hrep (by omega) hrep6
 have e9 : ∀ ρ : Env, (#[(0, T 5)] : Array (Nat × Operand)).map (fun p => (p.1, ev ρ p.2)) = #[(0, ρ 5)] := fun ρ => by simp
 have nb : ¬ ¬ zaj u w.heap.size := fun h => by have := (hv _ h).2; omega
 have r7 := zh m7 r6
 have s7 := m7.size
 have s6 := m6d.size
 have c8 : w8.rangeAt w.heap.size 0 cx := m8.rangeAt (by have : w5.drew.heap.size = w5.heap.size := rfl; omega) (fun _ _ _ => nb) r7
 have m08 : Mod w w8 (fun k _ => ¬ zaj u k) := ((m6.trans' m7).mono fun _ _ _ h => h.elim).trans' m8
 simp +decide only [bK, bE, BEq.rfl, e9, hbs]
 refine ⟨⟨(m6.trans' m7).mono fun _ _ _ h => h.elim, r7⟩, ?_⟩
 simp +decide only [bK, happ]
 refine ⟨⟨m08, c8⟩, ?_⟩
 simp +decide only [bK, Nat.zero_add, g12, S.tr.h3.run]
 refine ⟨⟨m08, c8⟩, ?_⟩
 simp +decide only [bK, hsto]
 refine zd (K := fun σ' w' => Q .normal σ' w') fun σ9 hσ => hQ _ _ ?_ ?_
 ·have := hσ 16
  simp +decide only [bE, Nat.reduceBeqDiff, Nat.reduceAdd, g16] at this
  exact this
 ·have p1 := hσ 1
  have p5 := hσ 5
  have p12 := hσ 12
  have p13 := hσ 13
  have p14 := hσ 14
  have p15 := hσ 15
  simp +decide only [bE, Nat.reduceBeqDiff, Nat.reduceAdd, g1, g5, g12, g13, g14, g15] at p1 p5 p12 p13 p14 p15
  refine ⟨by rw [zq (by decide)]; exact p1, by rw [zq (by decide)]; exact p5, by rw [zq (by decide)]; exact p12, by rw [zq (by decide)]; exact p13, by rw [zq (by decide)]; exact p14, by rw [zq (by decide)]; exact p15, upd_same _ _ _, hj, m9, v', css ++ [cs'], r9, t9, ho9, ?_⟩
  rw [List.take_add_one, List.getElem?_map, List.getElem?_eq_getElem hj]
  exact hrep9
end
section
variable {P : Program} {N : Nums} {M : zaz} {L : zen}
theorem zrl {ρ : Env} {w : World} {K : Env → World → Prop} {d : Option Nat} {ty : TypeId} {af : List Nat} {op : Op} {g : Nat} {b : Bool} (h : ρ g = undef) : zbk P ⟨d, op, ty, some (some g, b), af⟩ ρ w K = K (put ρ d undef) w := by
 unfold zbk; simp only [zea, h]; rfl
theorem zux (B : Base P N) (S : SpT P N M) (hW : SW P N M) (hL : SMk P N M L) {v : Int} {f : Fld} (htag : f.tag < 0) (hsub : f.kind = 10 → FitOk P L v f.sub) (helm : f.kind = 11 → zxq P L v f.one ∧ f.of ≠ 11) : zxq P L v f := by
 intro wS w t cf ct mS hf ht
 obtain ⟨fs, hti⟩ := S.tr.ti
 refine hL.fitted.call rfl fun loc N' hlo => ?_
 unfold znr
 obtain ⟨fv, hcf, hfv⟩ := hf.out
 obtain ⟨vs, vl, vu, hct, t1, t2, t3⟩ := ht.out
 refine zf fun K hK => zn fun τ => ?_
 simp +decide only [bK, bE, Nat.reduceBeqDiff, Nat.reduceAdd, Nat.zero_add]
 obtain ⟨w1, hw1⟩ : ∃ w1, w1 = w.alloc (.cells (Value.cells (.agg cf.toArray)) M.zg) := ⟨_, rfl⟩
 have m1 : Mod w w1 zw := by rw [hw1]; exact Mod.alloc _ _ _
 have r1 : w1.rangeAt w.heap.size 0 cf := by rw [hw1]; exact zu w _ _ _
 have s1 : w1.heap.size = w.heap.size + 1 := by rw [hw1]; exact zae _ _
 rw [← hw1]
 clear hw1
 obtain ⟨w2, hw2⟩ : ∃ w2, w2 = w1.alloc (.cells (Value.cells (.agg ct.toArray)) N.zb) := ⟨_, rfl⟩
 have m2 : Mod w1 w2 zw := by rw [hw2]; exact Mod.alloc _ _ _
 have r2 : w2.rangeAt w1.heap.size 0 ct := by rw [hw2]; exact zu w1 _ _ _
 have s2 : w2.heap.size = w1.heap.size + 1 := by rw [hw2]; exact zae _ _
 rw [← hw2]
 clear hw2
 have hal := hti.run_alloc (w := w2) (.tuple #[])
 obtain ⟨w3, hw3⟩ : ∃ w3, w3 = w2.alloc (.cells (Value.cells (.agg zT.toArray)) N.zb) := ⟨_, rfl⟩
 have m3 : Mod w2 w3 zw := by rw [hw3]; exact Mod.alloc _ _ _
 have r3 : w3.rangeAt w2.heap.size 0 zT := by rw [hw3]; exact zu w2 _ _ _
 have t5 : w3.there w2.heap.size 0 5 := by rw [hw3]; exact zbe w2 zT.toArray N.zb
 have s3 : w3.heap.size = w2.heap.size + 1 := by rw [hw3]; exact zae _ _
 rw [← hw3] at hal
 simp +decide only [bK, hal]
 clear hal hw3
 have m03 := (m1.trans' m2).trans' m3
 have r1 := zh (m2.trans' m3) r1
 have r2 := zh m3 r2
 obtain ⟨bF, hbF⟩ : ∃ b, b = w.heap.size := ⟨_, rfl⟩
 obtain ⟨bT, hbT⟩ : ∃ b, b = w1.heap.size := ⟨_, rfl⟩
 obtain ⟨bR, hbR⟩ : ∃ b, b = w2.heap.size := ⟨_, rfl⟩
 rw [← hbF, ← hbT, ← hbR]
 rw [← hbF] at r1
 rw [← hbT] at r2
 rw [← hbR] at r3 t5
 have lF : bF < w3.heap.size := by omega
 have lT : bT < w3.heap.size := by omega
 have lR : bR < w3.heap.size := by omega
 refine hK _ _ (zd fun σ hσ => ?_)
 have f1 := hσ 1
 have f3 := hσ 3
 have f4 := hσ 4
 have f5 := hσ 5
 simp +decide only [bE, Nat.reduceBeqDiff, BEq.rfl, Nat.reduceAdd, zgt] at f1 f3 f4 f5
 clear hσ hK K
 have mS3 := mS.trans' m03
 refine zf fun K hK => zn fun τ => ?_
 simp +decide only [bK, bE, Nat.reduceBeqDiff, Nat.reduceAdd, f1, f3, f4, zmd S r1 hf.len, zbo S.tr r2 ht.len]
 rw [zdy hW.Field_null.has]
 simp +decide only [bK, bE, Nat.reduceBeqDiff, BEq.rfl]
 refine (zvw B S hW.Field_null (RepF.stay m03 _ hf) (RepA.stay mS3 _ ht) v).mono ?_
 rintro _ w4 ⟨rfl, m4⟩
 refine hK _ _ (zd fun σ1 hσ => ?_)
 have g1 := hσ 1
 have g3 := hσ 3
 have g4 := hσ 4
 have g5 := hσ 5
 have g6 := hσ 6
 simp +decide only [bE, Nat.reduceBeqDiff, BEq.rfl, Nat.reduceAdd, f1, f3, f4, f5] at g1 g3 g4 g5 g6
 clear hσ hK K f1 f3 f4 f5
 have s4 := m4.size
 have r1 := zh m4 r1
 have r2 := zh m4 r2
 have r3 := zh m4 r3
 have t5 : w4.there bR 0 5 := m4.there lR t5
 have m04 := m03.trans' m4
 have mS4 := mS3.trans' m4
 have hf4 := RepF.stay m04 _ hf
 have hfv4 := hfv.stay m04
 have cF0 : w4.cell? ⟨bF, 0, none⟩ = some (.int .i64 f.kind) := r1 0 _ (by rw [hcf]; rfl)
 have cF4 : w4.cell? ⟨bF, 4, none⟩ = some (.int .i64 f.tag) := r1 4 _ (by rw [hcf]; rfl)
 have cF6 : w4.cell? ⟨bF, 6, none⟩ = some (.int .i64 f.of) := r1 6 _ (by rw [hcf]; rfl)
 have cF7 : w4.cell? ⟨bF, 7, none⟩ = some fv := r1 7 _ (by rw [hcf]; rfl)
 have cT0 : w4.cell? ⟨bT, 0, none⟩ = some (.int .i64 t.n) := r2 0 _ (by rw [hct]; rfl)
 have cT1 : w4.cell? ⟨bT, 1, none⟩ = some vs := r2 1 _ (by rw [hct]; rfl)
 have cT3 : w4.cell? ⟨bT, 3, none⟩ = some vl := r2 3 _ (by rw [hct]; rfl)
 have give : ∀ {σ' : Env} {wc w' : World} {cs : List Value} {t' : Tr}, σ' 5 = .pointer (some ⟨bR, 0, none⟩) → Mod w4 wc zw → Mod wc w' (blk bR) → w'.rangeAt bR 0 cs → RepT w' (GN (GS wS) w4.heap.size w'.heap.size) t' cs → retQ P [.cell 5 N.zb] (FitR wS w t') .ret σ' w' := by
  intro σ' wc w' cs t' h5 mc m' hr hrep
  have mw : Mod w w' zw := (m04.trans' mc).fresh m' fun k o e => by have : k = bR := e; omega
  refine ⟨.inr rfl, .agg cs.toArray, ⟨_, h5, zpv S.tr hr hrep.len⟩, cs, rfl, ?_, mw⟩
  exact RepT.mono (fun k hk => hk.elim .inl fun hk => .inr ⟨by omega, hk.2⟩) t' hrep
 have putR : ∀ {wc : World} {cs : List Value}, Mod w4 wc zw → cs.length = 5 → (∀ c ∈ cs, c.oneCell' = true) → ∃ w', (Instr.storeAt N.zb (.pointer (some ⟨bR, 0, none⟩)) (.agg cs.toArray)).run P wc = .ok () w' ∧ Mod wc w' (blk bR) ∧ w'.heap.size = wc.heap.size ∧ w'.rangeAt bR 0 cs ∧ w'.there bR 0 5 := by
  intro wc cs mc hl h1
  exact zpw S.tr (zh mc r3) rfl (mc.there (by omega) t5) hl h1
 have GS_up : ∀ {w' : World} {k : Nat}, k < wS.heap.size → GN (GS wS) w4.heap.size w'.heap.size k := fun h => .inl h
 have hSs := mS4.size
 refine zf fun K hK => zf fun K1 hK1 => zn fun τ => ?_
 simp +decide only [bK, bE, BEq.rfl, Nat.reduceAdd, Nat.add_zero, g3, S.f0.run, B.int.run_load1 rfl, cF0]
 refine hK1 _ _ (zd fun σ5 hσ => ?_)
 have a1 := hσ 1
 have a3 := hσ 3
 have a4 := hσ 4
 have a5 := hσ 5
 have a6 := hσ 6
 have a7 := hσ 7
 simp +decide only [bE, Nat.reduceBeqDiff, BEq.rfl, Nat.reduceAdd, g1, g3, g4, g5, g6] at a1 a3 a4 a5 a6 a7
 clear hσ hK1 K1 g1 g3 g4 g5 g6
 have st : ZSt σ5 v (f.nullB v t) f.kind bF bT bR := ⟨a1, a3, a4, a5, a6, a7⟩
 clear a1 a3 a4 a5 a6 a7
 refine zey (W_case2 hlo st.h7 (by decide) ?_)
 by_cases e8 : f.kind = 8 ∨ f.kind = 9
 ·
  rw [if_pos e8]
  have st := st.upd (i := 8) (by decide) (.bool (decide (f.kind = 8 ∨ f.kind = 9)))
  refine zf fun K2 hK2 => zn fun τ => ?_
  simp +decide only [bK, bE, Nat.reduceBeqDiff, BEq.rfl, Nat.reduceAdd, Nat.zero_add, st.h4, S.tr.h1.run, B.Lu8.run_load1 rfl, cT1]
  rw [zbb hW.whole.has]
  simp +decide only [bK, bE, Nat.reduceBeqDiff, BEq.rfl]
  refine (zmg B hW.whole t1).mono ?_
  rintro x _ ⟨rfl, hx⟩
  have hxs : tagV w4 (GN (GS wS) w4.heap.size w4.heap.size) x (zbq t.s) := hx.tagS mS4 fun k h => GS_up h
  have hrep := RepT.leafS (w := w4) (n := 0) (nl := f.nullB v t) hxs
  obtain ⟨w5, hst, m5, s5, r5, _⟩ := putR (.refl w4 zw) rfl hrep.one
  have e12 : ∀ ρ : Env, (#[(1, T 2), (2, T 3)] : Array (Nat × Operand)).map (fun p => (p.1, ev ρ p.2)) = #[(1, ρ 2), (2, ρ 3)] := fun ρ => by simp
  simp +decide only [bK, bE, Nat.reduceBeqDiff, BEq.rfl, st.h5, st.h6, e12, build12 S.tr w4 (f.nullB v t) hx.one, hst]
  refine hK2 _ _ (zd fun σ8 hσ => zbl ?_)
  have q := hσ 5
  simp +decide only [bE, Nat.reduceBeqDiff, Nat.reduceAdd, st.h5] at q
  simp only [inB]
  have hF : fitF v f t = .mk 0 (zbq t.s) (f.nullB v t) [] [] := by rw [zhg (by omega), fitV, if_pos e8]
  rw [hF]
  exact give q (.refl w4 zw) m5 r5 (RepT.mod m5 (fun k hk => ⟨hk.elim (fun h => by have h : k < wS.heap.size := h; omega) fun h => h.2, fun o e => by
   have e : k = bR := e
   rcases hk with h | h
   ·have h : k < wS.heap.size := h
    have := mS.size
    omega
   ·omega, hk.imp id fun h => ⟨h.1, by omega⟩⟩) _ hrep)
 rw [if_neg e8]
 have st := st.upd (i := 8) (by decide) (.bool (decide (f.kind = 8 ∨ f.kind = 9)))
 refine zjc hlo st.h7 ?_
 by_cases e10 : f.kind = 10
 ·
  rw [if_pos e10]
  have st := st.upd (i := 9) (by decide) (.bool (decide (f.kind = 10)))
  refine zf fun K2 hK2 => zn fun τ => ?_
  simp +decide only [bK, bE, Nat.reduceBeqDiff, BEq.rfl, Nat.reduceAdd, Nat.zero_add, st.h1, st.h3, st.h4, S.f7.run, S.lf.run_load1 rfl, cF7, zbo S.tr r2 ht.len]
  rw [zdy hL.fit.has]
  simp +decide only [bK, bE, Nat.reduceBeqDiff, BEq.rfl]
  refine (hsub e10 wS w4 fv t ct mS4 hfv4 ht).mono ?_
  rintro _ w5 ⟨cs', rfl, hrep5, m5⟩
  obtain ⟨wa, w6, hal, hst, _, m6, s6, r6, t6⟩ := zgs (cs := cs') hti (by decide) rfl hrep5.len hrep5.one w5
  simp +decide only [bK, hal, hst]
  refine hK2 _ _ (zd fun σ6 hσ => ?_)
  have c5 := hσ 5
  have c6 := hσ 6
  have c10 := hσ 10
  simp +decide only [bE, Nat.reduceBeqDiff, BEq.rfl, Nat.reduceAdd, st.h5, st.h6] at c5 c6 c10
  clear hσ hK2 K2 hal hst
  unfold fitP at hrep5
  obtain ⟨us, ul, uu, hcs', q1, q2, q3⟩ := hrep5
  have hrep : RepT w5 (GN (GS wS) w4.heap.size w5.heap.size) (.mk 0 [] (f.nullB v t) (zjg v f.sub 0 t) (fitU t.u)) [.int .i64 0, us, .bool (f.nullB v t), ul, uu] := ⟨us, ul, uu, rfl, q1, q2, q3⟩
  obtain ⟨b10, hb10⟩ : ∃ b, b = w5.heap.size := ⟨_, rfl⟩
  rw [← hb10] at c10 r6 t6
  have st2 := B.bool.run_store1 (P := P) (w := w6) (b := b10) (o := 2) (v := .bool (f.nullB v t)) rfl (fun j hj => by
   have := t6 (2 + j) (by omega)
   rwa [Nat.zero_add] at this)
  obtain ⟨w7, hw7⟩ : ∃ w7, w7 = w6.setCell ⟨b10, 2, none⟩ (.bool (f.nullB v t)) := ⟨_, rfl⟩
  have m7 : Mod w6 w7 (blk b10) := by rw [hw7]; exact Mod.setCell fun _ => rfl
  have r7 := zfm (i := 2) (v := .bool (f.nullB v t)) r6 (by rw [hcs']; simp)
  rw [← hw7] at r7 st2
  have s7 : w7.heap.size = w6.heap.size := by rw [hw7]; simp [World.setCell]
  clear hw7
  rw [hcs'] at r7
  have r7 : w7.rangeAt b10 0 [.int .i64 0, us, .bool (f.nullB v t), ul, uu] := r7
  have m57 : Mod w5 w7 zw := m6.fresh m7 fun k o e => by have : k = b10 := e; omega
  have m47 := m5.trans' m57
  refine zf fun K2 hK2 => zn fun τ => ?_
  simp +decide only [bK, bE, Nat.reduceBeqDiff, BEq.rfl, Nat.reduceAdd, Nat.zero_add, c6, c10, S.tr.h2.run, st2]
  refine hK2 _ _ (zd fun σ7 hσ => ?_)
  have d5 := hσ 5
  have d10 := hσ 10
  simp +decide only [bE, Nat.reduceBeqDiff, Nat.reduceAdd, c5, c10] at d5 d10
  clear hσ hK2 K2
  have hrep7 := RepT.stay m57 _ hrep
  obtain ⟨w8, hst, m8, s8, r8, _⟩ := putR m47 rfl hrep.one
  have hb := m5.size
  refine zf fun K2 hK2 => zn fun τ => ?_
  simp +decide only [bK, bE, Nat.reduceBeqDiff, BEq.rfl, Nat.reduceAdd, d5, d10, zbo S.tr r7 rfl, hst]
  refine hK2 _ _ (zd fun σ8 hσ => zbl ?_)
  have q := hσ 5
  simp +decide only [bE, Nat.reduceBeqDiff, Nat.reduceAdd, d5] at q
  simp only [inB]
  have hF : fitF v f t = .mk 0 [] (f.nullB v t) (zjg v f.sub 0 t) (fitU t.u) := by rw [zhg (by omega), fitV, if_neg e8, if_pos e10]; rfl
  rw [hF]
  refine give q m47 m8 r8 (RepT.mod m8 (fun k hk => ⟨?_, fun o e => ?_, hk.imp id fun h => ⟨h.1, by omega⟩⟩) _ hrep7)
  ·rcases hk with h | h
   ·have h : k < wS.heap.size := h
    omega
   ·omega
  ·have e : k = bR := e
   have := mS.size
   rcases hk with h | h
   ·have h : k < wS.heap.size := h
    omega
   ·omega
 rw [if_neg e10]
 have st := st.upd (i := 9) (by decide) (.bool (decide (f.kind = 10)))
 refine zjc hlo st.h7 ?_
 have st := st.upd (i := 11) (by decide) (.bool (decide (f.kind = 11)))
 obtain ⟨σ9, hσ9⟩ : ∃ σ9, σ9 = upd (upd (upd σ5 8 (.bool (decide (f.kind = 8 ∨ f.kind = 9)))) 9 (.bool (decide (f.kind = 10)))) 11 (.bool (decide (f.kind = 11))) := ⟨_, rfl⟩
 rw [← hσ9] at st ⊢
 clear hσ9
 by_cases e11 : f.kind = 11
 ·
  rw [if_pos e11]
  obtain ⟨hone, hof⟩ := helm e11
  have h4n : ¬ (f.tag ≥ 0) := by omega
  obtain ⟨nl, hnl⟩ : ∃ b, b = f.nullB v t := ⟨_, rfl⟩
  rw [← hnl] at st
  obtain ⟨wa, w5, hal, hst, _, m5, s5, r5, t55⟩ := zgs (cs := [.int .i64 0, .slice none 0 0, .bool nl, .slice none 0 0, .slice none 0 0]) hti (by decide) rfl rfl (by simp [Value.oneCell']) w4
  have e2b : ∀ (ρ : Env), (#[(2, T 11)] : Array (Nat × Operand)).map (fun p => (p.1, ev ρ p.2)) = #[(2, ρ 11)] := fun ρ => by simp
  refine zf fun K2 hK2 => zn fun τ => ?_
  have go : ∀ (σ' : Env), (∀ i, i ≠ 12 → σ' i = σ9 i) → σ' 12 = .pointer (some ⟨w4.heap.size, 0, none⟩) → K2 σ' w5 := by
   intro σ' hag h12
   refine hK2 _ _ ?_
   clear hK2 K2
   have k1 : σ' 1 = .int .i64 v := (hag 1 (by decide)).trans st.h1
   have k3 : σ' 3 = .pointer (some ⟨bF, 0, none⟩) := (hag 3 (by decide)).trans st.h3
   have k4 : σ' 4 = .pointer (some ⟨bT, 0, none⟩) := (hag 4 (by decide)).trans st.h4
   have k5 : σ' 5 = .pointer (some ⟨bR, 0, none⟩) := (hag 5 (by decide)).trans st.h5
   obtain ⟨fs', htf⟩ := S.fld.out
   obtain ⟨wb, w6, hal, hst, _, m6, s6, r6, th6⟩ := zgs (cs := cf) htf.1 (by decide) rfl hf.len hf.ones w5
   refine zf fun K2 hK2 => zn fun τ => ?_
   simp +decide only [bK, bE, Nat.reduceBeqDiff, BEq.rfl, Nat.reduceAdd, k3, zmd S (zh m5 r1) hf.len, hal, hst]
   refine hK2 _ _ (zd fun σ10 hσ => ?_)
   have c1 := hσ 1
   have c3 := hσ 3
   have c4 := hσ 4
   have c5 := hσ 5
   have c12 := hσ 12
   have c13 := hσ 13
   simp +decide only [bE, Nat.reduceBeqDiff, BEq.rfl, Nat.reduceAdd, k1, k3, k4, k5, h12] at c1 c3 c4 c5 c12 c13
   clear hσ hK2 K2 hal hst k1 k3 k4 k5 h12 hag
   obtain ⟨b12, hb12⟩ : ∃ b, b = w4.heap.size := ⟨_, rfl⟩
   obtain ⟨b13, hb13⟩ : ∃ b, b = w5.heap.size := ⟨_, rfl⟩
   rw [← hb12] at c12 r5 t55
   rw [← hb13] at c13 r6 th6
   have l13 : b13 < w6.heap.size := by omega
   have th6 : w6.there b13 0 8 := th6
   have m46' : Mod w4 w6 zw := m5.trans' m6
   have cF6' : w6.cell? ⟨bF, 6, none⟩ = some (.int .i64 f.of) := by rw [m46'.cell _ _ (by omega) fun h => h]; exact cF6
   have th : ∀ {w' : World} {o : Nat}, Mod w6 w' (blk b13) → o < 8 → w'.there b13 o 1 := fun {w' o} hm ho => hm.there l13 fun j hj => by
    have := th6 (o + j) (by omega)
    rwa [Nat.zero_add] at this
   have st6 := B.int.run_store1 (P := P) (w := w6) (b := b13) (o := 0) (v := .int .i64 f.of) rfl (th (.refl _ _) (by decide))
   obtain ⟨w7, hw7⟩ : ∃ w7, w7 = w6.setCell ⟨b13, 0, none⟩ (.int .i64 f.of) := ⟨_, rfl⟩
   have m7 : Mod w6 w7 (blk b13) := by rw [hw7]; exact Mod.setCell fun _ => rfl
   have r7 := zfm (i := 0) (v := .int .i64 f.of) r6 (by rw [hf.len]; decide)
   rw [← hw7] at r7 st6
   clear hw7
   have st7 := B.int.run_store1 (P := P) (w := w7) (b := b13) (o := 3) (v := .int .i64 (-1)) rfl (th m7 (by decide))
   obtain ⟨w8, hw8⟩ : ∃ w8, w8 = w7.setCell ⟨b13, 3, none⟩ (.int .i64 (-1)) := ⟨_, rfl⟩
   have m8 : Mod w7 w8 (blk b13) := by rw [hw8]; exact Mod.setCell fun _ => rfl
   have r8 := zfm (i := 3) (v := .int .i64 (-1)) r7 (by rw [List.length_set, hf.len]; decide)
   rw [← hw8] at r8 st7
   clear hw8
   have st8 := B.int.run_store1 (P := P) (w := w8) (b := b13) (o := 4) (v := .int .i64 (-1)) rfl (th (m7.trans' m8) (by decide))
   obtain ⟨w9, hw9⟩ : ∃ w9, w9 = w8.setCell ⟨b13, 4, none⟩ (.int .i64 (-1)) := ⟨_, rfl⟩
   have m9 : Mod w8 w9 (blk b13) := by rw [hw9]; exact Mod.setCell fun _ => rfl
   have r9 := zfm (i := 4) (v := .int .i64 (-1)) r8 (by rw [List.length_set, List.length_set, hf.len]; decide)
   rw [← hw9] at r9 st8
   clear hw9
   have m69 := (m7.trans' m8).trans' m9
   have m59 : Mod w5 w9 zw := m6.fresh m69 fun k o h => by have : k = b13 := h; omega
   have m49 : Mod w4 w9 zw := m5.trans' m59
   have hF1 : RepF w f.one (((cf.set 0 (.int .i64 f.of)).set 3 (.int .i64 (-1))).set 4 (.int .i64 (-1))) := by
    rw [hcf]
    exact RepF.mk' (f := f.one) hfv
   refine zf fun K2 hK2 => zn fun τ => ?_
   simp +decide only [bK, bE, Nat.reduceBeqDiff, BEq.rfl, Nat.reduceAdd, Nat.add_zero, Nat.zero_add, c3, c13, S.f0.run, S.f3.run, S.f4.run, S.f6.run, B.int.run_load1 rfl, cF6', st6, st7, st8]
   refine hK2 _ _ (zd fun σ11 hσ => ?_)
   have d1 := hσ 1
   have d4 := hσ 4
   have d5 := hσ 5
   have d12 := hσ 12
   have d13 := hσ 13
   simp +decide only [bE, Nat.reduceBeqDiff, Nat.reduceAdd, c1, c4, c5, c12, c13] at d1 d4 d5 d12 d13
   clear hσ hK2 K2 c1 c3 c4 c5 c12 c13
   have cT3' : w9.cell? ⟨bT, 3, none⟩ = some vl := by rw [m49.cell _ _ (by omega) fun h => h]; exact cT3
   obtain ⟨l, hl⟩ : ∃ l, l = zev t.l := ⟨_, rfl⟩
   have hll : l.length ≤ 32767 := by rw [hl]; simp [zev, most]; omega
   refine zf fun K2 hK2 => zf fun K3 hK3 => zn fun τ => ?_
   simp +decide only [bK, bE, BEq.rfl, Nat.reduceAdd, Nat.zero_add, d4, S.tr.h3.run, S.tr.lt.run_load1 rfl, cT3']
   rw [zbb hW.things.has]
   simp +decide only [bK, bE, BEq.rfl]
   refine (zqv S hW.things t2).mono ?_
   rintro vL _ ⟨rfl, hvL⟩
   rw [← hl] at hvL
   simp +decide only [bK, hvL.run_len S]
   refine hK3 _ _ (zd fun σ12 hσ => ?_)
   have e1 := hσ 1
   have e5 := hσ 5
   have e12 := hσ 12
   have e13 := hσ 13
   have e14 := hσ 14
   have e15 := hσ 15
   have e16 := hσ 16
   simp +decide only [bE, Nat.reduceBeqDiff, BEq.rfl, Nat.reduceAdd, d1, d5, d12, d13] at e1 e5 e12 e13 e14 e15 e16
   clear hσ hK3 K3 d1 d4 d5 d12 d13
   have s9 := m59.size
   have s96 := m69.size
   have hmS := mS.size
   refine zgv (i := 16) (l := 15) (c := 17) (k := 1) hlo (L := l.length) (by omega) (FLs w9 wS v bR b12 b13 nl vL l.length (l.map (fitF v f.one))) (fun j σ w h => ⟨h.h16, h.h15, h.le⟩) (fun j σ w b h => ?_) ?_ (fun σ' w' h => hK2 _ _ ?_) (fun j σ' w' hj h => ?_)
   ·exact ⟨by rw [zq (by decide)]; exact h.h1, by rw [zq (by decide)]; exact h.h5, by rw [zq (by decide)]; exact h.h12, by rw [zq (by decide)]; exact h.h13, by rw [zq (by decide)]; exact h.h14, by rw [zq (by decide)]; exact h.h15, by rw [zq (by decide)]; exact h.h16, h.le, h.mod, h.ex⟩
   ·exact ⟨e1, e5, e12, e13, e14, e15, e16, Nat.zero_le _, .refl _ _, .slice none 0 0, [], zh m59 r5, m59.there (by omega) t55, .inl ⟨rfl, rfl, rfl⟩, by simp only [List.take_zero, zcu]⟩
   ·obtain ⟨_, z5, z12, _, _, _, _, _, zm, u, css, zr, zt, zo, zrep⟩ := h
    rw [show l.length = (l.map (fitF v f.one)).length by simp, List.take_length] at zrep
    have zs := zm.size
    have zm4 : Mod w4 w' zw := m49.fresh zm fun k o e => by have : k = b12 := e; omega
    have hnew : ∀ k, w9.heap.size ≤ k → k < w'.heap.size → GN (GS wS) w4.heap.size w'.heap.size k := fun k h1 h2 => .inr ⟨by omega, h2⟩
    have hrep : RepT w' (GN (GS wS) w4.heap.size w'.heap.size) (.mk 0 [] nl (l.map (fitF v f.one)) []) [.int .i64 0, .slice none 0 0, .bool nl, u, .slice none 0 0] := by
     refine ⟨.slice none 0 0, u, .slice none 0 0, rfl, .inl ⟨rfl, none, 0, rfl⟩, ?_, .inl ⟨rfl, rfl⟩⟩
     rcases zo with ⟨e1, e2, _⟩ | ⟨b, c, e1, g1, g2, g3, _, g5, _⟩
     ·exact .inl ⟨e1, by rw [List.length_eq_zero_iff.1 e2]; rfl⟩
     ·exact .inr ⟨b, c, css, by rw [List.length_map]; exact e1, by rw [List.length_map]; exact g3, fun _ => hnew b g1 g2, zcu.mono (fun k hk => hk.elim .inl fun hk => hnew k hk.1 hk.2.1) _ zrep, g5⟩
    obtain ⟨w10, hst, m10, s10, r10, _⟩ := putR zm4 rfl hrep.one
    refine zf fun K3 hK3 => zn fun τ => ?_
    simp +decide only [bK, bE, Nat.reduceBeqDiff, BEq.rfl, Nat.reduceAdd, z5, z12, zbo S.tr zr rfl, hst]
    refine hK3 _ _ (zd fun σ14 hσ => zbl ?_)
    have q := hσ 5
    simp +decide only [bE, Nat.reduceBeqDiff, Nat.reduceAdd, z5] at q
    simp only [inB]
    have hF : fitF v f t = .mk 0 [] nl (l.map (fitF v f.one)) [] := by
     rw [zvo e11, ← hnl, ← hl]
     congr 1
     refine List.map_congr_left fun x _ => ?_
     rw [zhg (show f.one.kind ≠ 11 from hof)]
     have : f.one.nullB v x = false := by unfold Fld.nullB; simp [Fld.one, Fld.null]
     rw [this]; rfl
    rw [hF]
    refine give q zm4 m10 r10 (RepT.mod m10 (fun k hk => ⟨?_, fun o e => ?_, hk.imp id fun h => ⟨h.1, by omega⟩⟩) _ hrep)
    ·rcases hk with h | h
     ·have h : k < wS.heap.size := h
      omega
     ·omega
    ·have e : k = bR := e
     rcases hk with h | h
     ·have h : k < wS.heap.size := h
      omega
     ·omega
   ·exact W_fe B S hL hone (mS4.trans' m49) (by omega) (by omega) (by omega) (by omega) r9 (m04.trans' m49) (by omega) hF1 hvL hll hj h fun σ' w' h1 h2 => ⟨h1, h2⟩
  cases nl with
  | true =>
   simp +decide only [bK, bE, Nat.reduceBeqDiff, BEq.rfl, Nat.reduceAdd, if_true, st.h6, zcf, zrl, Bool.not_false, zcw, e2b, buildB S.tr, hal, hst]
   refine zd (K := fun σ' w' => K2 σ' w') fun σ' hσ => go σ' (fun i hi => ?_) ?_
   ·rw [hσ i]
    have e1 : (i + 100 == 112) = false := beq_eq_false_iff_ne.2 (by omega)
    simp +decide only [bE, Nat.reduceBeqDiff, e1]
   ·have := hσ 12
    simp +decide only [bE, BEq.rfl, Nat.reduceAdd] at this
    exact this
  | false =>
   simp +decide only [bK, bE, Nat.reduceBeqDiff, decide_false, BEq.rfl, Nat.reduceAdd, Nat.zero_add, if_false, st.h3, st.h6, zcf, zbw, Bool.not_true, S.f4.run, B.int.run_load1 rfl, cF4, h4n, zcw, e2b, buildB S.tr, hal, hst]
   refine zd (K := fun σ' w' => K2 σ' w') fun σ' hσ => go σ' (fun i hi => ?_) ?_
   ·rw [hσ i]
    have e1 : (i + 100 == 112) = false := beq_eq_false_iff_ne.2 (by omega)
    simp +decide only [bE, Nat.reduceBeqDiff, e1]
   ·have := hσ 12
    simp +decide only [bE, BEq.rfl, Nat.reduceAdd] at this
    exact this
 rw [if_neg e11]
 refine zbv ?_
 simp only [inB]
 refine hK _ _ ?_
 clear hK K
 have hxs : tagV w4 (GN (GS wS) w4.heap.size w4.heap.size) vs t.s := t1.tagS mS4 fun k h => GS_up h
 have hrep := RepT.leafS (w := w4) (n := t.n) (nl := false) hxs
 obtain ⟨w5, hst, m5, s5, r5, _⟩ := putR (.refl w4 zw) rfl hrep.one
 have e01 : ∀ ρ : Env, (#[(0, T 1), (1, T 3)] : Array (Nat × Operand)).map (fun p => (p.1, ev ρ p.2)) = #[(0, ρ 1), (1, ρ 3)] := fun ρ => by simp
 refine zf fun K2 hK2 => zn fun τ => ?_
 simp +decide only [bK, bE, Nat.reduceBeqDiff, BEq.rfl, Nat.reduceAdd, Nat.add_zero, Nat.zero_add, st.h4, st.h5, S.tr.h0.run, S.tr.h1.run, B.int64.run_load1 rfl, B.Lu8.run_load1 rfl, cT0, cT1, e01, build01 S.tr w4 t.n t1.one, hst]
 refine hK2 _ _ (zd fun σ8 hσ => zbl ?_)
 have q := hσ 5
 simp +decide only [bE, Nat.reduceBeqDiff, Nat.reduceAdd, st.h5] at q
 have hF : fitF v f t = .mk t.n t.s false [] [] := by rw [zhg (by omega), fitV, if_neg e8, if_neg e10]
 rw [hF]
 exact give q (.refl w4 zw) m5 r5 (RepT.mod m5 (fun k hk => ⟨hk.elim (fun h => by have h : k < wS.heap.size := h; omega) fun h => h.2, fun o e => by
   have e : k = bR := e
   rcases hk with h | h
   ·have h : k < wS.heap.size := h
    have := mS.size
    omega
   ·omega, hk.imp id fun h => ⟨h.1, by omega⟩⟩) _ hrep)
end
structure FT1 (w3 : World) (wS : World) (fv : Value) (v : Int) (bT bR b5 : Nat) (n : Nat) (ts : List Tr) (j : Nat) (σ : Env) (w : World) : Prop where
 h0 : σ 0 = fv
 h1 : σ 1 = .int .i64 v
 h3 : σ 3 = .pointer (some ⟨bT, 0, none⟩)
 h4 : σ 4 = .pointer (some ⟨bR, 0, none⟩)
 h5 : σ 5 = .pointer (some ⟨b5, 0, none⟩)
 h6 : σ 6 = fv
 h7 : σ 7 = .int .i64 n
 h8 : σ 8 = .int .i64 j
 le : j ≤ n
 mod : Mod w3 w (blk b5)
 ex : ∃ u css, w.rangeAt b5 0 [.int .i64 0, .slice none 0 0, .bool false, u, .slice none 0 0] ∧ w.there b5 0 5 ∧ Own w w3.heap.size 5 u j css.flatten ∧ zcu w (GX (GS wS) w3.heap.size w u) (ts.take j) css
structure FT2 (w3 : World) (wS : World) (bR b5 : Nat) (u1 r : Value) (us : List (Nat × List UInt8)) (j : Nat) (σ : Env) (w : World) : Prop where
 h4 : σ 4 = .pointer (some ⟨bR, 0, none⟩)
 h5 : σ 5 = .pointer (some ⟨b5, 0, none⟩)
 h12 : σ 12 = r
 h13 : σ 13 = .int .i64 us.length
 h14 : σ 14 = .int .i64 j
 le : j ≤ us.length
 mod : Mod w3 w (blk b5)
 ex : ∃ u cs, w.rangeAt b5 0 [.int .i64 0, .slice none 0 0, .bool false, u1, u] ∧ w.there b5 0 5 ∧ Own w w3.heap.size 2 u j cs ∧ UsG w (GX (GS wS) w3.heap.size w u) (us.take j) cs
section
variable {P : Program} {N : Nums} {M : zaz} {L : zen}
def lFt (N : Nums) (M : zaz) (L : zen) : List ROp := [
 ⟨some 0, .fieldAddr N.zb (V 5) 3, 0, none, []⟩, ⟨some 1, .load N.zj (T 0), 0, none, [0]⟩, ⟨some 2, .load M.zg (V 10), 0, none, []⟩, ⟨some 3, .move (V 1), 0, none, []⟩, ⟨some 4, .load N.zb (V 3), 0, none, []⟩, ⟨some 5, .move (V 11), 0, none, []⟩,
 ⟨some 6, .call ⟨.value (.func M.zes), #[T 4, T 5], #[N.zb, N.ze]⟩, N.zb, none, [4, 5]⟩,
 ⟨some 7, .call ⟨.value (.func L.zfo), #[T 2, T 3, T 6], #[M.zg, N.ze, N.zb]⟩, N.zb, none, [2, 3, 6, 6]⟩, ⟨some 8, .buildSlice N.zj 1 #[(0, T 7)], 0, none, [7]⟩,
 ⟨some 9, .call ⟨.builtin .append, #[T 1, T 8], #[N.zj, N.zj]⟩, N.zj, none, [1, 8, 7]⟩, ⟨some 10, .fieldAddr N.zb (V 5) 3, 0, none, [0, 1, 2, 3, 4, 5, 6, 7, 8, 9]⟩,
 ⟨none, .store N.zj (T 10) (T 9), 0, none, [10, 9, 9, 0, 1, 2, 3, 4, 5, 6, 7, 8, 9]⟩]
def cFt (N : Nums) (M : zaz) (L : zen) : C := .seq (.ops [⟨some 0, .move (V 8), 0, none, []⟩, ⟨some 1, .indexAddr M.zab (V 6) (V 8), 0, none, []⟩, ⟨some 2, .load M.zg (T 1), 0, none, []⟩, ⟨some 110, .alloc M.zg, 0, none, []⟩, ⟨some 111, .assign (T 0), 0, none, []⟩, ⟨none, .store M.zg (V 10) (T 2), 0, none, []⟩]) (.draw (lFt N M L))
theorem W_ft (B : Base P N) (S : SpT P N M) (hW : SW P N M) (hL : SMk P N M L) {loc : List Nat} {N' : Nat} {Q : Exit → Env → World → Prop} {σ : Env} {wS wF w3 w : World} {fv : Value} {v : Int} {bT bR b5 j : Nat} {fs : List Fld} {t : Tr} {ct : List Value}
  (hfit : ∀ f ∈ fs, zxq P L v f) (mS : Mod wS w3 zw) (mF : Mod wF w3 zw) (hb5 : b5 < w3.heap.size) (hbS : wS.heap.size ≤ b5) (hbF : wF.heap.size ≤ b5) (hbT : bT < w3.heap.size) (hne : bT ≠ b5) (rT : w3.rangeAt bT 0 ct) (hf : zgd wF fv fs) (ht : RepA wS t ct) (hfl : fs.length < 1000) (hj : j < fs.length)
  (h : FT1 w3 wS fv v bT bR b5 fs.length (zjg v fs 0 t) j σ w)
  (hQ : ∀ σ' w', σ' 8 = .int .i64 j → FT1 w3 wS fv v bT bR b5 fs.length (zjg v fs 0 t) (j + 1) (upd σ' 8 (.int .i64 ((j + 1 : Nat) : Int))) w' → Q .normal σ' w') : W P loc N' (cFt N M L) Q σ w := by
 obtain ⟨h0, h1, h3, h4, h5, h6, h7, h8, _, mod, u, css, hr, htt, ho, hrep⟩ := h
 have hsz := mod.size
 have hSz := mS.size
 have mSw : Mod wS w zw := mS.fresh mod fun k o e => by have : k = b5 := e; omega
 have mFw : Mod wF w zw := mF.fresh mod fun k o e => by have : k = b5 := e; omega
 obtain ⟨bf, of, cc, cf, wa, w5, hfv, hcf, hix, hld, hal, hst, m5, s5, r5⟩ := zxn S (hf.stay mFw) hj
 unfold cFt
 refine zf fun K hK => zn fun τ => ?_
 simp +decide only [bK, bE, Nat.reduceBeqDiff, BEq.rfl, Nat.reduceAdd, h6, h8, hix, hld, hal, hst]
 refine hK _ _ (zd fun σ5 hσ => ?_)
 have g0 := hσ 0
 have g1 := hσ 1
 have g3 := hσ 3
 have g4 := hσ 4
 have g5 := hσ 5
 have g6 := hσ 6
 have g7 := hσ 7
 have g8 := hσ 8
 have g10 := hσ 10
 have g11 := hσ 11
 simp +decide only [bE, Nat.reduceBeqDiff, BEq.rfl, Nat.reduceAdd, Nat.zero_add, h0, h1, h3, h4, h5, h6, h7, h8] at g0 g1 g3 g4 g5 g6 g7 g8 g10 g11
 clear hσ hK K hst hld hal
 have md : Mod w w5.drew zw := m5.trans' (Mod.drew _ _)
 have hv : ∀ k, ¬ zaj u k → w3.heap.size ≤ k ∧ k < w.heap.size := fun k hk => ho.blk hk
 have keep : ∀ {w' : World} {k o : Nat} {cs : List Value}, Mod w w' (fun k _ => ¬ zaj u k) → k < w3.heap.size → w.rangeAt k o cs → w'.rangeAt k o cs := fun m hk hc => m.rangeAt (by omega) (fun _ _ _ hn => by have := (hv _ hn).1; omega) hc
 have rcT : w.rangeAt bT 0 ct := mod.rangeAt hbT (fun _ _ _ e => by have : bT = b5 := e; omega) rT
 refine zky B.mixed [true, true, true, true, true, true, false, false, false, false, false, false] (by kernel_rfl) (fun w' => Mod w w' (fun k _ => ¬ zaj u k) ∧ w'.rangeAt w.heap.size 0 cf) ⟨md.mono fun _ _ _ h => h.elim, zh (Mod.drew _ _) r5⟩ fun τ => ?_
 have e5 : zia σ5 τ 105 = .pointer (some ⟨b5, 0, none⟩) := by rw [← g5]; exact envOf_var σ5 τ 5
 refine zp (.pointer (some ⟨b5, 3, none⟩)) (fun w' _ => zap (by simp +decide only [ev_tmp, e5, S.tr.h3.run])) rfl ?_
 refine zp u (fun w' hw => zap (by
  have : w'.cell? ⟨b5, 3, none⟩ = some u := keep hw.1 hb5 hr 3 _ rfl
  simp +decide only [bE, BEq.rfl, ev_tmp, S.tr.lt.run_load1 rfl, this, ldc_some])) rfl ?_
 refine zp (.agg cf.toArray) (fun w' hw => zap (by
  simp +decide only [bE, Nat.reduceBeqDiff, Nat.reduceAdd, ev_tmp, g10]
  exact zmd S hw.2 hcf.len)) rfl ?_
 refine zp (.int .i64 v) (fun w' _ => by
  rw [zby, ev_tmp]
  simp +decide only [bE, Nat.reduceBeqDiff, Nat.reduceAdd, g1]) rfl ?_
 refine zp (.agg ct.toArray) (fun w' hw => zap (by
  simp +decide only [bE, Nat.reduceBeqDiff, Nat.reduceAdd, ev_tmp, g3]
  exact zbo S.tr (keep hw.1 hbT rcT) ht.len)) rfl ?_
 refine zp (.int .i64 j) (fun w' _ => by
  rw [zby, ev_tmp]
  simp +decide only [bE, Nat.reduceBeqDiff, Nat.reduceAdd, g11]) rfl ?_
 simp only [zeb, lFt, zer, List.zip_cons_cons, List.zip_nil_right, List.zipWith_cons_cons, List.zipWith_nil_right, List.filter, Bool.not_true, Bool.not_false, List.map, zgq]
 rw [zah hW.at_.has]
 simp +decide only [bK, bE, Nat.reduceBeqDiff, BEq.rfl, Nat.reduceAdd]
 refine (zub B S hW.at_ (mSw.trans' md) ht j).mono ?_
 rintro _ wx ⟨cx, rfl, hx, mx⟩
 have rx : wx.rangeAt w.heap.size 0 cf := zh mx (zh (Mod.drew _ _) r5)
 have mwx : Mod w wx zw := md.trans' mx
 refine ⟨⟨mwx.mono fun _ _ _ h => h.elim, rx⟩, ?_⟩
 rw [zdy hL.fitted.has]
 simp +decide only [bK, bE, Nat.reduceBeqDiff, BEq.rfl]
 refine (hfit fs[j] (List.getElem_mem hj) wS wx (atT t j) cf cx (mSw.trans' mwx) (RepF.stay mwx _ hcf) hx).mono ?_
 rintro _ w6 ⟨cs', rfl, hrep6, m6d⟩
 have m6 : Mod w w6 zw := mwx.trans' m6d
 have r6 : w6.rangeAt w.heap.size 0 cf := zh m6d rx
 refine ⟨⟨m6.mono fun _ _ _ h => h.elim, r6⟩, ?_⟩
 obtain ⟨w7, v', w8, w9, hbs, happ, hsto, m7, m8, m9, r9, t9, ho9, hrep9⟩ := app_tree (ty := N.zj) S.tr hb5 (fun k (hk : k < wS.heap.size) => by omega) mod m6 mwx.size hr htt ho hrep (by omega) hrep6
 have e9 : ∀ ρ : Env, (#[(0, T 7)] : Array (Nat × Operand)).map (fun p => (p.1, ev ρ p.2)) = #[(0, ρ 7)] := fun ρ => by simp
 have nb : ¬ ¬ zaj u w.heap.size := fun h => by have := (hv _ h).2; omega
 have r7 := zh m7 r6
 have s7 := m7.size
 have s6 := m6d.size
 have sx := mx.size
 have c8 : w8.rangeAt w.heap.size 0 cf := m8.rangeAt (by have : w5.drew.heap.size = w5.heap.size := rfl; omega) (fun _ _ _ => nb) r7
 have m08 : Mod w w8 (fun k _ => ¬ zaj u k) := ((m6.trans' m7).mono fun _ _ _ h => h.elim).trans' m8
 simp +decide only [bK, bE, BEq.rfl, e9, hbs]
 refine ⟨⟨(m6.trans' m7).mono fun _ _ _ h => h.elim, r7⟩, ?_⟩
 simp +decide only [bK, happ]
 refine ⟨⟨m08, c8⟩, ?_⟩
 simp +decide only [bK, Nat.zero_add, g5, S.tr.h3.run]
 refine ⟨⟨m08, c8⟩, ?_⟩
 simp +decide only [bK, hsto]
 refine zd (K := fun σ' w' => Q .normal σ' w') fun σ9 hσ => hQ _ _ ?_ ?_
 ·have := hσ 8
  simp +decide only [bE, Nat.reduceBeqDiff, Nat.reduceAdd, g8] at this
  exact this
 ·have p0 := hσ 0
  have p1 := hσ 1
  have p3 := hσ 3
  have p4 := hσ 4
  have p5 := hσ 5
  have p6 := hσ 6
  have p7 := hσ 7
  simp +decide only [bE, Nat.reduceBeqDiff, Nat.reduceAdd, Nat.zero_add, g0, g1, g3, g4, g5, g6, g7] at p0 p1 p3 p4 p5 p6 p7
  refine ⟨by rw [zq (by decide)]; exact p0, by rw [zq (by decide)]; exact p1, by rw [zq (by decide)]; exact p3, by rw [zq (by decide)]; exact p4, by rw [zq (by decide)]; exact p5, by rw [zq (by decide)]; exact p6, by rw [zq (by decide)]; exact p7, upd_same _ _ _, hj, m9, v', css ++ [cs'], r9, t9, ho9, ?_⟩
  have := zqa (v := v) fs 0 j t fs[j] (List.getElem?_eq_getElem hj)
  rw [Nat.zero_add] at this
  rw [List.take_add_one, this]
  exact hrep9
def lFu (N : Nums) (M : zaz) : List ROp := [
 ⟨some 0, .fieldAddr N.zb (V 5) 4, 0, none, []⟩, ⟨some 1, .load N.zi (T 0), 0, none, [0]⟩, ⟨some 2, .fieldAddr N.zy (V 16) 0, 0, none, []⟩, ⟨some 3, .load N.zc (T 2), 0, none, [2]⟩, ⟨some 4, .fieldAddr N.zy (V 16) 1, 0, none, []⟩, ⟨some 5, .load N.za (T 4), 0, none, [4]⟩,
 ⟨some 6, .call ⟨.value (.func M.zdi), #[T 5], #[N.za]⟩, N.za, none, [5]⟩, ⟨some 7, .build N.zy #[(0, T 3), (1, T 6)], 0, none, [3, 6]⟩, ⟨some 8, .buildSlice N.zi 1 #[(0, T 7)], 0, none, [7]⟩,
 ⟨some 9, .call ⟨.builtin .append, #[T 1, T 8], #[N.zi, N.zi]⟩, N.zi, none, [1, 8, 6]⟩, ⟨some 10, .fieldAddr N.zb (V 5) 4, 0, none, [0, 1, 2, 3, 4, 5, 6, 7, 8, 9]⟩,
 ⟨none, .store N.zi (T 10) (T 9), 0, none, [10, 9, 9, 0, 1, 2, 3, 4, 5, 6, 7, 8, 9]⟩]
def cFu (N : Nums) (M : zaz) : C := .seq (.ops [⟨some 0, .indexAddr N.zi (V 12) (V 14), 0, none, []⟩, ⟨some 1, .load N.zy (T 0), 0, none, []⟩, ⟨some 116, .alloc N.zy, 0, none, []⟩, ⟨none, .store N.zy (V 16) (T 1), 0, none, []⟩]) (.draw (lFu N M))
theorem W_fu (B : Base P N) (S : SpT P N M) (hW : SW P N M) {loc : List Nat} {N' : Nat} {Q : Exit → Env → World → Prop} {σ : Env} {wS w3 w : World} {bR b5 j br cr : Nat} {u1 : Value} {U : List (Nat × List UInt8)} {ucs : List Value}
  (mS : Mod wS w3 zw) (hb5 : b5 < w3.heap.size) (hbS : wS.heap.size ≤ b5) (hbr : br < w3.heap.size) (hne : br ≠ b5) (rr : w3.rangeAt br 0 ucs) (hU : UsA wS U ucs) (hUl : U.length ≤ 32767) (hj : j < U.length)
  (h : FT2 w3 wS bR b5 u1 (.slice (some ⟨br, 0, none⟩) U.length cr) (U.map fun x => (x.1, zbq x.2)) j σ w)
  (hQ : ∀ σ' w', σ' 14 = .int .i64 j → FT2 w3 wS bR b5 u1 (.slice (some ⟨br, 0, none⟩) U.length cr) (U.map fun x => (x.1, zbq x.2)) (j + 1) (upd σ' 14 (.int .i64 ((j + 1 : Nat) : Int))) w' → Q .normal σ' w') : W P loc N' (cFu N M) Q σ w := by
 obtain ⟨h4, h5, h12, h13, h14, _, mod, u, cs, hr, htt, ho, hrep⟩ := h
 obtain ⟨fsT, hT⟩ := S.tr.tu
 have hsz := mod.size
 have hSz := mS.size
 have mSw : Mod wS w zw := mS.fresh mod fun k o e => by have : k = b5 := e; omega
 obtain ⟨tv, hk1, hk2, htv⟩ := hU.get (List.getElem?_eq_getElem hj)
 have rw' : w.rangeAt br 0 ucs := mod.rangeAt hbr (fun _ _ _ e => by have : br = b5 := e; omega) rr
 have hxg : w.rangeAt br (j * 2) [.int .u32 (U[j]).1, tv] := by
  have a := rw' _ _ hk1
  have b := rw' _ _ hk2
  rw [Nat.zero_add] at a b
  intro i x hi
  match i, hi with
  | 0, hi => simp at hi; subst hi; exact a
  | 1, hi => simp at hi; subst hi; exact b
  | i + 2, hi => simp at hi
 have hld := hT.run_load (w := w) (b := br) (o := j * 2) hxg rfl (fun h => by cases h)
 have hlv : ldv (.struct fsT) [.int .u32 (U[j]).1, tv] = .agg [.int .u32 (U[j]).1, tv].toArray := rfl
 rw [hlv] at hld
 have hone2 : ∀ c ∈ [Value.int .u32 (U[j]).1, tv], c.oneCell' = true := fun c hc => by
  simp at hc; rcases hc with rfl | rfl
  ·rfl
  ·exact htv.one
 have hix := fun {w : World} => zbf (P := P) (w := w) S.tr.lg hT (bl := br) (o := 0) (n := U.length) (c := cr) (i := j) (k := .i64) hj
 obtain ⟨wa, w5, hal, hst, _, m5, s5, r5, _⟩ := zgs (cs := [.int .u32 (U[j]).1, tv]) hT (by decide) rfl rfl hone2 w
 unfold cFu
 refine zf fun K hK => zn fun τ => ?_
 simp +decide only [bK, bE, Nat.reduceBeqDiff, BEq.rfl, Nat.reduceAdd, Nat.zero_add, h12, h14, hix, hld, hal, hst]
 refine hK _ _ (zd fun σ5 hσ => ?_)
 have g4 := hσ 4
 have g5 := hσ 5
 have g12 := hσ 12
 have g13 := hσ 13
 have g14 := hσ 14
 have g16 := hσ 16
 simp +decide only [bE, Nat.reduceBeqDiff, BEq.rfl, Nat.reduceAdd, h4, h5, h12, h13, h14] at g4 g5 g12 g13 g14 g16
 clear hσ hK K hst hld hal
 have md : Mod w w5.drew zw := m5.trans' (Mod.drew _ _)
 have hv : ∀ k, ¬ zaj u k → w3.heap.size ≤ k ∧ k < w.heap.size := fun k hk => ho.blk hk
 have keep : ∀ {w' : World} {k o : Nat} {cs : List Value}, Mod w w' (fun k _ => ¬ zaj u k) → k < w3.heap.size → w.rangeAt k o cs → w'.rangeAt k o cs := fun m hk hc => m.rangeAt (by omega) (fun _ _ _ hn => by have := (hv _ hn).1; omega) hc
 refine zky B.mixed [true, true, true, true, true, true, false, false, false, false, false, false] (by kernel_rfl) (fun w' => Mod w w' (fun k _ => ¬ zaj u k) ∧ w'.rangeAt w.heap.size 0 [.int .u32 (U[j]).1, tv]) ⟨md.mono fun _ _ _ h => h.elim, zh (Mod.drew _ _) r5⟩ fun τ => ?_
 have e5 : zia σ5 τ 105 = .pointer (some ⟨b5, 0, none⟩) := by rw [← g5]; exact envOf_var σ5 τ 5
 refine zp (.pointer (some ⟨b5, 4, none⟩)) (fun w' _ => zap (by simp +decide only [ev_tmp, e5, S.tr.h4.run])) rfl ?_
 refine zp u (fun w' hw => zap (by
  have : w'.cell? ⟨b5, 4, none⟩ = some u := keep hw.1 hb5 hr 4 _ rfl
  simp +decide only [bE, BEq.rfl, ev_tmp, S.tr.lg.run_load1 rfl, this, ldc_some])) rfl ?_
 refine zp (.pointer (some ⟨w.heap.size, 0, none⟩)) (fun w' hw => zap (by simp +decide only [bE, Nat.reduceBeqDiff, Nat.reduceAdd, Nat.zero_add, ev_tmp, g16, S.tr.g0.run])) rfl ?_
 refine zp (.int .u32 (U[j]).1) (fun w' hw => zap (by
  have : w'.cell? ⟨w.heap.size, 0, none⟩ = some (.int .u32 (U[j]).1) := hw.2 0 _ rfl
  simp +decide only [bE, BEq.rfl, ev_tmp, B.uint32.run_load1 rfl, this, ldc_some])) rfl ?_
 refine zp (.pointer (some ⟨w.heap.size, 1, none⟩)) (fun w' hw => zap (by simp +decide only [bE, Nat.reduceBeqDiff, Nat.reduceAdd, Nat.zero_add, ev_tmp, g16, S.tr.g1.run])) rfl ?_
 refine zp tv (fun w' hw => zap (by
  have : w'.cell? ⟨w.heap.size, 1, none⟩ = some tv := hw.2 1 _ rfl
  simp +decide only [bE, BEq.rfl, ev_tmp, B.Lu8.run_load1 rfl, this, ldc_some])) rfl ?_
 simp only [zeb, lFu, zer, List.zip_cons_cons, List.zip_nil_right, List.zipWith_cons_cons, List.zipWith_nil_right, List.filter, Bool.not_true, Bool.not_false, List.map, zgq]
 rw [zbb hW.whole.has]
 simp +decide only [bK, bE, Nat.reduceBeqDiff, BEq.rfl, Nat.reduceAdd]
 refine (zmg B hW.whole htv).mono ?_
 rintro tv2 w6 ⟨hw6, hx⟩
 have m6 : Mod w w6 zw := by rw [← hw6]; exact md
 have r6 : w6.rangeAt w.heap.size 0 [.int .u32 (U[j]).1, tv] := by rw [← hw6]; exact zh (Mod.drew _ _) r5
 have s65 : w6.heap.size = w5.heap.size := by rw [← hw6]; rfl
 clear hw6
 refine ⟨⟨m6.mono fun _ _ _ h => h.elim, r6⟩, ?_⟩
 have e7 : ∀ ρ : Env, (#[(0, T 3), (1, T 6)] : Array (Nat × Operand)).map (fun p => (p.1, ev ρ p.2)) = #[(0, ρ 3), (1, ρ 6)] := fun ρ => by simp
 have hbu := tagBuild S.tr w6 (U[j]).1 hx.one
 simp +decide only [bK, bE, Nat.reduceBeqDiff, BEq.rfl, e7, hbu]
 refine ⟨⟨m6.mono fun _ _ _ h => h.elim, r6⟩, ?_⟩
 obtain ⟨w7, v', w8, w9, hbs, happ, hsto, m7, m8, m9, r9, t9, ho9, hrep9⟩ := app_tag (ty := N.zi) (k := (U[j]).1) (a := w6.heap.size) S.tr hb5 (fun k (hk : k < wS.heap.size) => by omega) mod m6 m6.size hr htt ho hrep (by omega) (hx.tagS (mSw.trans' m6) fun k h => .inl h)
 have e9 : ∀ ρ : Env, (#[(0, T 7)] : Array (Nat × Operand)).map (fun p => (p.1, ev ρ p.2)) = #[(0, ρ 7)] := fun ρ => by simp
 have nb : ¬ ¬ zaj u w.heap.size := fun h => by have := (hv _ h).2; omega
 have r7 := zh m7 r6
 have s7 := m7.size
 have c8 : w8.rangeAt w.heap.size 0 [.int .u32 (U[j]).1, tv] := m8.rangeAt (by omega) (fun _ _ _ => nb) r7
 have m08 : Mod w w8 (fun k _ => ¬ zaj u k) := ((m6.trans' m7).mono fun _ _ _ h => h.elim).trans' m8
 simp +decide only [bK, bE, BEq.rfl, e9, hbs]
 refine ⟨⟨(m6.trans' m7).mono fun _ _ _ h => h.elim, r7⟩, ?_⟩
 simp +decide only [bK, happ]
 refine ⟨⟨m08, c8⟩, ?_⟩
 simp +decide only [bK, Nat.zero_add, g5, S.tr.h4.run]
 refine ⟨⟨m08, c8⟩, ?_⟩
 simp +decide only [bK, hsto]
 refine zd (K := fun σ' w' => Q .normal σ' w') fun σ9 hσ => hQ _ _ ?_ ?_
 ·have := hσ 14
  simp +decide only [bE, Nat.reduceBeqDiff, Nat.reduceAdd, g14] at this
  exact this
 ·have p4 := hσ 4
  have p5 := hσ 5
  have p12 := hσ 12
  have p13 := hσ 13
  simp +decide only [bE, Nat.reduceBeqDiff, Nat.reduceAdd, g4, g5, g12, g13] at p4 p5 p12 p13
  refine ⟨by rw [zq (by decide)]; exact p4, by rw [zq (by decide)]; exact p5, by rw [zq (by decide)]; exact p12, by rw [zq (by decide)]; exact p13, upd_same _ _ _, by rw [List.length_map]; exact hj, m9, v', cs ++ [.int .u32 (U[j]).1, tv2], r9, t9, ho9, ?_⟩
  rw [List.take_add_one, List.getElem?_map, List.getElem?_eq_getElem hj]
  exact hrep9
end
mutual
def ofFB : Fld → Bool
 | .mk _ _ _ _ _ _ o sub => decide (o ≠ 11) && zxj sub
def zxj : List Fld → Bool
 | [] => true
 | f :: r => ofFB f && zxj r
end
section
variable {P : Program} {N : Nums} {M : zaz} {L : zen}
theorem sp_Fit (B : Base P N) (S : SpT P N M) (hW : SW P N M) (hL : SMk P N M L) {v : Int} {fs : List Fld} (hfl : fs.length < 1000) (htag : ∀ f ∈ fs, f.tag < 0) (hfit : ∀ f ∈ fs, zxq P L v f) : FitOk P L v fs := by
 intro wS w fv t ct mS hf ht
 obtain ⟨fsT, hti⟩ := S.tr.ti
 refine hL.fit.call rfl fun loc N' hlo => ?_
 unfold zsv
 obtain ⟨vs, vl, vu, hct, t1, t2, t3⟩ := ht.out
 refine zf fun K hK => zn fun τ => ?_
 simp +decide only [bK, bE, Nat.reduceAdd]
 obtain ⟨w1, hw1⟩ : ∃ w1, w1 = w.alloc (.cells (Value.cells (.agg ct.toArray)) N.zb) := ⟨_, rfl⟩
 have m1 : Mod w w1 zw := by rw [hw1]; exact Mod.alloc _ _ _
 have r1 : w1.rangeAt w.heap.size 0 ct := by rw [hw1]; exact zu w _ _ _
 have s1 : w1.heap.size = w.heap.size + 1 := by rw [hw1]; exact zae _ _
 rw [← hw1]
 clear hw1
 have hal := hti.run_alloc (w := w1) (.tuple #[])
 obtain ⟨w2, hw2⟩ : ∃ w2, w2 = w1.alloc (.cells (Value.cells (.agg zT.toArray)) N.zb) := ⟨_, rfl⟩
 have m2 : Mod w1 w2 zw := by rw [hw2]; exact Mod.alloc _ _ _
 have r2 : w2.rangeAt w1.heap.size 0 zT := by rw [hw2]; exact zu w1 _ _ _
 have t5 : w2.there w1.heap.size 0 5 := by rw [hw2]; exact zbe w1 zT.toArray N.zb
 have s2 : w2.heap.size = w1.heap.size + 1 := by rw [hw2]; exact zae _ _
 rw [← hw2] at hal
 simp +decide only [bK, hal]
 clear hal hw2
 refine hK _ _ (zd fun σ hσ => ?_)
 have f0 := hσ 0
 have f1 := hσ 1
 have f3 := hσ 3
 have f4 := hσ 4
 simp +decide only [bE, Nat.reduceBeqDiff, BEq.rfl, Nat.reduceAdd, Nat.zero_add, zlw, zgt] at f0 f1 f3 f4
 clear hσ hK K
 have r1 := zh m2 r1
 obtain ⟨wa, w3, hal, hst, _, m3, s3, r3, t3'⟩ := zgs (cs := zT) hti (by decide) rfl rfl (by decide) w2
 have e0 : ∀ ρ : Env, (#[] : Array (Nat × Operand)).map (fun p => (p.1, ev ρ p.2)) = #[] := fun ρ => by simp
 refine zf fun K hK => zn fun τ => ?_
 simp +decide only [bK, bE, Nat.reduceBeqDiff, BEq.rfl, Nat.reduceAdd, e0, build0 S.tr, hal, hst]
 refine hK _ _ (zd fun σ1 hσ => ?_)
 have g0 := hσ 0
 have g1 := hσ 1
 have g3 := hσ 3
 have g4 := hσ 4
 have g5 := hσ 5
 simp +decide only [bE, Nat.reduceBeqDiff, BEq.rfl, Nat.reduceAdd, Nat.zero_add, f0, f1, f3, f4] at g0 g1 g3 g4 g5
 clear hσ hK K f0 f1 f3 f4 hal hst
 have m02 := m1.trans' m2
 have m03 := m02.trans' m3
 obtain ⟨bT, hbT⟩ : ∃ b, b = w.heap.size := ⟨_, rfl⟩
 obtain ⟨bR, hbR⟩ : ∃ b, b = w1.heap.size := ⟨_, rfl⟩
 obtain ⟨b5, hb5⟩ : ∃ b, b = w2.heap.size := ⟨_, rfl⟩
 rw [← hbT] at r1 g3
 rw [← hbR] at r2 t5 g4
 rw [← hb5] at r3 t3' g5
 have r1 := zh m3 r1
 have r2 := zh m3 r2
 have t5 : w3.there bR 0 5 := m3.there (by omega) t5
 have mS3 := mS.trans' m03
 have hmS := mS.size
 have hlen : ∀ {w' : World} {ty : TypeId}, (Builtin.len_ #[M.zab] ty #[fv]).run P w' = .ok (.int .i64 fs.length) w' := by
  intro w' ty
  rcases hf with ⟨ad, c, e1, e2⟩ | ⟨b, o, c, css, e, _⟩
  ·rw [e1, e2]; exact S.lf.run_len
  ·rw [e]; exact S.lf.run_len
 refine zf fun K hK => zf fun K1 hK1 => zn fun τ => ?_
 simp +decide only [bK, bE, BEq.rfl, Nat.reduceAdd, Nat.zero_add, g0, hlen]
 refine hK1 _ _ (zd fun σ2 hσ => ?_)
 have a0 := hσ 0
 have a1 := hσ 1
 have a3 := hσ 3
 have a4 := hσ 4
 have a5 := hσ 5
 have a6 := hσ 6
 have a7 := hσ 7
 have a8 := hσ 8
 simp +decide only [bE, Nat.reduceBeqDiff, BEq.rfl, Nat.reduceAdd, Nat.zero_add, g0, g1, g3, g4, g5] at a0 a1 a3 a4 a5 a6 a7 a8
 clear hσ hK1 K1 g0 g1 g3 g4 g5
 refine zgv (i := 8) (l := 7) (c := 9) (k := 0) hlo (L := fs.length) (by omega) (FT1 w3 wS fv v bT bR b5 fs.length (zjg v fs 0 t)) (fun j σ w h => ⟨h.h8, h.h7, h.le⟩) (fun j σ w b h => ?_) ?_ (fun σ3 w4 h => hK _ _ ?_) (fun j σ' w' hj h => ?_)
 ·exact ⟨by rw [zq (by decide)]; exact h.h0, by rw [zq (by decide)]; exact h.h1, by rw [zq (by decide)]; exact h.h3, by rw [zq (by decide)]; exact h.h4, by rw [zq (by decide)]; exact h.h5, by rw [zq (by decide)]; exact h.h6, by rw [zq (by decide)]; exact h.h7, by rw [zq (by decide)]; exact h.h8, h.le, h.mod, h.ex⟩
 ·exact ⟨a0, a1, a3, a4, a5, a6, a7, a8, Nat.zero_le _, .refl _ _, .slice none 0 0, [], r3, t3', .inl ⟨rfl, rfl, rfl⟩, by simp only [List.take_zero, zcu]⟩
 rotate_left
 ·exact W_ft B S hW hL hfit mS3 m03 (by omega) (by omega) (by omega) (by omega) (by omega) r1 hf ht hfl hj h fun σ' w' h1 h2 => ⟨h1, h2⟩
 clear hK K
 obtain ⟨z0, z1, z3, z4, z5, _, _, _, _, zm, u1, css, zr, zt, zo, zrep⟩ := h
 rw [show fs.length = (zjg v fs 0 t).length by rw [zfn], List.take_length] at zrep
 have s4 := zm.size
 have m04 : Mod w w4 zw := m03.fresh zm fun k o e => by have : k = b5 := e; omega
 have mS4 := mS.trans' m04
 have rT4 : w4.rangeAt bT 0 ct := zm.rangeAt (by omega) (fun _ _ _ e => by have : bT = b5 := e; omega) r1
 have cT4 : w4.cell? ⟨bT, 4, none⟩ = some vu := rT4 4 _ (by rw [hct]; rfl)
 refine zf fun K hK => zf fun K1 hK1 => zn fun τ => ?_
 simp +decide only [bK, bE, Nat.reduceBeqDiff, BEq.rfl, Nat.reduceAdd, Nat.zero_add, z0, z3, S.tr.h4.run, S.tr.lg.run_load1 rfl, cT4]
 rw [zah hW.unknown.has]
 simp +decide only [bK, bE, Nat.reduceBeqDiff, BEq.rfl]
 refine (zqg B S hW mS4 (hf.stay m04) (by omega) htag t3).mono ?_
 rintro r w5 ⟨⟨ucs, uo, uU⟩, m5⟩
 obtain ⟨U, hU⟩ : ∃ U, U = unkT t.u := ⟨_, rfl⟩
 rw [← hU] at uo uU
 have hUl : U.length ≤ 32767 := by
  rw [hU]
  have h1 := zpz (t.u.take most) []
  have h2 : (t.u.take most).length ≤ 32767 := by rw [List.length_take]; unfold most; omega
  unfold unkT
  simp only [List.length_nil] at h1
  omega
 have hrl : ∀ {w' : World} {ty : TypeId}, (Builtin.len_ #[N.zi] ty #[r]).run P w' = .ok (.int .i64 U.length) w' := by
  intro w' ty
  rcases uo with ⟨e, e2, _⟩ | ⟨b, c, e, _⟩
  ·rw [e, e2]; exact S.tr.lg.run_len
  ·rw [e]; exact S.tr.lg.run_len
 simp +decide only [bK, hrl]
 refine hK1 _ _ (zd fun σ4 hσ => ?_)
 have b4 := hσ 4
 have b5' := hσ 5
 have b12 := hσ 12
 have b13 := hσ 13
 have b14 := hσ 14
 simp +decide only [bE, Nat.reduceBeqDiff, BEq.rfl, Nat.reduceAdd, z4, z5] at b4 b5' b12 b13 b14
 clear hσ hK1 K1
 have s5 := m5.size
 have zr5 := zh m5 zr
 have zt5 : w5.there b5 0 5 := m5.there (by omega) zt
 have mS5 := mS4.trans' m5
 have m05 := m04.trans' m5
 have hul : (U.map fun x => (x.1, zbq x.2)).length = U.length := List.length_map _
 have fin : ∀ (σ' : Env) (w' : World), FT2 w5 wS bR b5 u1 r (U.map fun x => (x.1, zbq x.2)) U.length σ' w' → K σ' w' := by
  intro σ' w' h
  refine hK _ _ ?_
  clear hK K
  obtain ⟨y4, y5, _, _, _, _, ym, u2, cs2, yr, yt, yo, yrep⟩ := h
  rw [← hul, List.take_length] at yrep
  rw [← hul] at yo
  have s6 := ym.size
  have m06 : Mod w w' zw := m05.fresh ym fun k o e => by have : k = b5 := e; omega
  have m46 : Mod w4 w' (blk b5) := (m5.mono fun _ _ _ h => h.elim).trans' ym
  have hnew : ∀ k, w3.heap.size ≤ k → k < w'.heap.size → GN (GS wS) w3.heap.size w'.heap.size k := fun k h1 h2 => .inr ⟨h1, h2⟩
  have hrep : RepT w' (GN (GS wS) w3.heap.size w'.heap.size) (fitP v fs t) [.int .i64 0, .slice none 0 0, .bool false, u1, u2] := by
   unfold fitP
   refine ⟨.slice none 0 0, u1, u2, rfl, .inl ⟨rfl, none, 0, rfl⟩, ?_, ?_⟩
   ·rcases zo with ⟨e1, e2, _⟩ | ⟨b, c, e1, g1, g2, g3, _, g5, _⟩
    ·exact .inl ⟨e1, List.length_eq_zero_iff.1 (by rw [zfn]; exact e2)⟩
    ·refine .inr ⟨b, c, css, by rw [zfn]; exact e1, by rw [zfn]; exact g3, fun _ => hnew b g1 (by omega), zcu.mod m46 (fun k hk => ⟨?_, fun o e => ?_, ?_⟩) _ zrep, m46.rangeAt g2 (fun _ _ _ e => by have : b = b5 := e; omega) g5⟩
     ·rcases hk with hk | hk
      ·have hk : k < wS.heap.size := hk
       omega
      ·exact hk.2.1
     ·have e : k = b5 := e
      rcases hk with hk | hk
      ·have hk : k < wS.heap.size := hk
       omega
      ·have := hk.1; omega
     ·rcases hk with hk | hk
      ·exact .inl hk
      ·exact hnew k hk.1 (by have := hk.2.1; omega)
   ·have hfu : fitU t.u = U.map fun x => (x.1, zbq x.2) := by rw [hU]; rfl
    rw [hfu]
    rcases yo with ⟨e1, e2, _⟩ | ⟨b, c, e1, g1, g2, g3, _, g5, _⟩
    ·exact .inl ⟨e1, List.length_eq_zero_iff.1 e2⟩
    ·exact .inr ⟨b, c, cs2, e1, g3, fun _ => hnew b (by omega) g2, yrep.mono fun k hk => hk.elim .inl fun hk => hnew k (by have := hk.1; omega) hk.2.1, g5⟩
  obtain ⟨w7, hst, m7, s7, r7, _⟩ := zpw S.tr (cs := [.int .i64 0, .slice none 0 0, .bool false, u1, u2]) ((m5.mono fun _ _ _ h => h.elim : Mod w4 w5 (blk b5)).trans' ym |>.rangeAt (by omega) (fun _ _ _ e => by have : bR = b5 := e; omega) (zm.rangeAt (by omega) (fun _ _ _ e => by have : bR = b5 := e; omega) r2)) rfl (ym.there (by omega) (m5.there (by omega) (zm.there (by omega) t5))) rfl hrep.one
  refine zf fun K2 hK2 => zn fun τ => ?_
  simp +decide only [bK, bE, Nat.reduceBeqDiff, BEq.rfl, Nat.reduceAdd, y4, y5, zbo S.tr yr rfl, hst]
  refine hK2 _ _ (zd fun σ8 hσ => zbl ?_)
  have q := hσ 4
  simp +decide only [bE, Nat.reduceBeqDiff, Nat.reduceAdd, y4] at q
  refine ⟨.inr rfl, .agg [.int .i64 0, .slice none 0 0, .bool false, u1, u2].toArray, ⟨_, q, zpv S.tr r7 rfl⟩, _, rfl, RepT.mod m7 (fun k hk => ⟨?_, fun o e => ?_, hk.imp id fun h => ⟨by have := h.1; omega, by omega⟩⟩) _ hrep, m06.fresh m7 fun k o e => by have : k = bR := e; omega⟩
  ·rcases hk with h | h
   ·have h : k < wS.heap.size := h
    omega
   ·omega
  ·have e : k = bR := e
   rcases hk with h | h
   ·have h : k < wS.heap.size := h
    omega
   ·have := h.1; omega
 by_cases hU0 : U = []
 ·subst hU0
  refine zgv (i := 14) (l := 13) (c := 15) (k := 2) hlo (L := 0) (by omega) (FT2 w5 wS bR b5 u1 r []) (fun j σ w h => ⟨h.h14, h.h13, h.le⟩) (fun j σ w b h => ?_) ?_ (fun σ7 w7 h => fin _ _ h) (fun j σ' w' hj h => by omega)
  ·exact ⟨by rw [zq (by decide)]; exact h.h4, by rw [zq (by decide)]; exact h.h5, by rw [zq (by decide)]; exact h.h12, by rw [zq (by decide)]; exact h.h13, by rw [zq (by decide)]; exact h.h14, h.le, h.mod, h.ex⟩
  ·exact ⟨b4, b5', b12, b13, b14, Nat.zero_le _, .refl _ _, .slice none 0 0, [], zr5, zt5, .inl ⟨rfl, rfl, rfl⟩, rfl⟩
 ·have hr : ∃ br cr, r = .slice (some ⟨br, 0, none⟩) U.length cr ∧ w4.heap.size ≤ br ∧ br < w5.heap.size ∧ w5.rangeAt br 0 ucs := by
   rcases uo with ⟨_, e2, _⟩ | ⟨b, c, e, g1, g2, _, _, g5, _⟩
   ·exact absurd (List.length_eq_zero_iff.1 e2) hU0
   ·exact ⟨b, c, e, g1, g2, g5⟩
  obtain ⟨br, cr, rfl, h1, h2, h3⟩ := hr
  refine zgv (i := 14) (l := 13) (c := 15) (k := 2) hlo (L := U.length) (by omega) (FT2 w5 wS bR b5 u1 (.slice (some ⟨br, 0, none⟩) U.length cr) (U.map fun x => (x.1, zbq x.2))) (fun j σ w h => ⟨h.h14, by rw [h.h13, hul], by rw [← hul]; exact h.le⟩) (fun j σ w b h => ?_) ?_ (fun σ7 w7 h => fin _ _ h) (fun j σ' w' hj h => ?_)
  ·exact ⟨by rw [zq (by decide)]; exact h.h4, by rw [zq (by decide)]; exact h.h5, by rw [zq (by decide)]; exact h.h12, by rw [zq (by decide)]; exact h.h13, by rw [zq (by decide)]; exact h.h14, h.le, h.mod, h.ex⟩
  ·exact ⟨b4, b5', b12, by rw [hul]; exact b13, b14, Nat.zero_le _, .refl _ _, .slice none 0 0, [], zr5, zt5, .inl ⟨rfl, rfl, rfl⟩, by simp only [List.take_zero, UsG]⟩
  ·exact W_fu B S hW mS5 (by omega) (by omega) h2 (by omega) h3 uU hUl hj h fun σ' w' h1 h2 => ⟨h1, h2⟩
mutual
theorem fitOk_of (B : Base P N) (S : SpT P N M) (hW : SW P N M) (hL : SMk P N M L) {v : Int} : ∀ (f : Fld), okFB f = true → ofFB f = true → zxq P L v f
 | .mk k fr t' n g d o sub, h, ho => by
  simp only [okFB, Bool.and_eq_true, decide_eq_true_eq, Bool.or_eq_true] at h
  simp only [ofFB, Bool.and_eq_true, decide_eq_true_eq] at ho
  obtain ⟨⟨h1, h2⟩, h3⟩ := h
  refine zux B S hW hL h1 (fun hk => absurd hk h2) fun hk => ⟨?_, ho.1⟩
  refine zux B S hW hL (show (-1 : Int) < 0 by decide) (fun hk2 => ?_) fun hk2 => absurd hk2 ho.1
  rcases h3 with (h3 | h3) | ⟨h3, h4⟩
  ·exact absurd hk h3
  ·exact absurd hk2 h3
  ·have h5 : sub.length < 1000 := by simpa using h3
   have h6 := znl B S hW hL (v := v) sub h4 ho.2
   exact sp_Fit B S hW hL h5 (fun f hf => (h6 f hf).1) fun f hf => (h6 f hf).2
theorem znl (B : Base P N) (S : SpT P N M) (hW : SW P N M) (hL : SMk P N M L) {v : Int} : ∀ (l : List Fld), zkq l = true → zxj l = true → ∀ f ∈ l, f.tag < 0 ∧ zxq P L v f
 | [], _, _, f, hf => by cases hf
 | g :: r, h, ho, f, hf => by
  simp only [zkq, Bool.and_eq_true] at h
  simp only [zxj, Bool.and_eq_true] at ho
  rcases List.mem_cons.1 hf with e | hf
  ·rw [e]
   refine ⟨?_, fitOk_of B S hW hL g h.1 ho.1⟩
   have h1 := h.1
   cases g
   simp only [okFB, Bool.and_eq_true, decide_eq_true_eq] at h1
   exact h1.1.1
  ·exact znl B S hW hL r h.2 ho.2 f hf
end
theorem fitP_of (B : Base P N) (S : SpT P N M) (hW : SW P N M) (hL : SMk P N M L) {v : Int} {fs : List Fld} (h1 : fs.length < 1000) (h2 : zkq fs = true) (h3 : zxj fs = true) : FitOk P L v fs :=
 sp_Fit B S hW hL h1 (fun f hf => (znl (v := v) B S hW hL fs h2 h3 f hf).1) fun f hf => (znl B S hW hL fs h2 h3 f hf).2
end
def zws (N : Nums) (L : zen) : Nums where
 zrr := L.zll
 t_ := N.t_
 zag := N.zag
 zav := N.zav
 za := N.za
 zbc := N.zbc
 zay := N.zay
 zaf := N.zaf
 zcq := N.zcq
 zbz := N.zbz
 zaq := N.zaq
 zld := N.zld
 zgf := N.zgf
 zfs := N.zfs
 ze := N.ze
 zbd := N.zbd
 zbp := N.zbp
 zbn := N.zbn
 zjw := N.zjw
 zmp := N.zmp
 zz := N.zz
 zal := N.zal
 zbr := N.zbr
 zed := N.zed
 zc := N.zc
 zlc := N.zlc
 zad := N.zad
 zk := N.zk
 zaa := N.zb
 zb := N.zaa
 zcr := N.zy
 zy := N.zcr
 zbh := N.zj
 zj := N.zbh
 zbt := N.zi
 zi := N.zbt
structure SMg (P : Program) (N : Nums) (M : zaz) (L : zen) : Prop where
 given : FOk P L.zll 1 (c_got (zws N L)) [.cell 2 N.zaa]
 at_ : FOk P L.f_at 2 (zlq (zws N L) M) [.cell 3 N.zaa]
 textOf : L.zjk ≠ 0 → N.zay ≠ 0 ∧ FOk P L.zjk 1 (c_textOf N M L) [.var 2]
 octetsOf : L.zhc ≠ 0 → FOk P L.zhc 1 (zsw N M L) [.var 2]
 sixteen : L.ziy ≠ 0 → N.zag ≠ 0 ∧ FOk P L.ziy 1 (zwc N M L) [.cell 1 N.zag]
 set : N.zdn ≠ 0 ∧ N.zcq ≠ 0
section
variable {P : Program} {N : Nums} {M : zaz} {L : zen}
theorem zwg (B : Base P N) : Base P (zws N L) := ⟨B.mixed, B.int8, B.int16, B.int32, B.int64, B.int, B.uint8, B.uint16, B.uint32, B.uint64, B.bool, B.string, B.Lu8, B.big, B.error, B.reader, B.reader0, B.reader1, B.uuid, B.pstring, B.tags⟩
theorem fns_swap (G : SMg P N M L) : Fns P (zws N L) := by
 constructor <;> first
  | exact fun h => absurd rfl h
  | exact fun _ => G.given
theorem zct.re {N' : Nums} {tt tg lt lg : TypeId} (h : zct P N tt tg lt lg) : zct P N' tt tg lt lg := ⟨h.tree, h.tag, h.h0, h.h1, h.h2, h.h3, h.h4, h.g0, h.g1, h.lt, h.lg⟩
theorem zst (B : Base P N) (S : SpT P N M) (hI : zct P N N.zaa N.zcr N.zbh N.zbt) (G : SMg P N M L) (hN : L.zll ≠ 0) {w : World} {t : Tr} {cs : List Value} {H : Nat → Prop} (ht : okS t) (hH : ∀ k, H k → k < w.heap.size) (hr : RepT w H t cs) :
  Call P L.zll #[.agg cs.toArray] w fun v w' => ∃ cs', v = .agg cs'.toArray ∧ RepA w' t cs' ∧ Mod w w' zw :=
 (gotT (N := zws N L) (zwg B) (fns_swap G) hN hI.re S.tr.re t ht w H cs hH hr).mono fun _ _ ⟨cs', h1, h2, h3⟩ => ⟨cs', h1, RepT.repA _ h2, h3⟩
theorem spT_swap (S : SpT P N M) (hI : zct P N N.zaa N.zcr N.zbh N.zbt) (f : Nat) : SpT P (zws N L) { M with zes := f } := ⟨S.fld, S.f0, S.f1, S.f2, S.f3, S.f4, S.f5, S.f6, S.f7, S.lf, S.msg, S.m0, S.m1, hI.re⟩
theorem zqb (B : Base P N) (S : SpT P N M) (hI : zct P N N.zaa N.zcr N.zbh N.zbt) (G : SMg P N M L) {wS w : World} {t : Tr} {cs : List Value} (mS : Mod wS w zw) (h : RepA wS t cs) (i : Nat) :
  Call P L.f_at #[.agg cs.toArray, .int .i64 i] w fun v w' => ∃ cs', v = .agg cs'.toArray ∧ RepA wS (atT t i) cs' ∧ Mod w w' zw :=
 zub (N := zws N L) (M := { M with zes := L.f_at }) (zwg B) (spT_swap S hI L.f_at) G.at_ mS h i
theorem OctA.toStr (B : Base P N) {w : World} {v : Value} {l : List UInt8} (h : OctA w v l) : (convert N.za N.zal v).run P w = .ok (strV l) w := by
 rcases h with ⟨ad, c, rfl, rfl⟩ | ⟨b, o, c, rfl, h2, h5⟩
 ·cases ad with
  | none => exact run_convert_bytes_nil w _ _ B.Lu8.und B.uint8.und 0 c _ B.string.und
  | some a => exact run_convert_bytes_back w _ _ _ a c [] B.Lu8.und B.uint8.und B.string.und (fun j hj => by simp at hj)
 ·rw [run_convert_bytes_arg w _ _ B.Lu8.und B.uint8.und b o l.length c (l.map fun x => (x.toNat : Int)) (by simp) (fun i hi => ?_) _ B.string.und]
  ·unfold strOfNums strV
   rw [List.map_map]
   have e : l.map ((fun n : Int => UInt8.ofNat n.toNat) ∘ fun x : UInt8 => (x.toNat : Int)) = l := by
    conv => rhs; rw [← List.map_id l]
    refine List.map_congr_left fun x _ => ?_
    simp
   rw [e]
  ·have := h5 i (zam l[i]) (by simp [hi])
   rw [this]
   simp [zam, List.getD, hi]
theorem zct.loadT {tt tg lt lg : TypeId} (hT : zct P N tt tg lt lg) {w1 : World} {b o : Nat} {cs : List Value} (hr : w1.rangeAt b o cs) (hl : cs.length = 5) : (Instr.loadAt tt (.pointer (some ⟨b, o, none⟩))).run P w1 = .ok (.agg cs.toArray) w1 := zbo hT hr hl
theorem zxu (B : Base P N) (hI : zct P N N.zaa N.zcr N.zbh N.zbt) (G : SMg P N M L) (hN : L.zjk ≠ 0) {wS w : World} {t : Tr} {cs : List Value} (mS : Mod wS w zw) (h : RepA wS t cs) :
  Call P L.zjk #[.agg cs.toArray] w fun v w' => v.oneCell' = true ∧ Rep w' (NB w.heap.size w'.heap.size) (Txt.nstr.ofT t) [v] ∧ Mod w w' zw := by
 obtain ⟨hp, hF⟩ := G.textOf hN
 refine hF.call rfl fun loc N' hlo => ?_
 unfold c_textOf
 obtain ⟨vs, vl, vu, rfl, h1, h2, h3⟩ := h.out
 refine zf fun K hK => zn fun τ => ?_
 simp +decide only [bK, bE, Nat.reduceAdd, Nat.zero_add]
 obtain ⟨w1, hw1⟩ : ∃ w1, w1 = w.alloc (.cells (Value.cells (.agg [.int .i64 t.n, vs, .bool t.nl, vl, vu].toArray)) N.zaa) := ⟨_, rfl⟩
 have m1 : Mod w w1 zw := by rw [hw1]; exact Mod.alloc _ _ _
 have s1 : w1.heap.size = w.heap.size + 1 := by rw [hw1]; exact zae _ _
 have r1 : w1.rangeAt w.heap.size 0 [.int .i64 t.n, vs, .bool t.nl, vl, vu] := by rw [hw1]; exact zu w _ _ _
 rw [← hw1]
 clear hw1
 refine hK _ _ (zd fun σ hσ => ?_)
 have f1 := hσ 1
 have f2 := hσ 2
 simp +decide only [bE, Nat.reduceBeqDiff, BEq.rfl, Nat.reduceAdd] at f1 f2
 clear hσ hK K
 have x1 := r1 1 _ rfl
 have x2 := r1 2 _ rfl
 refine zf fun K hK => zf fun K1 hK1 => zn fun τ => ?_
 simp +decide only [bK, bE, BEq.rfl, Nat.reduceAdd, Nat.zero_add, f1, hI.h2.run, B.bool.run_load1 rfl, x2]
 refine hK1 _ _ (zd fun σ1 hσ => ?_)
 have g1 := hσ 1
 have g3 := hσ 3
 simp +decide only [bE, Nat.reduceBeqDiff, BEq.rfl, Nat.reduceAdd, f1] at g1 g3
 clear hσ hK1 K1 f1 f2
 refine W_if hlo g3 ?_
 cases hnl : t.nl with
 | true =>
  simp only [if_true]
  refine zf fun K2 hK2 => zn fun τ => ?_
  simp +decide only [bK, Nat.reduceAdd]
  refine hK2 _ _ (zd fun σ2 hσ => zbl ⟨.inr rfl, _, rfl, ?_⟩)
  have q := hσ 2
  simp +decide only [bE, BEq.rfl, Nat.reduceAdd] at q
  rw [q]
  refine ⟨rfl, ?_, m1⟩
  simp only [Txt.ofT, hnl, if_true, Rep]
 | false =>
  simp only [Bool.false_eq_true, if_false]
  refine zbv (hK _ _ ?_)
  obtain ⟨w2, hw2⟩ : ∃ w2, w2 = w1.alloc (.cells (Value.cells (.string ⟨#[]⟩)) N.zal) := ⟨_, rfl⟩
  have hal := B.string.run_alloc (w := w1) (.tuple #[])
  have m2 : Mod w1 w2 zw := by rw [hw2]; exact Mod.alloc _ _ _
  have s2 : w2.heap.size = w1.heap.size + 1 := by rw [hw2]; exact zae _ _
  have r2 : w2.rangeAt w1.heap.size 0 [.string ⟨#[]⟩] := by rw [hw2]; exact zu w1 _ _ _
  have t2 : w2.there w1.heap.size 0 1 := by rw [hw2]; exact zbe w1 (Value.cells (.string ⟨#[]⟩)) N.zal
  rw [← hw2] at hal
  have hst := B.string.run_store1 (w := w2) (b := w1.heap.size) (o := 0) (v := strV t.s) rfl t2
  obtain ⟨w3, hw3⟩ : ∃ w3, w3 = w2.setCell ⟨w1.heap.size, 0, none⟩ (strV t.s) := ⟨_, rfl⟩
  have m3 : Mod w2 w3 (blk w1.heap.size) := by rw [hw3]; exact Mod.setCell fun _ => rfl
  have s3 : w3.heap.size = w2.heap.size := by rw [hw3]; simp [World.setCell]
  have r3 := zfm (i := 0) (v := strV t.s) r2 (by decide)
  rw [← hw3] at hst r3
  clear hw3
  refine zf fun K2 hK2 => zn fun τ => ?_
  simp +decide only [bK, bE, Nat.reduceBeqDiff, BEq.rfl, Nat.reduceAdd, Nat.zero_add, g1, hI.h1.run, B.Lu8.run_load1 rfl, x1, ((h1.stay mS).stay m1).toStr B, hal, hst]
  refine hK2 _ _ (zd fun σ2 hσ => ?_)
  have q4 := hσ 4
  simp +decide only [bE, BEq.rfl, Nat.reduceAdd] at q4
  clear hσ hK2 K2
  refine zf fun K2 hK2 => zn fun τ => ?_
  simp +decide only [bK, bE, Nat.reduceAdd, q4]
  refine hK2 _ _ (zd fun σ3 hσ => zbl ⟨.inr rfl, _, rfl, ?_⟩)
  have q := hσ 2
  simp +decide only [bE, BEq.rfl, Nat.reduceAdd] at q
  rw [q]
  refine ⟨rfl, ?_, (m1.trans' m2).fresh m3 fun k o e => by have : k = w1.heap.size := e; omega⟩
  simp only [Txt.ofT, hnl, Bool.false_eq_true, if_false, Rep]
  exact ⟨w1.heap.size, rfl, ⟨by omega, by omega⟩, r3⟩
theorem zvv (B : Base P N) (G : SMg P N M L) (hN : L.ziy ≠ 0) {wS w : World} {v : Value} {s : List UInt8} (mS : Mod wS w zw) (h : OctA wS v s) :
  Call P L.ziy #[v] w fun r w' => r = uuidV s ∧ Mod w w' zw := by
 obtain ⟨h16, hF⟩ := G.sixteen hN
 have hU := B.uuid h16
 refine hF.call rfl fun loc N' hlo => ?_
 unfold zwc
 obtain ⟨w1, hw1⟩ : ∃ w1, w1 = w.alloc (.cells (Value.cells (.agg (Array.replicate 16 (.int .u8 0)))) N.zag) := ⟨_, rfl⟩
 have hal := hU.run_alloc (w := w) (.tuple #[])
 rw [← hw1] at hal
 have m1 : Mod w w1 zw := by rw [hw1]; exact Mod.alloc _ _ _
 have s1 : w1.heap.size = w.heap.size + 1 := by rw [hw1]; exact zae _ _
 have r1 : w1.rangeAt w.heap.size 0 ((List.replicate 16 (0 : UInt8)).map zam) := by
  rw [hw1]
  have := zu w (Value.cells (.agg (Array.replicate 16 (.int .u8 0)))) N.zag (0, 0)
  exact this
 have t1 : w1.there w.heap.size 0 16 := by rw [hw1]; exact zbe w _ _
 refine zf fun K hK => zn fun τ => ?_
 simp +decide only [bK, Nat.reduceAdd, hal]
 refine hK _ _ (zd fun σ hσ => ?_)
 have f0 := hσ 0
 have f1 := hσ 1
 simp +decide only [bE, Nat.reduceBeqDiff, BEq.rfl, Nat.reduceAdd, Nat.zero_add] at f0 f1
 clear hσ hK K hal
 have ho : OwnB w1 w.heap.size (.slice (some ⟨w.heap.size, 0, none⟩) 16 16) (List.replicate 16 0) := .inr ⟨w.heap.size, 16, rfl, Nat.le_refl _, by omega, Nat.le_refl _, t1, r1, rfl⟩
 obtain ⟨cv, w2, hcp, ho2, m2, s2⟩ := run_cp16 (ty := N.ze) B ho ((h.stay mS).stay m1)
 have hsl := fun {w : World} {ad : Addr} => zoy (P := P) (w := w) hU B.uint8 (ad := ad)
 refine zf fun K hK => zn fun τ => ?_
 simp +decide only [bK, bE, Nat.reduceBeqDiff, BEq.rfl, Nat.reduceAdd, Nat.zero_add, Option.map_none, f0, f1, hsl, zuv, hcp]
 refine hK _ _ (zd fun σ1 hσ => ?_)
 have g1 := hσ 1
 simp +decide only [bE, Nat.reduceBeqDiff, Nat.reduceAdd, f1] at g1
 clear hσ hK K
 have r2 : w2.rangeAt w.heap.size 0 ((idB s).map zam) := by
  rcases ho2 with ⟨e, _, _⟩ | ⟨b, c, e, _, _, _, _, g, _⟩
  ·cases e
  ·injection e with e1 _ _; injection e1 with e2; injection e2 with e3; subst e3; exact g
 have t2 : w2.there w.heap.size 0 16 := m2.there (by omega) t1
 have hid : (idB s).length = 16 := by simp [idB]; omega
 have hld := hU.run_load (w := w2) (b := w.heap.size) (o := 0) r2 (by rw [List.length_map]; exact hid) (fun h => by cases h)
 have hlv : ldv (.array 16 N.zk) ((idB s).map zam) = .agg ((idB s).map zam).toArray := rfl
 rw [hlv] at hld
 have hst := hU.run_store (w := w2) (b := w.heap.size) (o := 0) (v := .agg ((idB s).map zam).toArray) (cs := (idB s).map zam) rfl (by rw [List.length_map]; exact hid) t2 (zkh _)
 obtain ⟨w3, hw3⟩ : ∃ w3, w3 = w2.setCells w.heap.size 0 ((idB s).map zam) := ⟨_, rfl⟩
 have m3 : Mod w2 w3 (blk w.heap.size) := by rw [hw3]; exact Mod.setCells _ 0 _ fun _ _ _ _ => rfl
 have r3 : w3.rangeAt w.heap.size 0 ((idB s).map zam) := by
  have := zar ((idB s).map zam) 0 w2 _ r2 (by simp)
  rw [List.drop_of_length_le (by simp), List.append_nil] at this
  rw [hw3]
  exact this
 rw [← hw3] at hst
 clear hw3
 refine zf fun K hK => zn fun τ => ?_
 simp +decide only [bK, bE, Nat.reduceBeqDiff, BEq.rfl, Nat.reduceAdd, g1, hld, hst]
 refine hK _ _ (zd fun σ2 hσ => zbl ⟨.inr rfl, .agg ((idB s).map zam).toArray, ?_, ?_⟩)
 ·have q := hσ 1
  simp +decide only [bE, Nat.reduceBeqDiff, Nat.reduceAdd, g1] at q
  refine ⟨_, q, ?_⟩
  have hl3 := hU.run_load (w := w3) (b := w.heap.size) (o := 0) r3 (by rw [List.length_map]; exact hid) (fun h => by cases h)
  rw [hlv] at hl3
  simpa [Instr.loadAt, Instr.sureAddr, Sem.run_bind] using hl3
 ·refine ⟨?_, (m1.fresh m2 fun k o e => by have : k = w.heap.size := e; omega).fresh m3 fun k o e => by have : k = w.heap.size := e; omega⟩
  unfold uuidV idB
  rw [List.take_append, List.take_of_length_le (l := List.replicate _ _) (by rw [List.length_replicate]; omega)]
end
inductive FM where
 | fill | mk
def FM.tv : FM → Nat | .fill => 2 | .mk => 1
def FM.sv : FM → Nat | .fill => 0 | .mk => 3
def FM.q0 : FM → Nat | .fill => 3 | .mk => 4
def FM.x : FM → Nat | .fill => 2 | .mk => 1
section
variable (N : Nums) (L : zen) (mf : TypeId → FuncId) (m : FM)
def FM.pre (i : Nat) : List ROp := match m with
 | .fill => [⟨some 0, .move (V 0), 0, none, []⟩, ⟨some 1, .load N.zaa (V 2), 0, none, []⟩, ⟨some 2, .call ⟨.value (.func L.f_at), #[T 1, .const (.int .i64 i)], #[N.zaa, N.ze]⟩, N.zaa, none, []⟩]
 | .mk => [⟨some 0, .load N.zaa (V 1), 0, none, []⟩, ⟨some 1, .call ⟨.value (.func L.f_at), #[T 0, .const (.int .i64 i)], #[N.zaa, N.ze]⟩, N.zaa, none, []⟩]
def FM.post (Tt : TypeId) (idx : Nat) (t : TypeId) (y : Nat) : List ROp := match m with
 | .fill => [⟨some (y + 1), .nilCheck (T 0), 0, none, []⟩, ⟨some (y + 2), .fieldAddr Tt (T (y + 1)) idx, 0, none, []⟩, ⟨none, .store t (T (y + 2)) (T y), 0, none, []⟩]
 | .mk => [⟨some (y + 1), .fieldAddr Tt (V 3) idx, 0, none, []⟩, ⟨none, .store t (T (y + 1)) (T y), 0, none, []⟩]
def PK.lf (x : Nat) : PK → List ROp
 | .bool => [⟨some (x + 1), .field N.zaa (T x) 0, 0, none, []⟩, ⟨some (x + 2), .binOp .and N.zbn (T (x + 1)) (.const (.int .i64 1)) N.zbn, 0, none, []⟩, ⟨some (x + 3), .binOp .eql N.zbn (T (x + 2)) (.const (.int .i64 1)) N.zbn, 0, none, []⟩]
 | .i64 => [⟨some (x + 1), .field N.zaa (T x) 0, 0, none, []⟩]
 | .uuid => [⟨some (x + 1), .field N.zaa (T x) 1, 0, none, []⟩, ⟨some (x + 2), .call ⟨.value (.func L.ziy), #[T (x + 1)], #[N.za]⟩, N.zag, none, []⟩]
 | k => [⟨some (x + 1), .field N.zaa (T x) 0, 0, none, []⟩, ⟨some (x + 2), .convert N.zbn (k.t N) (T (x + 1)), 0, none, []⟩]
def PK.ly (x : Nat) : PK → Nat
 | .bool => x + 3
 | .i64 => x + 1
 | _ => x + 2
def Txt.lf (x : Nat) : Txt → List ROp
 | .str => [⟨some (x + 1), .field N.zaa (T x) 1, 0, none, []⟩, ⟨some (x + 2), .convert N.za N.zal (T (x + 1)), 0, none, []⟩]
 | .nstr => [⟨some (x + 1), .call ⟨.value (.func L.zjk), #[T x], #[N.zaa]⟩, N.zay, none, []⟩]
 | _ => [⟨some (x + 1), .call ⟨.value (.func L.zhc), #[T x], #[N.zaa]⟩, N.za, none, []⟩]
def Txt.ly (x : Nat) : Txt → Nat
 | .str => x + 2
 | _ => x + 1
def lFr (Tt idx st T' f q : Nat) : List ROp := match m with
 | .fill => [⟨some 0, .move (V 0), 0, none, []⟩, ⟨some 1, .move (V 0), 0, none, []⟩, ⟨some 2, .nilCheck (T 1), 0, none, [1]⟩, ⟨some 3, .fieldAddr Tt (T 2) idx, 0, none, [2]⟩, ⟨some 4, .load st (T 3), 0, none, [3]⟩, ⟨some 5, .load N.zaa (V (q + 5)), 0, none, []⟩,
   ⟨some 6, .call ⟨.value (.func f), #[T 5], #[N.zaa]⟩, T', none, [5]⟩, ⟨some 7, .buildSlice st 1 #[(0, T 6)], 0, none, [6]⟩, ⟨some 8, .call ⟨.builtin .append, #[T 4, T 7], #[st, st]⟩, st, none, [4, 7, 6]⟩, ⟨some 9, .nilCheck (T 0), 0, none, [0, 0, 1, 2, 3, 4, 5, 6, 7, 8]⟩,
   ⟨some 10, .fieldAddr Tt (T 9) idx, 0, none, [9, 0, 1, 2, 3, 4, 5, 6, 7, 8]⟩, ⟨none, .store st (T 10) (T 8), 0, none, [10, 8, 8, 0, 1, 2, 3, 4, 5, 6, 7, 8]⟩]
 | .mk => [⟨some 0, .fieldAddr Tt (V 3) idx, 0, none, []⟩, ⟨some 1, .load st (T 0), 0, none, [0]⟩, ⟨some 2, .load N.zaa (V (q + 5)), 0, none, []⟩, ⟨some 3, .call ⟨.value (.func f), #[T 2], #[N.zaa]⟩, T', none, [2]⟩, ⟨some 4, .buildSlice st 1 #[(0, T 3)], 0, none, [3]⟩,
   ⟨some 5, .call ⟨.builtin .append, #[T 1, T 4], #[st, st]⟩, st, none, [1, 4, 3]⟩, ⟨some 6, .fieldAddr Tt (V 3) idx, 0, none, [0, 1, 2, 3, 4, 5]⟩, ⟨none, .store st (T 6) (T 5), 0, none, [6, 5, 5, 0, 1, 2, 3, 4, 5]⟩]
def lFn (Tt idx st t q : Nat) : List ROp := [⟨some 0, .fieldAddr Tt (V 3) idx, 0, none, []⟩, ⟨some 1, .load st (T 0), 0, none, []⟩, ⟨some 2, .fieldAddr N.zaa (V (q + 5)) 0, 0, none, []⟩, ⟨some 3, .load N.zbn (T 2), 0, none, []⟩, ⟨some 4, .convert N.zbn t (T 3), 0, none, []⟩,
 ⟨some 5, .buildSlice st 1 #[(0, T 4)], 0, none, []⟩, ⟨some 6, .call ⟨.builtin .append, #[T 1, T 5], #[st, st]⟩, st, none, []⟩, ⟨some 7, .fieldAddr Tt (V 3) idx, 0, none, []⟩, ⟨none, .store st (T 7) (T 6), 0, none, []⟩]
def El.fe (Tt idx st q : Nat) : El → C
 | .row T' _ _ _ => .draw (lFr N m Tt idx st T' (mf T') q)
 | .pr k => match m with
  | .mk => .ops (lFn N Tt idx st (k.t N) q)
  | .fill => .skip
 | .txt _ => .skip
def cFarr (Tt idx i st : Nat) (e : El) (q k : Nat) : C := .seq
 (.ops [⟨some 0, .load N.zaa (V m.tv), 0, none, []⟩, ⟨some 1, .call ⟨.value (.func L.f_at), #[T 0, .const (.int .i64 i)], #[N.zaa, N.ze]⟩, N.zaa, none, []⟩, ⟨some 2, .field N.zaa (T 1) 2, 0, none, []⟩, ⟨some (q + 100), .unOp .not N.zaq (T 2), 0, none, []⟩])
 (.cond q (.seq (.ops (m.pre N L i ++ ([⟨some (m.x + 1), .field N.zaa (T m.x) 3, 0, none, []⟩, ⟨some (m.x + 2), .call ⟨.builtin .len, #[T (m.x + 1)], #[N.zbh]⟩, N.ze, none, []⟩, ⟨some (m.x + 3), .makeSlice st (.const (.int .i64 0)) (T (m.x + 2)), 0, none, []⟩] ++ m.post Tt idx st (m.x + 3))))
  (.seq (.ops [⟨some 0, .load N.zaa (V m.tv), 0, none, []⟩, ⟨some 1, .call ⟨.value (.func L.f_at), #[T 0, .const (.int .i64 i)], #[N.zaa, N.ze]⟩, N.zaa, none, []⟩, ⟨some (q + 1 + 100), .field N.zaa (T 1) 3, 0, none, []⟩,
    ⟨some (q + 2 + 100), .call ⟨.builtin .len, #[V (q + 1)], #[N.zbh]⟩, N.ze, none, []⟩, ⟨some (q + 3 + 100), .move (.const (.int .i64 0)), 0, none, []⟩])
   (zny N (q + 3) (q + 2) (q + 4) k (.seq (.ops [⟨some 0, .indexAddr N.zbh (V (q + 1)) (V (q + 3)), 0, none, []⟩, ⟨some 1, .load N.zaa (T 0), 0, none, []⟩, ⟨some (q + 5 + 100), .alloc N.zaa, 0, none, []⟩, ⟨none, .store N.zaa (V (q + 5)) (T 1), 0, none, []⟩])
    (e.fe N mf m Tt idx st q))))) .skip)
def lFg (Tt idx q : Nat) : C := match m with
 | .fill => .draw [⟨some 0, .move (V 0), 0, none, []⟩, ⟨some 1, .nilCheck (T 0), 0, none, [0]⟩, ⟨some 2, .fieldAddr Tt (T 1) idx, 0, none, [1]⟩, ⟨some 3, .fieldAddr N.zcr (V (q + 4)) 0, 0, none, []⟩, ⟨some 4, .load N.zc (T 3), 0, none, [3]⟩, ⟨some 5, .fieldAddr N.zcr (V (q + 4)) 1, 0, none, []⟩, ⟨some 6, .load N.za (T 5), 0, none, [5]⟩,
   ⟨some 7, .call ⟨.value (.func N.zdn), #[T 2, T 4, T 6], #[N.zcq, N.zc, N.za]⟩, N.t_, none, [2, 4, 6]⟩]
 | .mk => .ops [⟨some 0, .fieldAddr Tt (V 3) idx, 0, none, []⟩, ⟨some 1, .fieldAddr N.zcr (V (q + 4)) 0, 0, none, []⟩, ⟨some 2, .load N.zc (T 1), 0, none, []⟩, ⟨some 3, .fieldAddr N.zcr (V (q + 4)) 1, 0, none, []⟩, ⟨some 4, .load N.za (T 3), 0, none, []⟩,
   ⟨some 5, .call ⟨.value (.func N.zdn), #[T 0, T 2, T 4], #[N.zcq, N.zc, N.za]⟩, N.t_, none, []⟩]
def cFtag (Tt idx q k : Nat) : C := .seq (.ops [⟨some 0, .fieldAddr N.zaa (V m.tv) 4, 0, none, []⟩, ⟨some (q + 100), .load N.zbt (T 0), 0, none, []⟩, ⟨some (q + 1 + 100), .call ⟨.builtin .len, #[V q], #[N.zbt]⟩, N.ze, none, []⟩, ⟨some (q + 2 + 100), .move (.const (.int .i64 0)), 0, none, []⟩])
 (zny N (q + 2) (q + 1) (q + 3) k (.seq (.ops [⟨some 0, .indexAddr N.zbt (V q) (V (q + 2)), 0, none, []⟩, ⟨some 1, .load N.zcr (T 0), 0, none, []⟩, ⟨some (q + 4 + 100), .alloc N.zcr, 0, none, []⟩, ⟨none, .store N.zcr (V (q + 4)) (T 1), 0, none, []⟩]) (lFg N m Tt idx q)))
def Ty.fvn : Ty → Nat
 | .arr .. => 6
 | _ => 0
def Ty.fbn : Ty → Nat
 | .arr .. => 2
 | _ => 0
def Ty.fgen (Tt idx i q k : Nat) : Ty → C
 | .pr p _ => .ops (m.pre N L i ++ (p.lf N L m.x ++ m.post Tt idx (p.t N) (p.ly m.x)))
 | .txt t => .ops (m.pre N L i ++ (t.lf N L m.x ++ m.post Tt idx (t.t N) (t.ly m.x)))
 | .tv _ => .ops (m.pre N L i ++ (Txt.nstr.lf N L m.x ++ m.post Tt idx (Txt.nstr.t N) (Txt.nstr.ly m.x)))
 | .arr st _ e => cFarr N L mf m Tt idx i st e q k
 | .row .. => .skip
def Fds.fgen (Tt : Nat) : Fds → (idx i q k : Nat) → List C
 | .nil, _, _, _, _ => []
 | .tags, idx, _, q, k => [cFtag N m Tt idx q k]
 | .cons _ ty r, idx, i, q, k => ty.fgen N L mf m Tt idx i q k :: r.fgen Tt (idx + 1) (i + 1) (q + ty.fvn) (k + ty.fbn)
def Msg.fillC (g : Msg) : C := seqs (.ops [⟨some 102, .box N.zaa (V 1), 0, none, []⟩] :: g.fs.fgen N L mf .fill g.tT 1 0 3 0)
def Fds.mkC (fs : Fds) (T' : Nat) : C := seqs ([.ops [⟨some 101, .box N.zaa (V 0), 0, none, []⟩, ⟨some 102, .alloc T', 0, none, []⟩], .ops [⟨some 103, .alloc T', 0, none, []⟩]] ++ fs.fgen N L mf .mk T' 0 0 4 0 ++
 [.ops [⟨some 0, .load T' (V 3), 0, none, []⟩, ⟨none, .store T' (V 2) (T 0), 0, none, []⟩], .ret])
end
theorem runR_app {P : Program} : ∀ (a b : List ROp) {ρ : Env} {w : World} {K : Env → World → Prop}, runR P (a ++ b) ρ w K = runR P a ρ w fun ρ w => runR P b ρ w K
 | [], _, _, _, _ => rfl
 | o :: a, b, ρ, w, K => by
  simp only [List.cons_append, runR]
  congr 1
  funext ρ w
  exact runR_app a b
section
variable {P : Program} {N : Nums} {M : zaz} {L : zen}
def MidR (P : Program) (mid : List ROp) (x y : Nat) (wS : World) (cx : List Value) (tx : Tr) (R : World → Value → World → Prop) : Prop :=
 ∀ (ρ : Env) (w : World) (K : Env → World → Prop), Mod wS w zw → RepA wS tx cx → ρ x = .agg cx.toArray → (∀ ρ' w' v, (∀ t, t ≤ x ∨ 100 ≤ t → ρ' t = ρ t) → ρ' y = v → Mod w w' zw → R w v w' → K ρ' w') → runR P mid ρ w K
structure TrF (P : Program) (N : Nums) : Prop where
 f0 : FP P N.zaa 0 0
 f1 : FP P N.zaa 1 1
 f2 : FP P N.zaa 2 2
 f3 : FP P N.zaa 3 3
structure FC (P : Program) (N : Nums) (m : FM) (wS w0 : World) (bT : Nat) (ct : List Value) (t : Tr) (b off n : Nat) (σ0 : Env) : Prop where
 tv : σ0 m.tv = .pointer (some ⟨bT, 0, none⟩)
 sv : σ0 m.sv = .pointer (some ⟨b, 0, none⟩)
 tr : w0.rangeAt bT 0 ct
 lT : bT < w0.heap.size
 ne : bT ≠ b
 rep : RepA wS t ct
 mS : Mod wS w0 zw
 bS : wS.heap.size ≤ b
 b0 : b < w0.heap.size
 th : w0.there b off n
def GV (wS w0 w : World) : Nat → Prop := GN (GS wS) w0.heap.size w.heap.size
structure FSt (m : FM) (wS w0 : World) (b off n : Nat) (σ0 : Env) (vs : List Val) (pos : Nat) (rest : List Value) (σ : Env) (w : World) : Prop where
 ag : Ag m.q0 σ0 σ
 mod : Mod w0 w (fun k o => k = b ∧ off ≤ o)
 ex : ∃ css, w.rangeAt b off (css.flatten ++ rest) ∧ RepL w (GV wS w0 w) vs css ∧ off + css.flatten.length = pos ∧ css.flatten.length + rest.length = n
theorem FSt.trw {m : FM} {wS w0 w : World} {bT b off n pos : Nat} {ct : List Value} {t : Tr} {σ0 σ : Env} {vs : List Val} {rest : List Value} (c : FC P N m wS w0 bT ct t b off n σ0) (h : FSt m wS w0 b off n σ0 vs pos rest σ w) : w.rangeAt bT 0 ct ∧ Mod wS w zw :=
 ⟨h.mod.rangeAt c.lT (fun _ _ _ e => c.ne e.1) c.tr, c.mS.fresh h.mod fun k o e => by have := e.1; have := c.bS; omega⟩
theorem FSt.put {m : FM} {wS w0 w w1 : World} {bT b off n pos : Nat} {ct cs z : List Value} {t : Tr} {σ0 σ : Env} {vs : List Val} {x : Val} {rest : List Value} (c : FC P N m wS w0 bT ct t b off n σ0) (h : FSt m wS w0 b off n σ0 vs pos (z ++ rest) σ w) (m1 : Mod w w1 zw) (hl : cs.length = z.length) (hx : Rep w1 (GV wS w0 w1) x cs) :
  w1.there b pos z.length ∧ FSt m wS w0 b off n σ0 (vs ++ [x]) (pos + z.length) rest σ (w1.setCells b pos cs) := by
 obtain ⟨ag, mod, css, hr, hrep, hpos, hn⟩ := h
 have s0 := mod.size
 have s1 := m1.size
 have hb0 := c.b0
 have hbS := c.bS
 have ms : Mod w1 (w1.setCells b pos cs) (rng b pos cs.length) := Mod.setCells _ _ _ fun _ i h1 h2 => ⟨rfl, h1, h2⟩
 have hsz : (w1.setCells b pos cs).heap.size = w1.heap.size := zco _ _ _
 have hr1 := zh m1 hr
 rw [zx, hpos] at hr1
 rw [List.length_append] at hn
 have t1 : w1.there b off n := m1.there (by omega) (mod.there hb0 c.th)
 have hG : ∀ k, GV wS w0 w k → k < w.heap.size ∧ (∀ o : Nat, ¬ zw k o) ∧ GV wS w0 w1 k := fun k hk => ⟨by
  rcases hk with hk | hk
  ·have hk : k < wS.heap.size := hk
   omega
  ·exact hk.2, fun _ h => h, hk.imp id fun hk => ⟨hk.1, by have := hk.2; omega⟩⟩
 have hG2 : ∀ k, GV wS w0 w1 k → k < w1.heap.size ∧ (∀ o : Nat, ¬ rng b pos cs.length k o) ∧ GV wS w0 (w1.setCells b pos cs) k := fun k hk => by
  have h3 : k < w1.heap.size ∧ k ≠ b := by
   rcases hk with hk | hk
   ·have hk : k < wS.heap.size := hk
    omega
   ·have := hk.1; have := hk.2; omega
  exact ⟨h3.1, fun o e => h3.2 e.1, hk.imp id fun hk => ⟨hk.1, by rw [hsz]; exact hk.2⟩⟩
 refine ⟨fun j hj => ?_, ag, ?_, css ++ [cs], ?_, ?_, ?_, ?_⟩
 ·have := t1 (pos - off + j) (by omega)
  rwa [show off + (pos - off + j) = pos + j by omega] at this
 ·refine mod.trans ((m1.mono fun _ _ _ h => h.elim).trans' ((ms.mono fun k o _ e => ⟨e.1, e.2.1⟩) : Mod w1 _ (fun k o => k = b ∧ pos ≤ o))) fun k o _ h => h.elim id fun h => ⟨h.1, by have := h.2; omega⟩
 ·rw [List.flatten_append, List.append_assoc, zx, hpos]
  refine ⟨ms.rangeAt (by omega) (fun i h1 h2 e => by have := e.2.1; omega) hr1.1, ?_⟩
  have h4 := zar cs pos w1 (z ++ rest) hr1.2 (by rw [List.length_append]; omega)
  rw [hl, List.drop_left] at h4
  simpa using h4
 ·exact RepL.append (RepL.mod ms hG2 _ (RepL.mod m1 hG _ hrep)) ⟨cs, [], rfl, Rep.mod ms hG2 _ hx, rfl⟩
 ·rw [List.flatten_append, List.length_append, List.flatten_cons, List.flatten_nil, List.append_nil, hl]; omega
 ·rw [List.flatten_append, List.length_append, List.flatten_cons, List.flatten_nil, List.append_nil, hl]; omega
end
end Go.Kf
