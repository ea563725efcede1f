/- A part of the calculus by which the claim's proof goes: over any program and any numbering of its functions; no condition beyond those that each theorem names. -/
import Derived.ChangeArms
import Derived.Test.YtdlfgheckhmgiaaDoorVe
set_option linter.unusedSimpArgs false
set_option linter.unusedVariables false
namespace Go.Kf
open Go Go.RowKit
section
variable {P : Program} {N : Nums} {M : zci}
theorem fld_box (S : SpT P N M) {w : World} {fv : Value} {fs : List Fld} (hf : zgs w fv fs) {j : Nat} (hj : j < fs.length) :
  ∃ b o c cs w1 w2, fv = .slice (some ⟨b, o, none⟩) fs.length c ∧ RepF w fs[j] cs ∧ (∀ w', (Instr.indexAt M.zae fv (.int .i64 j)).run P w' = .ok (.pointer (some ⟨b, o + j * 8, none⟩)) w') ∧
   (Instr.loadAt M.zg (.pointer (some ⟨b, o + j * 8, none⟩))).run P w = .ok (.agg cs.toArray) w ∧ (∀ old : Value, (Instr.alloc M.zg true old).run P w = .ok (.pointer (some ⟨w.heap.size, 0, none⟩)) w1) ∧
   (Instr.storeAt M.zg (.pointer (some ⟨w.heap.size, 0, none⟩)) (.agg cs.toArray)).run P w1 = .ok () w2 ∧ Mod w w2 zp ∧ w2.heap.size = w.heap.size + 1 ∧ w2.rangeAt w.heap.size 0 cs := by
 obtain ⟨b, o, c, cs, hv, hr, hg⟩ := hf.get (List.getElem?_eq_getElem hj)
 obtain ⟨fs', hti⟩ := S.fld.out
 have hld := hti.1.run_load (w := w) (b := b) (o := o + j * 8) hg hr.len (fun h => by cases h)
 have hlv : ldv (.struct fs') cs = .agg cs.toArray := rfl
 rw [hlv] at hld
 obtain ⟨w1, w2, hal, hst, _, m02, s2, r2, _⟩ := zuv (cs := cs) hti.1 (by decide) rfl hr.len hr.ones w
 exact ⟨b, o, c, cs, w1, w2, hv, hr, fun w' => by rw [hv]; exact zab S.lf hti.1 hj, hld, hal, hst, m02, s2, r2⟩
theorem fld_load (S : SpT P N M) {w : World} {b : Nat} {cs : List Value} (h : w.rangeAt b 0 cs) (hl : cs.length = 8) : (Instr.loadAt M.zg (.pointer (some ⟨b, 0, none⟩))).run P w = .ok (.agg cs.toArray) w := by
 obtain ⟨fs', hti⟩ := S.fld.out
 have hld := hti.1.run_load (w := w) (b := b) (o := 0) h hl (fun h => by cases h)
 rw [hld]; rfl
theorem sp_known (B : Base P N) (S : SpT P N M) (hF : FOk P M.zhp 1 (zlq N M) [.var 1]) {w : World} {fv : Value} {fs : List Fld} (hf : zgs w fv fs) (hl : fs.length < 4611686018427387904) (ht : ∀ f ∈ fs, f.tag < 0) :
  Call P M.zhp #[fv] w fun r w' => r = .int .u32 0 ∧ Mod w w' zp := by
 refine hF.call rfl fun loc N' hlo => ?_
 unfold zlq
 refine zd fun K hK => zav (hK _ _ ?_)
 clear hK K
 refine zd fun K hK => zav (hK _ _ ?_)
 clear hK K
 obtain ⟨σ, hσ⟩ : ∃ σ, σ = upd (upd (zda #[fv]) 1 (.int .u32 0)) 2 (.int .u32 0) := ⟨_, rfl⟩
 have f0 : σ 0 = fv := by rw [hσ, zi (by decide), zi (by decide)]; rfl
 have f2 : σ 2 = .int .u32 0 := by rw [hσ, upd_same]
 rw [← hσ]
 clear hσ
 refine zd fun K hK => zd fun K1 hK1 => zaa fun τ => ?_
 simp +decide only [bK, bE, BEq.rfl, Nat.reduceAdd, Nat.zero_add, f0, hf.run_len S]
 refine hK1 _ _ (zf fun σ2 hσ => ?_)
 have p2 := hσ 2
 have p3 := hσ 3
 have p4 := hσ 4
 have p5 := hσ 5
 simp +decide only [bE, Nat.reduceBeqDiff, BEq.rfl, Nat.reduceAdd, f2] at p2 p3 p4 p5
 clear hσ hK1 K1 f0 f2
 refine zkb (i := 5) (l := 4) (c := 6) (k := 0) hlo (L := fs.length) hl (fun j σ w' => σ 2 = .int .u32 0 ∧ σ 3 = fv ∧ σ 4 = .int .i64 fs.length ∧ σ 5 = .int .i64 j ∧ j ≤ fs.length ∧ Mod w w' zp) (fun j σ w h => ⟨h.2.2.2.1, h.2.2.1, h.2.2.2.2.1⟩) (fun j σ w b h => ?_) ⟨p2, p3, p4, p5, Nat.zero_le _, .refl _ _⟩ (fun σ' w' h => hK _ _ ?_) (fun j σ' w' hj h => ?_)
 ·obtain ⟨z, a, b, c, d, e⟩ := h
  exact ⟨by rw [zi (by decide)]; exact z, by rw [zi (by decide)]; exact a, by rw [zi (by decide)]; exact b, by rw [zi (by decide)]; exact c, d, e⟩
 ·refine zd fun K3 hK3 => zaa fun τ => ?_
  simp +decide only [bK, bE, BEq.rfl, Nat.reduceAdd, h.1]
  refine hK3 _ _ (zf fun σ7 hσ => zbx ⟨.inr rfl, _, rfl, ?_⟩)
  have q := hσ 1
  simp +decide only [bE, BEq.rfl, Nat.reduceAdd] at q
  exact ⟨q, h.2.2.2.2.2⟩
 ·obtain ⟨z, a, b, c, d, e⟩ := h
  obtain ⟨bb, oo, cc, cs, w1, w2, hv, hr, hix, hld, hal, hst, m02, s2, r2⟩ := fld_box S (hf.stay e) hj
  obtain ⟨gv, rfl, hgv⟩ := hr.out
  refine zd fun K4 hK4 => zaa fun τ => ?_
  simp +decide only [bK, bE, Nat.reduceBeqDiff, BEq.rfl, Nat.reduceAdd, Nat.zero_add, a, c, hix, hld, hal, hst]
  refine hK4 _ _ (zf fun σ3 hσ => ?_)
  have q2 := hσ 2
  have q3 := hσ 3
  have q4 := hσ 4
  have q5 := hσ 5
  have q7 := hσ 7
  simp +decide only [bE, Nat.reduceBeqDiff, BEq.rfl, Nat.reduceAdd, z, a, b, c] at q2 q3 q4 q5 q7
  clear hσ hK4 K4
  have hneg : ¬ (fs[j]).tag ≥ 0 := by have := ht _ (List.getElem_mem hj); omega
  refine zd fun K4 hK4 => zaa fun τ => ?_
  simp +decide only [bK, bE, decide_false, BEq.rfl, Nat.reduceAdd, Nat.zero_add, q7, S.f4.run, B.int.run_load1 rfl, r2 4 _ rfl, hneg]
  refine hK4 _ _ (zf fun σ4 hσ => ?_)
  have k2 := hσ 2
  have k3 := hσ 3
  have k4 := hσ 4
  have k5 := hσ 5
  have k8 := hσ 8
  simp +decide only [bE, Nat.reduceBeqDiff, BEq.rfl, Nat.reduceAdd, q2, q3, q4, q5] at k2 k3 k4 k5 k8
  refine W_if hlo k8 ?_
  simp only [Bool.false_eq_true, if_false]
  refine zbw ⟨k5, ?_, ?_, ?_, upd_same _ _ _, by omega, e.trans' m02⟩
  ·rw [zi (by decide)]; exact k2
  ·rw [zi (by decide)]; exact k3
  ·rw [zi (by decide)]; exact k4
end
def OwnT (w : World) (lo : Nat) (v : Value) (a : List (Nat × List UInt8)) : Prop := ∃ cs, Own w lo 2 v a.length cs ∧ UsA w a cs
theorem OwnT.at {w : World} {lo : Nat} {v : Value} {a : List (Nat × List UInt8)} (h : OwnT w lo v a) {i : Nat} {x : Nat × List UInt8} (hi : a[i]? = some x) : ∃ b c, v = .slice (some ⟨b, 0, none⟩) a.length c ∧ w.cell? ⟨b, i * 2, none⟩ = some (.int .u32 x.1) := by
 obtain ⟨cs, ho, hu⟩ := h
 rcases ho with ⟨_, e, _⟩ | ⟨b, c, e, _, _, _, _, hr, _⟩
 ·rw [List.length_eq_zero_iff.1 e] at hi; simp at hi
 ·obtain ⟨s, g1, _, _⟩ := hu.get hi
  refine ⟨b, c, e, ?_⟩
  have := hr _ _ g1
  rwa [Nat.zero_add] at this
theorem OwnT.stay {w w' : World} (m : Mod w w' zp) {lo : Nat} {v : Value} {a : List (Nat × List UInt8)} (h : OwnT w lo v a) : OwnT w' lo v a := by
 obtain ⟨cs, ho, hu⟩ := h
 exact ⟨cs, ho.stay m fun _ _ _ h => h, hu.stay m⟩
section
variable {P : Program} {N : Nums} {M : zci}
theorem OwnT.run_len (S : SpT P N M) {w w' : World} {lo : Nat} {v : Value} {a : List (Nat × List UInt8)} (h : OwnT w lo v a) {ty : TypeId} : (Builtin.len_ #[N.zh] ty #[v]).run P w' = .ok (.int .i64 a.length) w' := by
 obtain ⟨cs, ho, _⟩ := h
 rcases ho with ⟨rfl, e, _⟩ | ⟨b, c, rfl, _⟩
 ·rw [e]; exact S.tr.lg.run_len
 ·exact S.tr.lg.run_len
def cU1 (N : Nums) : C := .draw [
 ⟨some 0, .move (V 10), 0, none, []⟩,
 ⟨some 1, .move (V 4), 0, none, []⟩,
 ⟨some 2, .call ⟨.builtin .len, #[T 1], #[N.zh]⟩, N.ze, none, [1]⟩,
 ⟨some 3, .binOp .lss N.ze (T 0) (T 2) N.ze, 0, none, [0, 2]⟩,
 ⟨some 4, .move (T 3), 0, none, [3]⟩,
 ⟨some 5, .move (V 4), 0, some (some 4, true), [4]⟩,
 ⟨some 6, .move (V 10), 0, some (some 4, true), [4]⟩,
 ⟨some 7, .indexAddr N.zh (T 5) (T 6), 0, some (some 4, true), [5, 6, 4]⟩,
 ⟨some 8, .fieldAddr N.zz (T 7) 0, 0, some (some 4, true), [7, 4]⟩,
 ⟨some 9, .load N.zj (T 8), 0, some (some 4, true), [8, 4]⟩,
 ⟨some 10, .fieldAddr N.zz (V 9) 0, 0, some (some 4, true), [4]⟩,
 ⟨some 11, .load N.zj (T 10), 0, some (some 4, true), [10, 4]⟩,
 ⟨some 12, .binOp .lss N.zj (T 9) (T 11) N.zj, 0, some (some 4, true), [9, 11, 4]⟩,
 ⟨some 111, .pick (T 4) (T 12) (.const (.bool false)), 0, none, [4, 12]⟩]
theorem W_U1 (B : Base P N) (S : SpT P N M) {loc : List Nat} {N' : Nat} {Q : Exit → Env → World → Prop} {σ : Env} {w : World} {lo b9 i k : Nat} {v : Value} {a : List (Nat × List UInt8)} (f4 : σ 4 = v) (f9 : σ 9 = .pointer (some ⟨b9, 0, none⟩)) (f10 : σ 10 = .int .i64 i)
  (ho : OwnT w lo v a) (h9 : w.cell? ⟨b9, 0, none⟩ = some (.int .u32 k))
  (hQ : ∀ σ' : Env, σ' 11 = .bool (match a[i]? with | some x => decide (x.1 < k) | none => false) → (∀ i, i ≠ 11 → σ' i = σ i) → Q .normal σ' w.drew) : W P loc N' (cU1 N) Q σ w := by
 obtain ⟨fs, hT⟩ := S.tr.tu
 have ho' := ho.stay (Mod.drew w zp)
 have h9' : w.drew.cell? ⟨b9, 0, none⟩ = some (.int .u32 k) := h9
 refine zse B.mixed (by kernel_rfl) fun τ => ?_
 by_cases hi : i < a.length
 ·have hx := List.getElem?_eq_getElem hi
  obtain ⟨b, c, hv, hc⟩ := ho'.at hx
  rw [hx] at hQ
  have hlt : ((i : Int) < (a.length : Int)) := by omega
  have hix := fun {w : World} => zab (P := P) (w := w) S.tr.lg hT (bl := b) (o := 0) (n := a.length) (c := c) (i := i) (k := .i64) hi
  have hln := ho'.run_len S (w' := w.drew) (ty := N.ze)
  rw [hv] at f4 hln
  simp +decide only [bK, bE, zfa, Nat.reduceBeqDiff, decide_true, BEq.rfl, Nat.reduceAdd, Nat.add_zero, Nat.zero_add, if_true, true_and, f4, f9, f10, hln, hlt, zas, hix, S.tr.g0.run, B.uint32.run_load1 rfl, hc, h9', zcc]
  refine zf (K := fun σ' w' => Q .normal σ' w') fun σ' hσ => hQ _ ?_ fun j hj => ?_
  ·have := hσ 11
   simp +decide only [bE, BEq.rfl, Nat.reduceAdd] at this
   rw [this]
   simp
  ·rw [hσ]
   have e1 : (j + 100 == 111) = false := beq_eq_false_iff_ne.2 (by omega)
   simp +decide only [bE, Nat.reduceBeqDiff, e1]
 ·have hx : a[i]? = none := List.getElem?_eq_none (by omega)
  rw [hx] at hQ
  have hlt : ¬ ((i : Int) < (a.length : Int)) := by omega
  have hln := ho'.run_len S (w' := w.drew) (ty := N.ze)
  simp +decide only [bK, bE, zfa, Nat.reduceBeqDiff, decide_false, BEq.rfl, Nat.reduceAdd, if_false, true_and, f4, f10, hln, hlt, zbs, Bool.not_true, zcc]
  refine zf (K := fun σ' w' => Q .normal σ' w') fun σ' hσ => hQ _ ?_ fun j hj => ?_
  ·have := hσ 11
   simp +decide only [bE, BEq.rfl, Nat.reduceAdd] at this
   rw [this]
  ·rw [hσ]
   have e1 : (j + 100 == 111) = false := beq_eq_false_iff_ne.2 (by omega)
   simp +decide only [bE, Nat.reduceBeqDiff, e1]
def cU2 (N : Nums) : C := .draw [
 ⟨some 0, .fieldAddr N.zz (V 9) 0, 0, none, []⟩,
 ⟨some 1, .load N.zj (T 0), 0, none, [0]⟩,
 ⟨some 2, .move (V 3), 0, none, []⟩,
 ⟨some 3, .binOp .lss N.zj (T 1) (T 2) N.zj, 0, none, [1, 2]⟩,
 ⟨some 4, .move (T 3), 0, none, [3]⟩,
 ⟨some 5, .move (V 10), 0, some (some 4, false), [4]⟩,
 ⟨some 6, .move (V 4), 0, some (some 4, false), [4]⟩,
 ⟨some 7, .call ⟨.builtin .len, #[T 6], #[N.zh]⟩, N.ze, some (some 4, false), [6, 4]⟩,
 ⟨some 8, .binOp .lss N.ze (T 5) (T 7) N.ze, 0, some (some 4, false), [5, 7, 4]⟩,
 ⟨some 9, .move (T 8), 0, some (some 4, false), [8, 4, 4]⟩,
 ⟨some 10, .move (V 4), 0, some (some 9, true), [9]⟩,
 ⟨some 11, .move (V 10), 0, some (some 9, true), [9]⟩,
 ⟨some 12, .indexAddr N.zh (T 10) (T 11), 0, some (some 9, true), [10, 11, 9]⟩,
 ⟨some 13, .fieldAddr N.zz (T 12) 0, 0, some (some 9, true), [12, 9]⟩,
 ⟨some 14, .load N.zj (T 13), 0, some (some 9, true), [13, 9]⟩,
 ⟨some 15, .fieldAddr N.zz (V 9) 0, 0, some (some 9, true), [9]⟩,
 ⟨some 16, .load N.zj (T 15), 0, some (some 9, true), [15, 9]⟩,
 ⟨some 17, .binOp .eql N.zj (T 14) (T 16) N.zj, 0, some (some 9, true), [14, 16, 9]⟩,
 ⟨some 18, .pick (T 9) (T 17) (.const (.bool false)), 0, some (some 4, false), [9, 17, 4]⟩,
 ⟨some 112, .pick (T 4) (.const (.bool true)) (T 18), 0, none, [4, 18]⟩]
theorem W_U2 (B : Base P N) (S : SpT P N M) {loc : List Nat} {N' : Nat} {Q : Exit → Env → World → Prop} {σ : Env} {w : World} {lo b9 i k : Nat} {v : Value} {a : List (Nat × List UInt8)} (f3 : σ 3 = .int .u32 0) (f4 : σ 4 = v) (f9 : σ 9 = .pointer (some ⟨b9, 0, none⟩)) (f10 : σ 10 = .int .i64 i)
  (ho : OwnT w lo v a) (h9 : w.cell? ⟨b9, 0, none⟩ = some (.int .u32 k))
  (hQ : ∀ σ' : Env, σ' 12 = .bool (match a[i]? with | some x => decide (x.1 = k) | none => false) → (∀ i, i ≠ 12 → σ' i = σ i) → Q .normal σ' w.drew) : W P loc N' (cU2 N) Q σ w := by
 obtain ⟨fs, hT⟩ := S.tr.tu
 have ho' := ho.stay (Mod.drew w zp)
 have h9' : w.drew.cell? ⟨b9, 0, none⟩ = some (.int .u32 k) := h9
 have hk : ¬ ((k : Int) < 0) := by omega
 refine zse B.mixed (by kernel_rfl) fun τ => ?_
 by_cases hi : i < a.length
 ·have hx := List.getElem?_eq_getElem hi
  obtain ⟨b, c, hv, hc⟩ := ho'.at hx
  rw [hx] at hQ
  have hlt : ((i : Int) < (a.length : Int)) := by omega
  have hix := fun {w : World} => zab (P := P) (w := w) S.tr.lg hT (bl := b) (o := 0) (n := a.length) (c := c) (i := i) (k := .i64) hi
  have hln := ho'.run_len S (w' := w.drew) (ty := N.ze)
  rw [hv] at f4 hln
  simp +decide only [bK, bE, zfa, Nat.reduceBeqDiff, decide_true, decide_false, BEq.rfl, Nat.reduceAdd, Nat.add_zero, Nat.zero_add, if_false, if_true, true_and, f3, f4, f9, f10, hln, hlt, hk, zas, hix, S.tr.g0.run, B.uint32.run_load1 rfl, hc, h9', zcc]
  refine zf (K := fun σ' w' => Q .normal σ' w') fun σ' hσ => hQ _ ?_ fun j hj => ?_
  ·have := hσ 12
   simp +decide only [bE, BEq.rfl, Nat.reduceAdd] at this
   rw [this]
   by_cases e : (a[i]).1 = k
   ·simp [e]
   ·have : ¬ (((a[i]).1 : Int) = (k : Int)) := by omega
    simp [e, this]
  ·rw [hσ]
   have e1 : (j + 100 == 112) = false := beq_eq_false_iff_ne.2 (by omega)
   simp +decide only [bE, Nat.reduceBeqDiff, e1]
 ·have hx : a[i]? = none := List.getElem?_eq_none (by omega)
  rw [hx] at hQ
  have hlt : ¬ ((i : Int) < (a.length : Int)) := by omega
  have hln := ho'.run_len S (w' := w.drew) (ty := N.ze)
  simp +decide only [bK, bE, zfa, Nat.reduceBeqDiff, decide_false, BEq.rfl, Nat.reduceAdd, Nat.add_zero, if_false, true_and, f3, f4, f9, f10, hln, hlt, hk, h9', S.tr.g0.run, B.uint32.run_load1 rfl, zas, zbs, Bool.not_true, zcc]
  refine zf (K := fun σ' w' => Q .normal σ' w') fun σ' hσ => hQ _ ?_ fun j hj => ?_
  ·have := hσ 12
   simp +decide only [bE, BEq.rfl, Nat.reduceAdd] at this
   rw [this]
  ·rw [hσ]
   have e1 : (j + 100 == 112) = false := beq_eq_false_iff_ne.2 (by omega)
   simp +decide only [bE, Nat.reduceBeqDiff, e1]
end
theorem zwb {k : Nat} {x : List UInt8} : ∀ {a : List (Nat × List UInt8)} {i : Nat} {y : Nat × List UInt8}, (∀ j z, j < i → a[j]? = some z → z.1 < k) → a[i]? = some y → y.1 = k → insT k x a = a
 | [], i, y, _, h, _ => by simp at h
 | (k', l) :: a, 0, y, _, h, e => by
  simp at h; subst h
  have e : k' = k := e
  subst e
  simp [insT]
 | (k', l) :: a, i + 1, y, hj, h, e => by
  have h0 : k' < k := hj 0 (k', l) (by omega) rfl
  rw [insT, if_pos h0, zwb (i := i) (fun j z hji hz => hj (j + 1) z (by omega) (by simpa using hz)) (by simpa using h) e]
theorem insT_new {k : Nat} {x : List UInt8} : ∀ {a : List (Nat × List UInt8)} {i : Nat}, i ≤ a.length → (∀ j z, j < i → a[j]? = some z → z.1 < k) → (∀ y, a[i]? = some y → k < y.1) → insT k x a = a.take i ++ (k, x) :: a.drop i
 | [], i, hi, _, _ => by
  have : i = 0 := by simpa using hi
  subst this; simp [insT]
 | (k', l) :: a, 0, _, _, h => by
  have h0 : k < k' := h (k', l) rfl
  simp [insT, show ¬ k' < k by omega, show k' ≠ k by omega]
 | (k', l) :: a, i + 1, hi, hj, h => by
  have h0 : k' < k := hj 0 (k', l) (by omega) rfl
  rw [insT, if_pos h0, insT_new (i := i) (by simpa using hi) (fun j z hji hz => hj (j + 1) z (by omega) (by simpa using hz)) (fun y hy => h y (by simpa using hy))]
  simp
theorem insT_len (k : Nat) (x : List UInt8) : ∀ (a : List (Nat × List UInt8)), (insT k x a).length ≤ a.length + 1
 | [] => by simp [insT]
 | (k', l) :: a => by
  have := insT_len k x a
  simp only [insT]
  split
  ·simp; omega
  ·split <;> simp
def TgA (w : World) (x : Nat × List UInt8) (p : List Value) : Prop := ∃ s, p = [.int .u32 x.1, s] ∧ OctA w s x.2
def TgsA (w : World) : List (Nat × List UInt8) → List (List Value) → Prop
 | [], ps => ps = []
 | x :: r, ps => ∃ p q, ps = p :: q ∧ TgA w x p ∧ TgsA w r q
theorem TgsA.us {w : World} : ∀ {a : List (Nat × List UInt8)} {ps : List (List Value)}, TgsA w a ps → UsA w a ps.flatten
 | [], ps, h => by rw [show ps = [] from h]; rfl
 | (k, l) :: r, ps, ⟨p, q, e, ⟨s, e1, h1⟩, h2⟩ => by
  subst e e1
  exact ⟨s, q.flatten, rfl, h1, h2.us⟩
theorem TgsA.length {w : World} : ∀ {a : List (Nat × List UInt8)} {ps : List (List Value)}, TgsA w a ps → ps.length = a.length
 | [], ps, h => by rw [show ps = [] from h]; rfl
 | x :: r, ps, ⟨p, q, e, _, h2⟩ => by subst e; simp [h2.length]
theorem TgsA.two {w : World} : ∀ {a : List (Nat × List UInt8)} {ps : List (List Value)}, TgsA w a ps → ∀ p ∈ ps, p.length = 2 ∧ ∀ c ∈ p, c.oneCell' = true
 | [], ps, h, p, hp => by rw [show ps = [] from h] at hp; cases hp
 | x :: r, ps, ⟨p', q, e, ⟨s, e1, h1⟩, h2⟩, p, hp => by
  subst e
  rcases List.mem_cons.1 hp with rfl | hp
  ·subst e1
   exact ⟨rfl, fun c hc => by
    simp at hc
    rcases hc with rfl | rfl
    ·rfl
    ·exact h1.one⟩
  ·exact h2.two p hp
theorem TgsA.append {w : World} : ∀ {a b : List (Nat × List UInt8)} {ps qs : List (List Value)}, TgsA w a ps → TgsA w b qs → TgsA w (a ++ b) (ps ++ qs)
 | [], b, ps, qs, h, h' => by rw [show ps = [] from h]; exact h'
 | x :: r, b, ps, qs, ⟨p, q, e, h1, h2⟩, h' => by subst e; exact ⟨p, q ++ qs, rfl, h1, h2.append h'⟩
theorem TgsA.take {w : World} : ∀ {a : List (Nat × List UInt8)} {ps : List (List Value)} (i : Nat), TgsA w a ps → TgsA w (a.take i) (ps.take i)
 | [], ps, i, h => by rw [show ps = [] from h]; simp [TgsA]
 | x :: r, ps, 0, _ => by simp [TgsA]
 | x :: r, ps, i + 1, ⟨p, q, e, h1, h2⟩ => by subst e; exact ⟨p, q.take i, by simp, h1, h2.take i⟩
theorem TgsA.drop {w : World} : ∀ {a : List (Nat × List UInt8)} {ps : List (List Value)} (i : Nat), TgsA w a ps → TgsA w (a.drop i) (ps.drop i)
 | [], ps, i, h => by rw [show ps = [] from h]; simp [TgsA]
 | x :: r, ps, 0, h => by simpa using h
 | x :: r, ps, i + 1, ⟨p, q, e, h1, h2⟩ => by subst e; simpa using h2.drop i
theorem TgsA.stay {w w' : World} (m : Mod w w' zp) : ∀ {a : List (Nat × List UInt8)} {ps : List (List Value)}, TgsA w a ps → TgsA w' a ps
 | [], ps, h => h
 | x :: r, ps, ⟨p, q, e, ⟨s, e1, h1⟩, h2⟩ => ⟨p, q, e, ⟨s, e1, h1.stay m⟩, h2.stay m⟩
theorem flat2 : ∀ {ps : List (List Value)}, (∀ p ∈ ps, p.length = 2) → ps.flatten.length = ps.length * 2
 | [], _ => rfl
 | p :: ps, h => by
  rw [List.flatten_cons, List.length_append, h p (by simp), flat2 fun q hq => h q (by simp [hq]), List.length_cons]; omega
section
variable {P : Program} {N : Nums} {M : zci}
theorem zxp {et : TypeId} {fs : Array Field} {by' : Nat} {z : Value} (hT : TI P et (.struct fs) 2 by' z) {w : World} {lo n i : Nat} {v : Value} {A B : List (List Value)} {X Y : List Value}
  (ho : Own w lo 2 v n (A ++ X :: B).flatten) (h2 : ∀ p ∈ A ++ X :: B, p.length = 2) (hA : A.length = i) (hY : Y.length = 2) (h1 : ∀ c ∈ Y, c.oneCell' = true) :
  ∃ b c w', v = .slice (some ⟨b, 0, none⟩) n c ∧ i < n ∧ (Instr.loadAt et (.pointer (some ⟨b, 0 + i * 2, none⟩))).run P w = .ok (.agg X.toArray) w ∧ (Instr.storeAt et (.pointer (some ⟨b, 0 + i * 2, none⟩)) (.agg Y.toArray)).run P w = .ok () w' ∧ Own w' lo 2 v n (A ++ Y :: B).flatten ∧ Mod w w' (fun k _ => ¬ zao v k) ∧ w'.heap.size = w.heap.size := by
 have hX : X.length = 2 := h2 X (by simp)
 have hAl : A.flatten.length = i * 2 := by rw [flat2 fun p hp => h2 p (by simp [hp]), hA]
 have hBl : B.flatten.length = B.length * 2 := flat2 fun p hp => h2 p (by simp [hp])
 have htot : (A ++ X :: B).flatten.length = n * 2 := by
  rcases ho with ⟨_, e1, e2⟩ | ⟨b, c, _, _, _, _, _, _, e⟩
  ·rw [e2, e1]; rfl
  ·exact e
 rw [List.flatten_append, List.flatten_cons, List.length_append, List.length_append, hAl, hX, hBl] at htot
 rcases ho with ⟨_, e1, _⟩ | ⟨b, c, hv, hb1, hb2, hnc, hth, hrg, hcl⟩
 ·omega
 rw [List.flatten_append, List.flatten_cons, zq, zq, hAl, hX] at hrg
 obtain ⟨g1, g2, g3⟩ := hrg
 have hin : i < n := by omega
 have hld := hT.run_load (w := w) (b := b) (o := 0 + i * 2) g2 hX (fun h => by cases h)
 have hlv : ldv (.struct fs) X = .agg X.toArray := rfl
 rw [hlv] at hld
 have hst := hT.run_store (w := w) (b := b) (o := 0 + i * 2) (v := .agg Y.toArray) (cs := Y) rfl hY (fun j hj => by
  have := hth (i * 2 + j) (by have : i * 2 + 2 ≤ c * 2 := (by omega); omega)
  rw [show 0 + i * 2 + j = 0 + (i * 2 + j) by omega]; exact this) h1
 have ms : Mod w (w.setCells b (0 + i * 2) Y) (rng b (0 + i * 2) Y.length) := Mod.setCells _ _ _ fun _ k h1 h2 => ⟨rfl, h1, h2⟩
 refine ⟨b, c, _, hv, hin, hld, hst, .inr ⟨b, c, hv, hb1, Nat.lt_of_lt_of_le hb2 ms.size, hnc, ms.there hb2 hth, ?_, ?_⟩, ms.mono fun k o _ h hn => hn b 0 none n c hv h.1, zdo _ _ _⟩
 ·rw [List.flatten_append, List.flatten_cons, zq, zq, hAl, hY]
  refine ⟨ms.rangeAt hb2 (fun k h1 h2 h => by have := h.2.1; omega) g1, ?_, ms.rangeAt hb2 (fun k h1 h2 h => by have := h.2.2; omega) g3⟩
  have := zak Y (0 + i * 2) w X g2 (by omega)
  rwa [List.drop_of_length_le (by omega), List.append_nil] at this
 ·rw [List.flatten_append, List.flatten_cons, List.length_append, List.length_append, hAl, hY, hBl]; omega
end
section
variable {P : Program} {N : Nums} {M : zci}
def cShift (N : Nums) : C := .block 4 (.loop (.seq (.seq (.ops [⟨some 0, .move (V 13), 0, none, []⟩, ⟨some 1, .move (V 10), 0, none, []⟩, ⟨some 114, .binOp .gtr N.ze (T 0) (T 1) N.ze, 0, none, []⟩]) (.cond 14 .skip (.exit 4)))
 (.seq (.block 5 (.ops [⟨some 0, .move (V 4), 0, none, []⟩, ⟨some 1, .move (V 13), 0, none, []⟩, ⟨some 2, .move (V 4), 0, none, []⟩, ⟨some 3, .move (V 13), 0, none, []⟩, ⟨some 4, .binOp .sub N.ze (T 3) (.const (.int .i64 1)) N.ze, 0, none, []⟩, ⟨some 5, .indexAddr N.zh (T 2) (T 4), 0, none, []⟩, ⟨some 6, .load N.zz (T 5), 0, none, []⟩, ⟨some 7, .indexAddr N.zh (T 0) (T 1), 0, none, []⟩, ⟨none, .store N.zz (T 7) (T 6), 0, none, []⟩]))
  (.ops [⟨some 0, .move (V 13), 0, none, []⟩, ⟨some 1, .binOp .sub N.ze (T 0) (.const (.int .i64 1)) N.ze, 0, none, []⟩, ⟨some 113, .assign (T 1), 0, none, []⟩]))))
theorem W_shift (S : SpT P N M) {loc : List Nat} {N' : Nat} (hlo : zfo loc N') {Q : Exit → Env → World → Prop} {σ : Env} {w0 w : World} {v : Value} {i : Nat} {a : List (Nat × List UInt8)} {ps : List (List Value)} {g : List Value}
  (f4 : σ 4 = v) (f10 : σ 10 = .int .i64 i) (f13 : σ 13 = .int .i64 a.length) (hi : i ≤ a.length) (hn : a.length < 1099511627776) (m0 : Mod w0 w zp) (hps : TgsA w0 a ps) (hg : g.length = 2)
  (ho : Own w w0.heap.size 2 v (a.length + 1) (ps ++ [g]).flatten)
  (hQ : ∀ (σ' : Env) (w' : World) (g' : List Value), (∀ j, j ≠ 13 → j ≠ 14 → σ' j = σ j) → g'.length = 2 → Own w' w0.heap.size 2 v (a.length + 1) (ps.take i ++ g' :: ps.drop i).flatten → Mod w0 w' zp → Mod w w' (fun k _ => ¬ zao v k) → Q .normal σ' w') :
  W P loc N' (cShift N) Q σ w := by
 obtain ⟨fs, hT⟩ := S.tr.tu
 have hpl := hps.length
 have hp2 := hps.two
 refine zeb (zna (fun m σ' w' => ∃ k g', m = k ∧ i ≤ k ∧ k ≤ a.length ∧ g'.length = 2 ∧ (∀ j, j ≠ 13 → j ≠ 14 → σ' j = σ j) ∧ σ' 13 = .int .i64 k ∧ Own w' w0.heap.size 2 v (a.length + 1) (ps.take k ++ g' :: ps.drop k).flatten ∧ Mod w0 w' zp ∧ Mod w w' (fun k _ => ¬ zao v k)) (n := a.length)
  ⟨a.length, g, rfl, hi, Nat.le_refl _, hg, fun _ _ _ => rfl, f13, by
   have e1 : ps.take a.length = ps := by rw [← hpl, List.take_length]
   have e2 : ps.drop a.length = [] := by rw [← hpl, List.drop_length]
   rw [e1, e2]; exact ho, m0, .refl _ _⟩ ?_)
 rintro k σ1 w1 ⟨_, g', rfl, hik, hk, hg', hag, h13, hw, m1, mw⟩
 have h4 : σ1 4 = v := (hag 4 (by decide) (by decide)).trans f4
 have h10 : σ1 10 = .int .i64 i := (hag 10 (by decide) (by decide)).trans f10
 refine zd fun K hK => zd fun K1 hK1 => zaa fun τ => ?_
 simp +decide only [bK, bE, Nat.reduceBeqDiff, BEq.rfl, Nat.reduceAdd, h13, h10]
 refine hK1 _ _ (zf fun σ2 hσ => ?_)
 have q4 := hσ 4
 have q13 := hσ 13
 have q14 := hσ 14
 simp +decide only [bE, Nat.reduceBeqDiff, BEq.rfl, Nat.reduceAdd, h4, h13] at q4 q13 q14
 have hag2 : ∀ j, j ≠ 13 → j ≠ 14 → σ2 j = σ j := fun j h1 h2 => by
  rw [hσ j, ← hag j h1 h2]
  have e1 : (j + 100 == 114) = false := beq_eq_false_iff_ne.2 (by omega)
  simp +decide only [bE, Nat.reduceBeqDiff, e1]
 clear hσ hK1 K1
 refine W_if hlo q14 ?_
 by_cases hgt : i < k
 ·have hgt' : (k : Int) > (i : Int) := by omega
  simp only [hgt', decide_true, if_true]
  refine zbw (hK _ _ ?_)
  clear hK K
  obtain ⟨k', rfl⟩ : ∃ k', k = k' + 1 := ⟨k - 1, by omega⟩
  have hk' : k' < ps.length := by omega
  have hX := List.getElem?_eq_getElem hk'
  obtain ⟨X, hXe⟩ : ∃ X, X = ps[k'] := ⟨_, rfl⟩
  have htk : ps.take (k' + 1) = ps.take k' ++ [X] := by rw [hXe]; exact (List.take_append_getElem hk').symm
  have hdk : ps.drop k' = X :: ps.drop (k' + 1) := by rw [hXe]; exact List.drop_eq_getElem_cons hk'
  have hX2 := hp2 X (by rw [hXe]; exact List.getElem_mem hk')
  have hall : ∀ p ∈ ps.take (k' + 1) ++ g' :: ps.drop (k' + 1), p.length = 2 := by
   intro p hp
   rcases List.mem_append.1 hp with hp | hp
   ·exact (hp2 p (List.mem_of_mem_take hp)).1
   ·rcases List.mem_cons.1 hp with rfl | hp
    ·exact hg'
    ·exact (hp2 p (List.mem_of_mem_drop hp)).1
  have hw' := hw
  rw [htk, List.append_assoc, List.singleton_append] at hw'
  have hall' := hall
  rw [htk, List.append_assoc, List.singleton_append] at hall'
  obtain ⟨b, c, wx, hv, hi1, hld, _⟩ := zxp hT hw' hall' (i := k') (by simp; omega) (Y := X) hX2.1 hX2.2
  obtain ⟨b2, c2, w3, hv2, hi2, _, hst, ho3, m3, s3⟩ := zxp hT hw hall (i := k' + 1) (by simp; omega) (Y := X) hX2.1 hX2.2
  have hbb : b2 = b ∧ c2 = c := by
   rw [hv] at hv2
   injection hv2 with e1 _ e3
   injection e1 with e2
   injection e2 with e4
   exact ⟨e4.symm, e3.symm⟩
  obtain ⟨rfl, rfl⟩ := hbb
  have hix1 := fun {w : World} => zab (P := P) (w := w) S.tr.lg hT (bl := b2) (o := 0) (n := a.length + 1) (c := c2) (i := k') (k := .i64) hi1
  have hix2 := fun {w : World} => zab (P := P) (w := w) S.tr.lg hT (bl := b2) (o := 0) (n := a.length + 1) (c := c2) (i := k' + 1) (k := .i64) hi2
  rw [Nat.zero_add] at hld hst
  have hsub : IntKind.i64.wrap (((k' + 1 : Nat) : Int) - 1) = (k' : Int) := by rw [wrap_i64 (by omega) (by omega)]; omega
  refine zd fun K hK => zeb (zaa fun τ => ?_)
  simp +decide only [bK, bE, Nat.reduceBeqDiff, BEq.rfl, Nat.reduceAdd, q4, q13, hsub]
  rw [hv]
  simp +decide only [bK, Nat.zero_add, hix1, hld, hix2, hst]
  simp only [inB]
  refine zf (K := fun σ' w' => zdy K _ .normal σ' w') fun σ3 hσ => hK _ _ ?_
  have p13 := hσ 13
  simp +decide only [bE, Nat.reduceBeqDiff, Nat.reduceAdd, q13] at p13
  have hag3 : ∀ j, j ≠ 13 → j ≠ 14 → σ3 j = σ j := fun j h1 h2 => by
   rw [hσ j, ← hag2 j h1 h2]
   simp +decide only [bE, Nat.reduceBeqDiff]
  clear hσ hK K
  refine zaa fun τ => ?_
  simp +decide only [bK, bE, BEq.rfl, Nat.reduceAdd, p13, hsub]
  simp only [zdy]
  refine zf (K := fun σ' w' => ∃ m', m' < k' + 1 ∧ ∃ k g', m' = k ∧ i ≤ k ∧ k ≤ a.length ∧ g'.length = 2 ∧ (∀ j, j ≠ 13 → j ≠ 14 → σ' j = σ j) ∧ σ' 13 = .int .i64 k ∧ Own w' w0.heap.size 2 v (a.length + 1) (ps.take k ++ g' :: ps.drop k).flatten ∧ Mod w0 w' zp ∧ Mod w w' (fun k _ => ¬ zao v k)) fun σ4 hσ => ?_
  have r13 := hσ 13
  simp +decide only [bE, BEq.rfl, Nat.reduceAdd] at r13
  refine ⟨k', by omega, k', X, rfl, by omega, by omega, hX2.1, fun j h1 h2 => ?_, r13, ?_, Mod.ofOwn hw m1 m3, mw.trans' m3⟩
  ·rw [hσ j, ← hag3 j h1 h2]
   have e1 : (j + 100 == 113) = false := beq_eq_false_iff_ne.2 (by omega)
   simp +decide only [bE, Nat.reduceBeqDiff, e1]
  ·rw [hdk]
   rw [htk, List.append_assoc, List.singleton_append] at ho3
   exact ho3
 ·have hgt' : ¬ (k : Int) > (i : Int) := by omega
  simp only [hgt', decide_false, Bool.false_eq_true, if_false]
  refine zlx ?_
  simp only [zdy, inB, if_true]
  obtain rfl : k = i := by omega
  exact hQ _ _ g' hag2 hg' hw m1 mw
end
section
variable {P : Program} {N : Nums} {M : zci}
def cFind (N : Nums) : C := .block 2 (.loop (.seq (.seq (cU1 N) (.cond 11 .skip (.exit 2)))
 (.block 3 (.ops [⟨some 0, .move (V 10), 0, none, []⟩, ⟨some 1, .binOp .add N.ze (T 0) (.const (.int .i64 1)) N.ze, 0, none, []⟩, ⟨some 110, .assign (T 1), 0, none, []⟩]))))
theorem W_find (B : Base P N) (S : SpT P N M) {loc : List Nat} {N' : Nat} (hlo : zfo loc N') {Q : Exit → Env → World → Prop} {σ : Env} {w : World} {lo b9 k : Nat} {v : Value} {a : List (Nat × List UInt8)} (f4 : σ 4 = v) (f9 : σ 9 = .pointer (some ⟨b9, 0, none⟩)) (f10 : σ 10 = .int .i64 0)
  (ho : OwnT w lo v a) (h9 : w.cell? ⟨b9, 0, none⟩ = some (.int .u32 k)) (hn : a.length < 1099511627776)
  (hQ : ∀ (σ' : Env) (w' : World) (i : Nat), (∀ j, j ≠ 10 → j ≠ 11 → σ' j = σ j) → σ' 10 = .int .i64 i → i ≤ a.length → (∀ j z, j < i → a[j]? = some z → z.1 < k) → (∀ y, a[i]? = some y → ¬ y.1 < k) → Mod w w' zp → Q .normal σ' w') :
  W P loc N' (cFind N) Q σ w := by
 refine zeb (zna (fun m σ' w' => ∃ i : Nat, m = a.length - i ∧ i ≤ a.length ∧ (∀ j, j ≠ 10 → j ≠ 11 → σ' j = σ j) ∧ σ' 10 = .int .i64 i ∧ (∀ j z, j < i → a[j]? = some z → z.1 < k) ∧ Mod w w' zp) (n := a.length) ⟨0, by omega, by omega, fun _ _ _ => rfl, f10, fun j z h => by omega, .refl _ _⟩ ?_)
 rintro m σ1 w1 ⟨i, rfl, hi, hag, h10, hj, m1⟩
 have h4 : σ1 4 = v := (hag 4 (by decide) (by decide)).trans f4
 have h9' : σ1 9 = .pointer (some ⟨b9, 0, none⟩) := (hag 9 (by decide) (by decide)).trans f9
 have hc9 : w1.cell? ⟨b9, 0, none⟩ = some (.int .u32 k) := by rw [m1.cell _ _ (zax (by rw [h9]; rfl)) fun h => h]; exact h9
 refine zd fun K hK => zd fun K1 hK1 => W_U1 B S h4 h9' h10 (ho.stay m1) hc9 fun σ2 q11 hag2 => hK1 _ _ ?_
 have md := m1.trans' (Mod.drew w1 zp)
 refine W_if hlo q11 ?_
 have q10 : σ2 10 = .int .i64 i := (hag2 10 (by decide)).trans h10
 have hag3 : ∀ j, j ≠ 10 → j ≠ 11 → σ2 j = σ j := fun j h1 h2 => (hag2 j h2).trans (hag j h1 h2)
 have stop : (∀ y, a[i]? = some y → ¬ y.1 < k) → W P loc N' (.exit 2) (zdy K (zdy (fun σ' w' => ∃ m, m < a.length - i ∧ ∃ i : Nat, m = a.length - i ∧ i ≤ a.length ∧ (∀ j, j ≠ 10 → j ≠ 11 → σ' j = σ j) ∧ σ' 10 = .int .i64 i ∧ (∀ j z, j < i → a[j]? = some z → z.1 < k) ∧ Mod w w' zp) (inB 2 Q))) σ2 w1.drew := by
  intro h
  refine zlx ?_
  simp only [zdy, inB, if_true]
  exact hQ _ _ i hag3 q10 hi hj h md
 cases hx : a[i]? with
 | none =>
  simp only [Bool.false_eq_true, if_false]
  exact stop fun y hy => by rw [hx] at hy; cases hy
 | some y =>
  by_cases hlt : y.1 < k
  ·simp only [hlt, decide_true, if_true]
   have hil := (List.getElem?_eq_some_iff.1 hx).1
   refine zbw (hK _ _ (zeb (zaa fun τ => ?_)))
   have hw : IntKind.i64.wrap ((i : Int) + 1) = (((i + 1 : Nat) : Int)) := by rw [wrap_i64 (by omega) (by omega)]; omega
   simp +decide only [bK, bE, BEq.rfl, Nat.reduceAdd, q10, hw]
   simp only [inB, zdy]
   refine zf (K := fun σ' w' => ∃ m, m < a.length - i ∧ ∃ i : Nat, m = a.length - i ∧ i ≤ a.length ∧ (∀ j, j ≠ 10 → j ≠ 11 → σ' j = σ j) ∧ σ' 10 = .int .i64 i ∧ (∀ j z, j < i → a[j]? = some z → z.1 < k) ∧ Mod w w' zp) fun σ4 hσ => ?_
   have r10 := hσ 10
   simp +decide only [bE, BEq.rfl, Nat.reduceAdd] at r10
   refine ⟨a.length - (i + 1), by omega, i + 1, rfl, by omega, fun j h1 h2 => ?_, r10, fun j z hji hz => ?_, md⟩
   ·rw [hσ j, ← hag3 j h1 h2]
    have e1 : (j + 100 == 110) = false := beq_eq_false_iff_ne.2 (by omega)
    simp +decide only [bE, Nat.reduceBeqDiff, e1]
   ·by_cases e : j = i
    ·subst e; rw [hx] at hz; injection hz with hz; subst hz; exact hlt
    ·exact hj j z (by omega) hz
  ·simp only [hlt, decide_false, Bool.false_eq_true, if_false]
   exact stop fun y' hy => by rw [hx] at hy; injection hy with hy; subst hy; exact hlt
end
theorem unkT_snoc (u : List (Nat × List UInt8)) {j : Nat} (hj : j < u.length) : (u.take (j + 1)).foldl (fun a x => insT x.1 x.2 a) [] = insT u[j].1 u[j].2 ((u.take j).foldl (fun a x => insT x.1 x.2 a) []) := by
 rw [← List.take_append_getElem hj, List.foldl_append]; rfl
theorem zuk : ∀ (u a : List (Nat × List UInt8)), (u.foldl (fun a x => insT x.1 x.2 a) a).length ≤ a.length + u.length
 | [], a => by simp
 | x :: u, a => by
  have h1 := zuk u (insT x.1 x.2 a)
  have h2 := insT_len x.1 x.2 a
  simp only [List.foldl_cons, List.length_cons]; omega
section
variable {P : Program} {N : Nums} {M : zci}
def cPutT (N : Nums) : C := .seq (.ops [⟨some 0, .move (V 4), 0, none, []⟩, ⟨some 1, .build N.zz #[], 0, none, []⟩, ⟨some 2, .buildSlice N.zh 1 #[(0, T 1)], 0, none, []⟩, ⟨some 3, .call ⟨.builtin .append, #[T 0, T 2], #[N.zh, N.zh]⟩, N.zh, none, []⟩, ⟨some 104, .assign (T 3), 0, none, []⟩])
 (.seq (.seq (.ops [⟨some 0, .move (V 4), 0, none, []⟩, ⟨some 1, .call ⟨.builtin .len, #[T 0], #[N.zh]⟩, N.ze, none, []⟩, ⟨some 2, .binOp .sub N.ze (T 1) (.const (.int .i64 1)) N.ze, 0, none, []⟩, ⟨some 113, .assign (T 2), 0, none, []⟩]) (cShift N))
  (.ops [⟨some 0, .move (V 4), 0, none, []⟩, ⟨some 1, .move (V 10), 0, none, []⟩, ⟨some 2, .load N.zz (V 9), 0, none, []⟩, ⟨some 3, .indexAddr N.zh (T 0) (T 1), 0, none, []⟩, ⟨none, .store N.zz (T 3) (T 2), 0, none, []⟩]))
theorem W_putT (S : SpT P N M) {loc : List Nat} {N' : Nat} (hlo : zfo loc N') {Q : Exit → Env → World → Prop} {σ : Env} {w0 w : World} {b9 i : Nat} {v s : Value} {x : Nat × List UInt8} {a : List (Nat × List UInt8)} {ps : List (List Value)}
  (f4 : σ 4 = v) (f9 : σ 9 = .pointer (some ⟨b9, 0, none⟩)) (f10 : σ 10 = .int .i64 i) (hi : i ≤ a.length) (hn : a.length < 1000000000) (ho : Own w w0.heap.size 2 v a.length ps.flatten) (hps : TgsA w0 a ps) (m0 : Mod w0 w zp) (hb9 : b9 < w.heap.size) (h9 : w.rangeAt b9 0 [.int .u32 x.1, s]) (hs : OctA w0 s x.2) (h9n : zao v b9)
  (hQ : ∀ (σ' : Env) (w' : World) (ps' : List (List Value)), (∀ j, j ≠ 4 → j ≠ 13 → j ≠ 14 → σ' j = σ j) → Own w' w0.heap.size 2 (σ' 4) (a.length + 1) ps'.flatten → TgsA w0 (a.take i ++ x :: a.drop i) ps' → Mod w0 w' zp → Q .normal σ' w') :
  W P loc N' (cPutT N) Q σ w := by
 obtain ⟨fs, hT⟩ := S.tr.tu
 have hpl := hps.length
 have hp2 := hps.two
 have e0 : ∀ ρ : Env, (#[] : Array (Nat × Operand)).map (fun p => (p.1, ev ρ p.2)) = #[] := fun ρ => by simp
 have e1 : ∀ ρ : Env, (#[(0, T 1)] : Array (Nat × Operand)).map (fun p => (p.1, ev ρ p.2)) = #[(0, ρ 1)] := fun ρ => by simp
 have hbu : (Instr.build N.zz #[]).run P w = .ok (.agg [.int .u32 0, .slice none 0 0].toArray) w := S.tr.tag.run_build (by simp [Instr.fill])
 have hbs := zfl (w := w) (v := .agg [.int .u32 0, .slice none 0 0].toArray) (cs := [.int .u32 0, .slice none 0 0]) S.tr.lg hT rfl rfl (by decide) (by decide)
 obtain ⟨w1, hw1⟩ : ∃ w1, w1 = w.alloc (.cells [Value.int .u32 0, .slice none 0 0].toArray N.zz) := ⟨_, rfl⟩
 have m1 : Mod w w1 zp := by rw [hw1]; exact Mod.alloc _ _ _
 have s1 : w1.heap.size = w.heap.size + 1 := by rw [hw1]; exact zan _ _
 have r1 : w1.rangeAt w.heap.size 0 [.int .u32 0, .slice none 0 0] := by rw [hw1]; exact zw w _ _ _
 rw [← hw1] at hbs
 clear hw1
 have hones : ∀ c ∈ ps.flatten, c.oneCell' = true := fun c hc => by
  obtain ⟨p, hp, hcp⟩ := List.mem_flatten.1 hc
  exact (hp2 p hp).2 c hcp
 obtain ⟨v2, w2, hap, ho2, m2, _, hnb⟩ := zfv (P := P) (ty := N.zh) (m := 1) (cb := 1) S.tr.lg hT (ho.stay m1 fun _ _ _ h => h) r1 rfl (by decide) (Nat.le_trans m0.size m1.size) rfl hones (by omega) (by decide) (by decide)
 have m02 : Mod w0 w2 zp := Mod.ofOwn (ho.stay m1 fun _ _ _ h => h) (m0.trans' m1) m2
 have h9n2 : zao v2 b9 := hnb b9 (by omega) h9n
 have h92 : w2.rangeAt b9 0 [.int .u32 x.1, s] := m2.rangeAt (by omega) (fun _ _ _ h => h h9n) (zv m1 h9)
 have ho2' : Own w2 w0.heap.size 2 v2 (a.length + 1) (ps ++ [[Value.int .u32 0, Value.slice none 0 0]]).flatten := by
  rw [List.flatten_append]; simpa using ho2
 refine zd fun K hK => zaa fun τ => ?_
 simp +decide only [bK, bE, Nat.reduceBeqDiff, BEq.rfl, Nat.reduceAdd, f4, e0, hbu, e1, hbs, hap]
 refine hK _ _ (zf fun σ1 hσ => ?_)
 have q4 := hσ 4
 have q10 := hσ 10
 simp +decide only [bE, Nat.reduceBeqDiff, BEq.rfl, Nat.reduceAdd, f10] at q4 q10
 have hag1 : ∀ j, j ≠ 4 → σ1 j = σ j := fun j h => by
  rw [hσ j]
  have e1 : (j + 100 == 104) = false := beq_eq_false_iff_ne.2 (by omega)
  simp +decide only [bE, Nat.reduceBeqDiff, e1]
 clear hσ hK K
 have hlen : ∀ {w' : World}, (Builtin.len_ #[N.zh] N.ze #[v2]).run P w' = .ok (.int .i64 ((a.length + 1 : Nat) : Int)) w' := by
  intro w'
  rcases ho2' with ⟨_, e, _⟩ | ⟨b, c, e, _⟩
  ·omega
  ·rw [e]; exact S.tr.lg.run_len
 have hsub : IntKind.i64.wrap (((a.length + 1 : Nat) : Int) - 1) = (a.length : Int) := by rw [wrap_i64 (by omega) (by omega)]; omega
 refine zd fun K hK => zd fun K1 hK1 => zaa fun τ => ?_
 simp +decide only [bK, bE, BEq.rfl, Nat.reduceAdd, q4, hlen, hsub]
 refine hK1 _ _ (zf fun σ2 hσ => ?_)
 have p4 := hσ 4
 have p10 := hσ 10
 have p13 := hσ 13
 simp +decide only [bE, Nat.reduceBeqDiff, BEq.rfl, Nat.reduceAdd, q4, q10] at p4 p10 p13
 have hag2 : ∀ j, j ≠ 4 → j ≠ 13 → σ2 j = σ j := fun j h h' => by
  rw [hσ j, ← hag1 j h]
  have e1 : (j + 100 == 113) = false := beq_eq_false_iff_ne.2 (by omega)
  simp +decide only [bE, Nat.reduceBeqDiff, e1]
 clear hσ hK1 K1
 refine W_shift S hlo (w0 := w0) p4 p10 p13 hi (by omega) m02 hps rfl ho2' fun σ3 w3 g' hag3 hg' ho3 m3 mw3 => hK _ _ ?_
 clear hK K
 have h93 : w3.rangeAt b9 0 [.int .u32 x.1, s] := mw3.rangeAt (by have := m2.size; omega) (fun _ _ _ h => h h9n2) h92
 have hall : ∀ p ∈ ps.take i ++ g' :: ps.drop i, p.length = 2 := by
  intro p hp
  rcases List.mem_append.1 hp with hp | hp
  ·exact (hp2 p (List.mem_of_mem_take hp)).1
  ·rcases List.mem_cons.1 hp with rfl | hp
   ·exact hg'
   ·exact (hp2 p (List.mem_of_mem_drop hp)).1
 obtain ⟨b, c, w4, hv, hi1, _, hst, ho4, m4, _⟩ := zxp hT ho3 hall (i := i) (by simp; omega) (Y := [.int .u32 x.1, s]) rfl (by
  intro c hc; simp at hc; rcases hc with rfl | rfl
  ·rfl
  ·exact hs.one)
 have hix := fun {w : World} => zab (P := P) (w := w) S.tr.lg hT (bl := b) (o := 0) (n := a.length + 1) (c := c) (i := i) (k := .i64) hi1
 have hld := hT.run_load (w := w3) (b := b9) (o := 0) h93 rfl (fun h => by cases h)
 have hlv : ldv (.struct fs) [.int .u32 x.1, s] = .agg [.int .u32 x.1, s].toArray := rfl
 rw [hlv] at hld
 rw [Nat.zero_add] at hst
 have k4 : σ3 4 = v2 := (hag3 4 (by decide) (by decide)).trans p4
 have k10 : σ3 10 = .int .i64 i := (hag3 10 (by decide) (by decide)).trans p10
 have k9 : σ3 9 = .pointer (some ⟨b9, 0, none⟩) := ((hag3 9 (by decide) (by decide)).trans (hag2 9 (by decide) (by decide))).trans f9
 refine zaa fun τ => ?_
 simp +decide only [bK, bE, Nat.reduceBeqDiff, BEq.rfl, Nat.reduceAdd, k4, k9, k10, hld]
 rw [hv]
 simp +decide only [bK, Nat.zero_add, hix, hst]
 refine zf (K := fun σ' w' => Q .normal σ' w') fun σ4 hσ => hQ σ4 w4 _ (fun j h1 h2 h3 => ?_) ?_ (TgsA.append (hps.take i) (show TgsA w0 (x :: a.drop i) ([.int .u32 x.1, s] :: ps.drop i) from ⟨_, _, rfl, ⟨s, rfl, hs⟩, hps.drop i⟩)) (Mod.ofOwn ho3 m3 m4)
 ·rw [hσ j, ← hag2 j h1 h2, ← hag3 j h2 h3]
  simp +decide only [bE, Nat.reduceBeqDiff]
 ·have z := hσ 4
  simp +decide only [bE, Nat.reduceBeqDiff, Nat.reduceAdd, k4] at z
  rw [z]; exact ho4
end
section
variable {P : Program} {N : Nums} {M : zci}
theorem zks.cut {w : World} {v : Value} {u : List (Nat × List UInt8)} (h : zks w v u) : ∃ ad c, v = .slice ad u.length c ∧ u.length ≤ c ∧ ∀ n, n ≤ u.length → zks w (.slice ad n c) (u.take n) := by
 rcases h with ⟨ad, c, rfl, rfl⟩ | ⟨b, o, c, cs, rfl, h1, h2, h3⟩
 ·exact ⟨ad, c, rfl, Nat.zero_le _, fun n hn => .inl ⟨ad, c, by rw [show n = 0 by simpa using hn], by simp⟩⟩
 ·have key : ∀ (l : List (Nat × List UInt8)) (cs : List Value) (n o : Nat), UsA w l cs → w.rangeAt b o cs → UsA w (l.take n) (cs.take (n * 2)) ∧ w.rangeAt b o (cs.take (n * 2)) := by
   intro l
   induction l with
   | nil => intro cs n o hr hg; simp only [UsA] at hr; subst hr; simp [UsA]; intro j v hj; simp at hj
   | cons t l ih =>
    obtain ⟨k, y⟩ := t
    rintro _ n o ⟨v, r, rfl, h1, h2⟩ hg
    cases n with
    | zero => simp [UsA]; intro j v hj; simp at hj
    | succ n =>
     have hg' := (zq (cs := [.int .u32 k, v]) (ds := r)).1 hg
     obtain ⟨g1, g2⟩ := ih r n _ h2 hg'.2
     rw [show (n + 1) * 2 = n * 2 + 1 + 1 by omega, List.take_succ_cons, List.take_succ_cons, List.take_succ_cons]
     exact ⟨⟨v, r.take (n * 2), rfl, h1, g1⟩, (zq (cs := [.int .u32 k, v]) (ds := r.take (n * 2))).2 ⟨hg'.1, g2⟩⟩
  exact ⟨_, c, rfl, h1, fun n hn => .inr ⟨b, o, c, cs.take (n * 2), by rw [List.length_take, Nat.min_eq_left hn], by rw [List.length_take]; omega, (key u cs n o h2 h3).1, (key u cs n o h2 h3).2⟩⟩
theorem sp_unknown (B : Base P N) (S : SpT P N M) (hW : SW P N M) {w : World} {fv uv : Value} {fs : List Fld} {u : List (Nat × List UInt8)} (hf : zgs w fv fs) (hl : fs.length < 4611686018427387904) (ht : ∀ f ∈ fs, f.tag < 0) (hu : zks w uv u) :
  Call P M.zhi #[fv, uv] w fun r w' => OwnT w' w.heap.size r (unkT u) ∧ Mod w w' zp := by
 obtain ⟨fsT, hT⟩ := S.tr.tu
 refine hW.unknown.call rfl fun loc N' hlo => ?_
 unfold zmv
 obtain ⟨ad, c, hv, hc, hcut⟩ := hu.cut
 refine zd fun K hK => zav (hK _ _ ?_)
 clear hK K
 obtain ⟨σ, hσ⟩ : ∃ σ, σ = upd (zda #[fv, uv]) 2 (.slice none 0 0) := ⟨_, rfl⟩
 have f0 : σ 0 = fv := by rw [hσ, zi (by decide)]; rfl
 have f1 : σ 1 = uv := by rw [hσ, zi (by decide)]; rfl
 rw [← hσ]
 clear hσ
 refine zd fun K hK => zaa fun τ => ?_
 simp +decide only [bK, bE, Nat.reduceAdd, Nat.zero_add, f0]
 rw [zal hW.known.has]
 simp +decide only [bK, bE, BEq.rfl]
 refine (sp_known B S hW.known hf hl ht).mono ?_
 rintro _ w1 ⟨rfl, m1⟩
 refine hK _ _ (zf fun σ1 hσ => ?_)
 have a1 := hσ 1
 have a3 := hσ 3
 simp +decide only [bE, Nat.reduceBeqDiff, BEq.rfl, Nat.reduceAdd, f1] at a1 a3
 clear hσ hK K f0 f1
 refine zd fun K hK => zav (hK _ _ ?_)
 clear hK K
 have b1 : (upd σ1 4 (.slice none 0 0)) 1 = uv := by rw [zi (by decide)]; exact a1
 have b3 : (upd σ1 4 (.slice none 0 0)) 3 = .int .u32 0 := by rw [zi (by decide)]; exact a3
 have b4 : (upd σ1 4 (.slice none 0 0)) 4 = .slice none 0 0 := upd_same _ _ _
 obtain ⟨σ2, hσ2⟩ : ∃ σ2, σ2 = upd σ1 4 (.slice none 0 0) := ⟨_, rfl⟩
 rw [← hσ2] at b1 b3 b4 ⊢
 clear hσ2 a1 a3
 have hn : (if (32767 : Int) < (u.length : Int) then (32767 : Int) else (u.length : Int)) = ((min 32767 u.length : Nat) : Int) := by split <;> omega
 have hsl := fun {w : World} => zjb (P := P) (w := w) S.tr.lg hT (ad := ad) (n := u.length) (c := c) (h := min 32767 u.length) (k := .i64) (by omega)
 have hU := hcut (min 32767 u.length) (by omega)
 obtain ⟨U, hUd⟩ : ∃ U, U = u.take (min 32767 u.length) := ⟨_, rfl⟩
 have hUl : U.length = min 32767 u.length := by rw [hUd, List.length_take]; omega
 have hUt : U = u.take most := by rw [hUd]; unfold most; rw [List.take_eq_take_iff]; omega
 rw [← hUd] at hU
 obtain ⟨vU, hvU⟩ : ∃ vU, vU = Value.slice ad (min 32767 u.length) c := ⟨_, rfl⟩
 rw [← hvU] at hU
 refine zd fun K hK => zd fun K1 hK1 => zaa fun τ => ?_
 simp +decide only [bK, bE, Nat.reduceBeqDiff, BEq.rfl, Nat.reduceAdd, Option.map_some, Option.map_none, b1, hu.run_len S, ztv, zxk, hn]
 rw [hv]
 simp +decide only [bK, hsl]
 rw [← hvU]
 simp +decide only [bK, hU.run_len S]
 refine hK1 _ _ (zf fun σ3 hσ => ?_)
 have p3 := hσ 3
 have p4 := hσ 4
 have p5 := hσ 5
 have p6 := hσ 6
 have p7 := hσ 7
 simp +decide only [bE, Nat.reduceBeqDiff, BEq.rfl, Nat.reduceAdd, b3, b4] at p3 p4 p5 p6 p7
 clear hσ hK1 K1 b1 b3 b4
 obtain ⟨A, hA⟩ : ∃ A : Nat → List (Nat × List UInt8), A = fun j => (U.take j).foldl (fun a x => insT x.1 x.2 a) [] := ⟨_, rfl⟩
 have hAl : ∀ j, (A j).length ≤ 32767 := fun j => by
  rw [hA]
  have := zuk (U.take j) []
  simp only [List.length_nil, List.length_take] at this
  show ((U.take j).foldl _ []).length ≤ _
  omega
 have hA0 : A 0 = [] := by rw [hA]; rfl
 have hAn : A U.length = unkT u := by rw [hA]; show (U.take U.length).foldl _ [] = _; rw [List.take_length, hUt]; rfl
 have hAs : ∀ (j : Nat) (hj : j < U.length), A (j + 1) = insT U[j].1 U[j].2 (A j) := fun j hj => by rw [hA]; exact unkT_snoc U hj
 clear hA
 refine zkb (i := 7) (l := 6) (c := 8) (k := 0) hlo (L := U.length) (by omega) (fun j σ w' => σ 3 = .int .u32 0 ∧ σ 5 = vU ∧ σ 6 = .int .i64 U.length ∧ σ 7 = .int .i64 j ∧ j ≤ U.length ∧ Mod w w' zp ∧ ∃ ps, Own w' w.heap.size 2 (σ 4) (A j).length ps.flatten ∧ TgsA w (A j) ps) (fun j σ w h => ⟨h.2.2.2.1, h.2.2.1, h.2.2.2.2.1⟩) (fun j σ w b h => ?_) ⟨p3, p5, p6, p7, Nat.zero_le _, m1, [], by rw [hA0, p4]; exact .inl ⟨rfl, rfl, rfl⟩, by rw [hA0]; rfl⟩ (fun σ' w' h => hK _ _ ?_) (fun j σ' w' hj h => ?_)
 ·obtain ⟨x3, x5, x6, x7, xl, xm, ps, xo, xt⟩ := h
  exact ⟨by rw [zi (by decide)]; exact x3, by rw [zi (by decide)]; exact x5, by rw [zi (by decide)]; exact x6, by rw [zi (by decide)]; exact x7, xl, xm, ps, by rw [zi (by decide)]; exact xo, xt⟩
 ·obtain ⟨x3, x5, x6, x7, xl, xm, ps, xo, xt⟩ := h
  rw [hAn] at xo xt
  refine zd fun K3 hK3 => zaa fun τ => ?_
  simp +decide only [bK, bE, BEq.rfl, Nat.reduceAdd]
  refine hK3 _ _ (zf fun σ7 hσ => zbx ⟨.inr rfl, _, rfl, ?_⟩)
  have q := hσ 2
  simp +decide only [bE, BEq.rfl, Nat.reduceAdd] at q
  rw [q]
  exact ⟨⟨_, xo, (xt.stay xm).us⟩, xm⟩
 ·obtain ⟨x3, x5, x6, x7, xl, xm, ps, xo, xt⟩ := h
  obtain ⟨bb, oo, cc, s, hvb, hs, hr⟩ := hU.get (List.getElem?_eq_getElem hj)
  have hr' := zv xm hr
  have hix := fun {w : World} => zab (P := P) (w := w) S.tr.lg hT (bl := bb) (o := oo) (n := U.length) (c := cc) (i := j) (k := .i64) hj
  have hld := hT.run_load (w := w') (b := bb) (o := oo + j * 2) hr' rfl (fun h => by cases h)
  have hlv : ldv (.struct fsT) [.int .u32 (U[j]).1, s] = .agg [.int .u32 (U[j]).1, s].toArray := rfl
  rw [hlv] at hld
  obtain ⟨w2, w3, hal, hst, _, m3, s3, r3, _⟩ := zuv (cs := [.int .u32 (U[j]).1, s]) hT (by decide) rfl rfl (by
   intro c hc; simp at hc; rcases hc with rfl | rfl
   ·rfl
   ·exact hs.one) w'
  obtain ⟨v4, hv4⟩ : ∃ v4, v4 = σ' 4 := ⟨_, rfl⟩
  rw [← hv4] at xo
  have xo3 := xo.stay m3 fun _ _ _ h => h
  have h9n : zao v4 w'.heap.size := Classical.byContradiction fun h => by have := (xo.blk h).2; omega
  have xm3 := xm.trans' m3
  refine zd fun K4 hK4 => zaa fun τ => ?_
  simp +decide only [bK, bE, Nat.reduceBeqDiff, BEq.rfl, Nat.reduceAdd, Nat.zero_add, x5, x7]
  rw [hvb]
  simp +decide only [bK, hix, hld, hal, hst]
  refine hK4 _ _ (zf fun σ4 hσ => ?_)
  have q3 := hσ 3
  have q4 := hσ 4
  have q5 := hσ 5
  have q6 := hσ 6
  have q7 := hσ 7
  have q9 := hσ 9
  simp +decide only [bE, Nat.reduceBeqDiff, BEq.rfl, Nat.reduceAdd, x3, ← hv4, x5, x6, x7] at q3 q4 q5 q6 q7 q9
  clear hσ hK4 K4
  refine zd fun K4 hK4 => zav (hK4 _ _ ?_)
  clear hK4 K4
  obtain ⟨σ5, hσ5⟩ : ∃ σ5, σ5 = upd σ4 10 (.int .i64 0) := ⟨_, rfl⟩
  have r3' : σ5 3 = .int .u32 0 := by rw [hσ5, zi (by decide)]; exact q3
  have r4 : σ5 4 = v4 := by rw [hσ5, zi (by decide)]; exact q4
  have r5 : σ5 5 = vU := by rw [hσ5, zi (by decide)]; exact q5
  have r6 : σ5 6 = .int .i64 U.length := by rw [hσ5, zi (by decide)]; exact q6
  have r7 : σ5 7 = .int .i64 j := by rw [hσ5, zi (by decide)]; exact q7
  have r9 : σ5 9 = .pointer (some ⟨w'.heap.size, 0, none⟩) := by rw [hσ5, zi (by decide)]; exact q9
  have r10 : σ5 10 = .int .i64 0 := by rw [hσ5, upd_same]
  rw [← hσ5]
  clear hσ5 q3 q4 q5 q6 q7 q9
  have hot : OwnT w3 w.heap.size v4 (A j) := ⟨_, xo3, (xt.stay xm3).us⟩
  have hal := hAl j
  refine zd fun K4 hK4 => W_find B S hlo r4 r9 r10 hot (r3 0 _ rfl) (by omega) fun σ6 w4 i hag6 h10 hi hlt hge m4 => hK4 _ _ ?_
  clear hK4 K4
  have xo4 := xo3.stay m4 fun _ _ _ h => h
  have xm4 := xm3.trans' m4
  have g : ∀ n, n ≠ 10 → n ≠ 11 → σ6 n = σ5 n := hag6
  refine zd fun K4 hK4 => zd fun K5 hK5 => W_U2 B S ((g 3 (by decide) (by decide)).trans r3') ((g 4 (by decide) (by decide)).trans r4) ((g 9 (by decide) (by decide)).trans r9) h10 (hot.stay m4) (zv m4 r3 0 _ rfl) fun σ7 k12 hag7 => hK5 _ _ (W_if hlo k12 ?_)
  have md : Mod w4 w4.drew zp := Mod.drew _ _
  have xo5 := xo4.stay md fun _ _ _ h => h
  have xm5 := xm4.trans' md
  have g7 : ∀ n, n ≠ 10 → n ≠ 11 → n ≠ 12 → σ7 n = σ5 n := fun n h1 h2 h3 => (hag7 n h3).trans (hag6 n h1 h2)
  have same : ∀ y, (A j)[i]? = some y → y.1 = (U[j]).1 → A (j + 1) = A j := fun y hy e => by rw [hAs j hj]; exact zwb hlt hy e
  have put : (∀ y, (A j)[i]? = some y → y.1 ≠ (U[j]).1) → ∀ {Q : Exit → Env → World → Prop}, (∀ (σ' : Env) (w' : World), σ' 7 = .int .i64 j → (σ' 3 = .int .u32 0 ∧ σ' 5 = vU ∧ σ' 6 = .int .i64 U.length ∧ Mod w w' zp ∧ ∃ ps, Own w' w.heap.size 2 (σ' 4) (A (j + 1)).length ps.flatten ∧ TgsA w (A (j + 1)) ps) → Q .normal σ' w') → W P loc N' (cPutT N) Q σ7 w4.drew := by
   intro hne Q hQ
   have hnew : A (j + 1) = (A j).take i ++ U[j] :: (A j).drop i := by
    rw [hAs j hj]
    refine insT_new hi hlt fun y hy => ?_
    have h1 := hge y hy
    have h2 := hne y hy
    omega
   refine W_putT S hlo (w0 := w) (b9 := w'.heap.size) (x := U[j]) (s := s) ((g7 4 (by decide) (by decide) (by decide)).trans r4) ((g7 9 (by decide) (by decide) (by decide)).trans r9) ((hag7 10 (by decide)).trans h10) hi (by omega) xo5 xt xm5 (by have := m4.size; show w'.heap.size < w4.heap.size; omega) (zv md (zv m4 r3)) hs h9n fun σ8 w8 ps' hag8 ho8 ht8 m8 => ?_
   have g8 : ∀ n, n ≠ 4 → n ≠ 13 → n ≠ 14 → n ≠ 10 → n ≠ 11 → n ≠ 12 → σ8 n = σ5 n := fun n a b c d e f => (hag8 n a b c).trans (g7 n d e f)
   refine hQ σ8 w8 ((g8 7 (by decide) (by decide) (by decide) (by decide) (by decide) (by decide)).trans r7) ⟨(g8 3 (by decide) (by decide) (by decide) (by decide) (by decide) (by decide)).trans r3', (g8 5 (by decide) (by decide) (by decide) (by decide) (by decide) (by decide)).trans r5, (g8 6 (by decide) (by decide) (by decide) (by decide) (by decide) (by decide)).trans r6, m8, ps', ?_, by rw [hnew]; exact ht8⟩
   rw [hnew]
   have : ((A j).take i ++ U[j] :: (A j).drop i).length = (A j).length + 1 := by simp; omega
   rw [this]; exact ho8
  have stay7 : σ7 7 = .int .i64 j := (g7 7 (by decide) (by decide) (by decide)).trans r7
  cases hx : (A j)[i]? with
  | none =>
   simp only [Bool.false_eq_true, if_false]
   refine zbw (hK4 _ _ (put (fun y hy => by rw [hx] at hy; cases hy) fun σ8 w8 h7 ⟨z3, z5, z6, zm, ps', zo, zt⟩ => ⟨h7, ?_, ?_, ?_, upd_same _ _ _, by omega, zm, ps', ?_, zt⟩))
   all_goals (rw [zi (by decide)]; assumption)
  | some y =>
   by_cases e : y.1 = (U[j]).1
   ·simp only [e, decide_true, if_true]
    refine zlx ?_
    simp only [zdy]
    have hsm := same y hx e
    refine ⟨trivial, stay7, ?_, ?_, ?_, upd_same _ _ _, by omega, xm5, ps, ?_, by rw [hsm]; exact xt⟩
    ·rw [zi (by decide)]; exact (g7 3 (by decide) (by decide) (by decide)).trans r3'
    ·rw [zi (by decide)]; exact (g7 5 (by decide) (by decide) (by decide)).trans r5
    ·rw [zi (by decide)]; exact (g7 6 (by decide) (by decide) (by decide)).trans r6
    ·rw [zi (by decide), hsm, (g7 4 (by decide) (by decide) (by decide)).trans r4]; exact xo5
   ·simp only [e, decide_false, Bool.false_eq_true, if_false]
    refine zbw (hK4 _ _ (put (fun y' hy => by rw [hx] at hy; injection hy with hy; subst hy; exact e) fun σ8 w8 h7 ⟨z3, z5, z6, zm, ps', zo, zt⟩ => ⟨h7, ?_, ?_, ?_, upd_same _ _ _, by omega, zm, ps', ?_, zt⟩))
    all_goals (rw [zi (by decide)]; assumption)
end
theorem zpq (flex : Bool) (v : Int) (f : Fld) (t : Tr) : ∀ (l : List Fld) (i : Nat), zcu flex v (l ++ [f]) i t = zcu flex v l i t ++ (if f.has v then zew flex v f (atT t (i + l.length)) else [])
 | [], i => by simp [zcu]
 | g :: l, i => by
  rw [List.cons_append, zcu, zcu, zpq flex v f t l (i + 1), List.append_assoc, List.length_cons, show i + 1 + l.length = i + (l.length + 1) by omega]
theorem zli (flex : Bool) (v : Int) (t : Tr) {fs : List Fld} {j : Nat} (hj : j < fs.length) : zcu flex v (fs.take (j + 1)) 0 t = zcu flex v (fs.take j) 0 t ++ (if fs[j].has v then zew flex v fs[j] (atT t j) else []) := by
 rw [← List.take_append_getElem hj, zpq]
 simp [Nat.min_eq_left (Nat.le_of_lt hj)]
theorem zlh (flex : Bool) (v : Int) (t : Tr) (fs : List Fld) : ∀ (n j : Nat), j + n = fs.length → (zcu flex v (fs.take j) 0 t).length ≤ (zcu flex v fs 0 t).length
 | 0, j, h => by rw [List.take_of_length_le (by omega)]; exact Nat.le_refl _
 | n + 1, j, h => by
  have h1 := zlh flex v t fs n (j + 1) (by omega)
  rw [zli flex v t (show j < fs.length by omega), List.length_append] at h1
  omega
def OkF (P : Program) (M : zci) (flex : Bool) (v : Int) (f : Fld) : Prop := f.tag < 0 ∧ f.kind ≠ 10 ∧ (f.kind = 11 → f.of = 10 → zto P M flex v f.sub)
section
variable {P : Program} {N : Nums} {M : zci}
structure PSt (w1 : World) (σ : Env) (w : World) (fv : Value) (v : Int) (flex : Bool) (b n j : Nat) (acc : List UInt8) : Prop where
 h0 : σ 0 = fv
 h1 : σ 1 = .int .i64 v
 h2 : σ 2 = .bool flex
 h4 : σ 4 = .pointer (some ⟨b, 0, none⟩)
 h6 : OwnB w w1.heap.size (σ 6) acc
 h7 : σ 7 = .slice none 0 0
 h8 : σ 8 = .int .i64 0
 h9 : σ 9 = fv
 h10 : σ 10 = .int .i64 n
 h11 : σ 11 = .int .i64 j
 le : j ≤ n
 mod : Mod w1 w zp
theorem PSt.upd {w1 w : World} {σ : Env} {fv : Value} {v : Int} {flex : Bool} {b n j : Nat} {acc : List UInt8} (h : PSt w1 σ w fv v flex b n j acc) {i : Nat} (hi : 12 ≤ i) (x : Value) : PSt w1 (upd σ i x) w fv v flex b n j acc := by
 obtain ⟨h0, h1, h2, h4, h6, h7, h8, h9, h10, h11, le, mod⟩ := h
 refine ⟨?_, ?_, ?_, ?_, ?_, ?_, ?_, ?_, ?_, ?_, le, mod⟩ <;> (rw [zi (by omega)]; assumption)
theorem PSt.next {w1 w : World} {σ : Env} {fv : Value} {v : Int} {flex : Bool} {b n j : Nat} {acc : List UInt8} (h : PSt w1 σ w fv v flex b n j acc) (hj : j < n) : PSt w1 (Go.Kf.upd σ 11 (.int .i64 ((j + 1 : Nat) : Int))) w fv v flex b n (j + 1) acc := by
 obtain ⟨h0, h1, h2, h4, h6, h7, h8, h9, h10, h11, le, mod⟩ := h
 refine ⟨?_, ?_, ?_, ?_, ?_, ?_, ?_, ?_, ?_, upd_same _ _ _, hj, mod⟩ <;> (rw [zi (by omega)]; assumption)
def dPart (N : Nums) (M : zci) : C := .draw [
 ⟨some 0, .move (V 6), 0, none, []⟩,
 ⟨some 1, .load M.zg (V 13), 0, none, []⟩,
 ⟨some 2, .move (V 1), 0, none, []⟩,
 ⟨some 3, .move (V 2), 0, none, []⟩,
 ⟨some 4, .load N.zb (V 4), 0, none, []⟩,
 ⟨some 5, .move (V 14), 0, none, []⟩,
 ⟨some 6, .call ⟨.value (.func M.zgp), #[T 4, T 5], #[N.zb, N.ze]⟩, N.zb, none, [4, 5]⟩,
 ⟨some 7, .call ⟨.value (.func M.zhq), #[T 1, T 2, T 3, T 6], #[M.zg, N.ze, N.zah, N.zb]⟩, N.za, none, [1, 2, 3, 6, 6]⟩,
 ⟨some 8, .call ⟨.builtin .append, #[T 0, T 7], #[N.za, N.za]⟩, N.za, none, [0, 7, 7]⟩,
 ⟨some 106, .assign (T 8), 0, none, [8, 8, 0, 1, 2, 3, 4, 5, 6, 7, 8]⟩]
theorem W_dPart (B : Base P N) (S : SpT P N M) (hW : SW P N M) {loc : List Nat} {N' : Nat} {σ : Env} {w1 w : World} {fv : Value} {v : Int} {flex : Bool} {b b13 n j : Nat} {acc : List UInt8} {f : Fld} {t : Tr} {ct cf : List Value}
  (h : PSt w1 σ w fv v flex b n j acc) (hb : w1.rangeAt b 0 ct) (ht : RepA w1 t ct) (hwt : wfT t) (h13 : σ 13 = .pointer (some ⟨b13, 0, none⟩)) (h14 : σ 14 = .int .i64 j) (hb13 : w.rangeAt b13 0 cf) (hbl : b13 < w.heap.size) (hn13 : zao (σ 6) b13) (hf : RepF w f cf) (ok : OkF P M flex v f) (hbig : acc.length + (zew flex v f (atT t j)).length < 549755813888) {Q : Exit → Env → World → Prop}
  (hQ : ∀ (σ' : Env) (w' : World), PSt w1 σ' w' fv v flex b n j (acc ++ zew flex v f (atT t j)) → Q .normal σ' w') :
  W P loc N' (dPart N M) Q σ w := by
 obtain ⟨h0, h1, h2, h4, h6, h7, h8, h9, h10, h11, hle, m1w⟩ := h
 unfold dPart
 have cw : ∀ {w' : World}, Mod w w' (fun i _ => ¬ zao (σ 6) i) → Mod w1 w' zp := fun h => Mod.ofOwn h6 m1w h
 refine zyb B.mixed [true, true, true, true, true, true, false, false, false, false] (by kernel_rfl) (fun w' => Mod w w' (fun i _ => ¬ zao (σ 6) i)) (Mod.drew _ _) fun τ => ?_
 refine zc (σ 6) (fun w' _ => by
  rw [zat, ev_tmp]
  simp +decide only [bE, Nat.reduceAdd]) rfl ?_
 refine zc (.agg cf.toArray) (fun w' hw => zn (by
  simp +decide only [bE, Nat.reduceBeqDiff, Nat.reduceAdd, ev_tmp, h13]
  exact fld_load S (hw.rangeAt hbl (fun _ _ _ h => h hn13) hb13) hf.len)) rfl ?_
 refine zc (.int .i64 v) (fun w' _ => by
  rw [zat, ev_tmp]
  simp +decide only [bE, Nat.reduceBeqDiff, Nat.reduceAdd, h1]) rfl ?_
 refine zc (.bool flex) (fun w' _ => by
  rw [zat, ev_tmp]
  simp +decide only [bE, Nat.reduceBeqDiff, Nat.reduceAdd, h2]) rfl ?_
 refine zc (.agg ct.toArray) (fun w' hw => zn (by
  simp +decide only [bE, Nat.reduceBeqDiff, Nat.reduceAdd, ev_tmp, h4]
  exact zfz S.tr (zv (cw hw) hb) ht.len)) rfl ?_
 refine zc (.int .i64 j) (fun w' _ => by
  rw [zat, ev_tmp]
  simp +decide only [bE, Nat.reduceBeqDiff, Nat.reduceAdd, h14]) rfl ?_
 simp only [zde, zdd, List.zip_cons_cons, List.zip_nil_right, List.zipWith_cons_cons, List.zipWith_nil_right, List.filter, Bool.not_true, Bool.not_false, List.map, zdn]
 have md : Mod w w.drew zp := Mod.drew _ _
 have m1d := m1w.trans' md
 rw [zcs hW.at_.has]
 simp +decide only [bK, bE, Nat.reduceBeqDiff, BEq.rfl]
 refine (call_at B S hW.at_ (RepA.stay m1d _ ht) j).mono ?_
 rintro _ w2 ⟨ct', rfl, ht', m2⟩
 have mw2 : Mod w w2 zp := md.trans' m2
 refine ⟨mw2.mono fun _ _ _ h => h.elim, ?_⟩
 rw [zie hW.field.has]
 simp +decide only [bK, bE, Nat.reduceBeqDiff, BEq.rfl]
 refine (sp_field B S hW ok.2.2 ok.2.1 (RepF.stay mw2 _ hf) ht' (hwt.at j) (by omega)).mono ?_
 rintro r w3 ⟨ho3, m3⟩
 have mw3 : Mod w w3 zp := mw2.trans' m3
 refine ⟨mw3.mono fun _ _ _ h => h.elim, ?_⟩
 obtain ⟨v4, w4, hap, ho4, m4, _⟩ := zft (ty := N.za) B (h6.stay mw3 fun _ _ _ h => h) (ho3.octA) (Nat.le_trans m1w.size mw3.size) (by omega)
 have m04 : Mod w1 w4 zp := Mod.ofOwn (h6.stay mw3 fun _ _ _ h => h) (m1w.trans' mw3) m4
 simp +decide only [bK, hap]
 refine ⟨(mw3.mono fun _ _ _ h => h.elim).trans m4 fun k o hk h => h.elim id id, ?_⟩
 refine zf fun σ2 hσ => hQ σ2 w4 ?_
 have b0 := hσ 0
 have b1 := hσ 1
 have b2 := hσ 2
 have b4 := hσ 4
 have b6 := hσ 6
 have b7 := hσ 7
 have b8 := hσ 8
 have b9 := hσ 9
 have b10 := hσ 10
 have b11 := hσ 11
 simp +decide only [bE, Nat.reduceBeqDiff, BEq.rfl, Nat.reduceAdd, Nat.zero_add, h0, h1, h2, h4, h7, h8, h9, h10, h11] at b0 b1 b2 b4 b6 b7 b8 b9 b10 b11
 exact ⟨b0, b1, b2, b4, by rw [b6]; exact ho4, b7, b8, b9, b10, b11, hle, m04⟩
end
section
variable {P : Program} {N : Nums} {M : zci}
def bPart (N : Nums) (M : zci) : C :=
 .seq (.ops [
  ⟨some 0, .move (V 11), 0, none, []⟩,
  ⟨some 1, .indexAddr M.zae (V 9) (V 11), 0, none, []⟩,
  ⟨some 2, .load M.zg (T 1), 0, none, []⟩,
  ⟨some 113, .alloc M.zg, 0, none, []⟩,
  ⟨some 114, .assign (T 0), 0, none, []⟩,
  ⟨none, .store M.zg (V 13) (T 2), 0, none, []⟩])
 (.seq (.ops [
  ⟨some 0, .fieldAddr M.zg (V 13) 4, 0, none, []⟩,
  ⟨some 1, .load N.ze (T 0), 0, none, []⟩,
  ⟨some 2, .binOp .lss N.ze (T 1) (.const (.int .i64 0)) N.ze, 0, none, []⟩,
  ⟨some 3, .move (T 2), 0, none, []⟩,
  ⟨some 4, .load M.zg (V 13), 0, some (some 3, true), []⟩,
  ⟨some 5, .move (V 1), 0, some (some 3, true), []⟩,
  ⟨some 6, .call ⟨.value (.func M.zed), #[T 4, T 5], #[M.zg, N.ze]⟩, N.zah, some (some 3, true), []⟩,
  ⟨some 115, .pick (T 3) (T 6) (.const (.bool false)), 0, none, []⟩])
 (.cond 15 (dPart N M) .skip))
theorem W_fields (B : Base P N) (S : SpT P N M) (hW : SW P N M) {loc : List Nat} {N' : Nat} (hlo : zfo loc N') {σ : Env} {w1 w : World} {fv : Value} {v : Int} {flex : Bool} {b : Nat} {fs : List Fld} {t : Tr} {ct : List Value}
  (h : PSt w1 σ w fv v flex b fs.length 0 []) (hb : w1.rangeAt b 0 ct) (ht : RepA w1 t ct) (hwt : wfT t) (hf : zgs w1 fv fs) (hl : fs.length < 4611686018427387904) (ok : ∀ f ∈ fs, OkF P M flex v f) (hbig : (zcu flex v fs 0 t).length < 549755813888) {Q : Exit → Env → World → Prop}
  (hQ : ∀ (σ' : Env) (w' : World), PSt w1 σ' w' fv v flex b fs.length fs.length (zcu flex v fs 0 t) → Q .normal σ' w') :
  W P loc N' (zru N 11 10 12 0 (bPart N M)) Q σ w := by
 refine zkb (i := 11) (l := 10) (c := 12) (k := 0) hlo (L := fs.length) hl (fun j σ w' => PSt w1 σ w' fv v flex b fs.length j (zcu flex v (fs.take j) 0 t)) (fun j σ w h => ⟨h.h11, h.h10, h.le⟩) (fun j σ w b h => h.upd (by decide) _) (by simpa [zcu] using h) (fun σ' w' h => hQ σ' w' (by simpa using h)) (fun j σ' w' hj h => ?_)
 obtain ⟨bb, oo, cc, cs, w2, w3, hv, hr, hix, hld, hal, hst, m03, s3, r3⟩ := fld_box S (hf.stay h.mod) hj
 have okj := ok _ (List.getElem_mem hj)
 have hbj : (zcu flex v (fs.take (j + 1)) 0 t).length < 549755813888 := Nat.lt_of_le_of_lt (zlh flex v t fs (fs.length - (j + 1)) (j + 1) (by omega)) hbig
 rw [zli flex v t hj] at hbj
 have n13 : zao (σ' 6) w'.heap.size := Classical.byContradiction fun hh => by have := (h.h6.blk hh).2; omega
 unfold bPart
 refine zd fun K hK => zaa fun τ => ?_
 simp +decide only [bK, bE, Nat.reduceBeqDiff, BEq.rfl, Nat.reduceAdd, Nat.zero_add, h.h9, h.h11, hix, hld, hal, hst]
 refine hK _ _ (zf fun σ3 hσ => ?_)
 have p0 := hσ 0
 have p1 := hσ 1
 have p2 := hσ 2
 have p4 := hσ 4
 have p6 := hσ 6
 have p7 := hσ 7
 have p8 := hσ 8
 have p9 := hσ 9
 have p10 := hσ 10
 have p11 := hσ 11
 have p13 := hσ 13
 have p14 := hσ 14
 simp +decide only [bE, Nat.reduceBeqDiff, BEq.rfl, Nat.reduceAdd, Nat.zero_add, h.h0, h.h1, h.h2, h.h4, h.h7, h.h8, h.h9, h.h10, h.h11] at p0 p1 p2 p4 p6 p7 p8 p9 p10 p11 p13 p14
 have q : PSt w1 σ3 w3 fv v flex b fs.length j (zcu flex v (fs.take j) 0 t) := ⟨p0, p1, p2, p4, by rw [p6]; exact h.h6.stay m03 fun _ _ _ h => h, p7, p8, p9, p10, p11, h.le, h.mod.trans' m03⟩
 have n13' : zao (σ3 6) w'.heap.size := by rw [p6]; exact n13
 clear hσ hK K n13
 have hr3 := RepF.stay m03 _ hr
 obtain ⟨gv, hcs, hgv⟩ := hr3.out
 have h4c : w3.cell? ⟨w'.heap.size, 4, none⟩ = some (.int .i64 (fs[j]).tag) := r3 4 _ (by rw [hcs]; rfl)
 have hneg : (fs[j]).tag < 0 := okj.1
 refine zd fun K hK => zaa fun τ => ?_
 simp +decide only [bK, bE, Nat.reduceBeqDiff, decide_true, BEq.rfl, Nat.reduceAdd, Nat.zero_add, p13, p1, S.f4.run, B.int.run_load1 rfl, h4c, hneg, zas, fld_load S r3 hr.len]
 rw [zcs hW.Field_has.has]
 simp +decide only [bK, bE, Nat.reduceBeqDiff, BEq.rfl]
 refine (call_has B S hW.Field_has hr3 v).mono ?_
 rintro _ w4 ⟨rfl, m4⟩
 refine hK _ _ (zf fun σ4 hσ => ?_)
 have k0 := hσ 0
 have k1 := hσ 1
 have k2 := hσ 2
 have k4 := hσ 4
 have k6 := hσ 6
 have k7 := hσ 7
 have k8 := hσ 8
 have k9 := hσ 9
 have k10 := hσ 10
 have k11 := hσ 11
 have k13 := hσ 13
 have k14 := hσ 14
 have k15 := hσ 15
 simp +decide only [bE, Nat.reduceBeqDiff, BEq.rfl, Nat.reduceAdd, Nat.zero_add, p0, p1, p2, p4, p7, p8, p9, p10, p11, p13, p14] at k0 k1 k2 k4 k6 k7 k8 k9 k10 k11 k13 k14 k15
 have q4 : PSt w1 σ4 w4 fv v flex b fs.length j (zcu flex v (fs.take j) 0 t) := ⟨k0, k1, k2, k4, by rw [k6]; exact q.h6.stay m4 fun _ _ _ h => h, k7, k8, k9, k10, k11, h.le, q.mod.trans' m4⟩
 have n13 : zao (σ4 6) w'.heap.size := by rw [k6]; exact n13'
 have hb13 : w4.rangeAt w'.heap.size 0 cs := zv m4 r3
 have hlt : w'.heap.size < w4.heap.size := by have := m4.size; omega
 clear hσ hK K
 refine W_if hlo k15 ?_
 have hnext : ∀ {σ5 : Env} {w5 : World}, PSt w1 σ5 w5 fv v flex b fs.length j (zcu flex v (fs.take j) 0 t ++ (if fs[j].has v then zew flex v fs[j] (atT t j) else [])) → σ5 11 = .int .i64 j ∧ PSt w1 (upd σ5 11 (.int .i64 ((j + 1 : Nat) : Int))) w5 fv v flex b fs.length (j + 1) (zcu flex v (fs.take (j + 1)) 0 t) := fun h5 => ⟨h5.h11, by rw [zli flex v t hj]; exact h5.next hj⟩
 cases hh : fs[j].has v with
 | false =>
  simp only [Bool.false_eq_true, if_false]
  refine zbw (hnext ?_)
  rw [hh]; simpa using q4
 | true =>
  rw [hh] at hbj
  simp only [if_true] at hbj ⊢
  rw [List.length_append] at hbj
  refine W_dPart B S hW q4 hb ht hwt k13 k14 hb13 hlt n13 (RepF.stay m4 _ hr3) okj hbj fun σ5 w5 h5 => hnext ?_
  rw [hh]; simpa using h5
end
theorem zuj {k : Nat} {x : List UInt8} : ∀ {a : List (Nat × List UInt8)} {y : Nat × List UInt8}, y ∈ insT k x a → y = (k, x) ∨ y ∈ a
 | [], y, h => by simp [insT] at h; exact .inl h
 | (k', l) :: a, y, h => by
  rw [insT] at h
  split at h
  ·rcases List.mem_cons.1 h with rfl | h
   ·exact .inr (by simp)
   ·exact (zuj h).imp id fun h => List.mem_cons_of_mem _ h
  ·split at h
   ·exact .inr h
   ·rcases List.mem_cons.1 h with rfl | h
    ·exact .inl rfl
    ·exact .inr h
theorem fold_mem : ∀ (u a : List (Nat × List UInt8)) (y : Nat × List UInt8), y ∈ u.foldl (fun a x => insT x.1 x.2 a) a → y ∈ u ∨ y ∈ a
 | [], a, y, h => .inr h
 | x :: u, a, y, h => by
  rcases fold_mem u _ y h with h | h
  ·exact .inl (List.mem_cons_of_mem _ h)
  ·rcases zuj h with rfl | h
   ·exact .inl (by simp)
   ·exact .inr h
theorem ztr {u : List (Nat × List UInt8)} {y : Nat × List UInt8} (h : y ∈ unkT u) : y ∈ u := by
 rcases fold_mem _ _ _ h with h | h
 ·exact List.mem_of_mem_take h
 ·cases h
theorem zts (u : List (Nat × List UInt8)) : (unkT u).length ≤ 32767 := by
 have := zuk (u.take most) []
 simp only [List.length_nil, List.length_take] at this
 unfold unkT
 have : most = 32767 := rfl
 omega
theorem OwnT.tagsA {w : World} {lo : Nat} {v : Value} {a : List (Nat × List UInt8)} (h : OwnT w lo v a) : zks w v a := by
 obtain ⟨cs, ho, hu⟩ := h
 rcases ho with ⟨rfl, e, _⟩ | ⟨b, c, e, _, _, h1, _, hr, _⟩
 ·exact .inl ⟨_, _, rfl, List.length_eq_zero_iff.1 e⟩
 ·exact .inr ⟨b, 0, c, cs, e, h1, hu, hr⟩
section
variable {P : Program} {N : Nums} {M : zci}
structure TSt (w2 : World) (v6 : Value) (vu : Value) (σ : Env) (w : World) (n j : Nat) (acc : List UInt8) : Prop where
 h6 : σ 6 = v6
 h7 : OwnB w w2.heap.size (σ 7) acc
 h8 : σ 8 = .int .i64 j
 h29 : σ 29 = vu
 h30 : σ 30 = .int .i64 n
 h31 : σ 31 = .int .i64 j
 le : j ≤ n
 mod : Mod w2 w zp
theorem TSt.upd {w2 w : World} {v6 vu : Value} {σ : Env} {n j : Nat} {acc : List UInt8} (h : TSt w2 v6 vu σ w n j acc) {i : Nat} (hi : 32 ≤ i) (x : Value) : TSt w2 v6 vu (upd σ i x) w n j acc := by
 obtain ⟨h6, h7, h8, h29, h30, h31, le, mod⟩ := h
 refine ⟨?_, ?_, ?_, ?_, ?_, ?_, le, mod⟩ <;> (rw [zi (by omega)]; assumption)
def bTags (N : Nums) (M : zci) : C :=
 .seq (.ops [
  ⟨some 0, .indexAddr N.zh (V 29) (V 31), 0, none, []⟩,
  ⟨some 1, .load N.zz (T 0), 0, none, []⟩,
  ⟨some 133, .alloc N.zz, 0, none, []⟩,
  ⟨none, .store N.zz (V 33) (T 1), 0, none, []⟩])
 (.seq (.ops [
  ⟨some 0, .fieldAddr N.zz (V 33) 1, 0, none, []⟩,
  ⟨some 1, .load N.za (T 0), 0, none, []⟩,
  ⟨some 2, .call ⟨.value (.func M.zdv), #[T 1], #[N.za]⟩, N.za, none, []⟩,
  ⟨some 134, .assign (T 2), 0, none, []⟩])
 (.seq (.ops [
  ⟨some 0, .move (V 7), 0, none, []⟩,
  ⟨some 1, .fieldAddr N.zz (V 33) 0, 0, none, []⟩,
  ⟨some 2, .load N.zj (T 1), 0, none, []⟩,
  ⟨some 3, .convert N.zj N.zar (T 2), 0, none, []⟩,
  ⟨some 4, .call ⟨.value (.func M.zco), #[T 3], #[N.zar]⟩, N.za, none, []⟩,
  ⟨some 5, .call ⟨.builtin .append, #[T 0, T 4], #[N.za, N.za]⟩, N.za, none, []⟩,
  ⟨some 6, .move (V 34), 0, none, []⟩,
  ⟨some 7, .call ⟨.builtin .len, #[T 6], #[N.za]⟩, N.ze, none, []⟩,
  ⟨some 8, .convert N.ze N.zar (T 7), 0, none, []⟩,
  ⟨some 9, .call ⟨.value (.func M.zco), #[T 8], #[N.zar]⟩, N.za, none, []⟩,
  ⟨some 10, .call ⟨.builtin .append, #[T 5, T 9], #[N.za, N.za]⟩, N.za, none, []⟩,
  ⟨some 11, .move (V 34), 0, none, []⟩,
  ⟨some 12, .call ⟨.builtin .append, #[T 10, T 11], #[N.za, N.za]⟩, N.za, none, []⟩,
  ⟨some 107, .assign (T 12), 0, none, []⟩])
 (.ops [
  ⟨some 0, .move (V 8), 0, none, []⟩,
  ⟨some 1, .binOp .add N.ze (T 0) (.const (.int .i64 1)) N.ze, 0, none, []⟩,
  ⟨some 108, .assign (T 1), 0, none, []⟩])))
theorem W_tag (B : Base P N) (S : SpT P N M) (hW : SW P N M) {loc : List Nat} {N' : Nat} {σ : Env} {w2 w : World} {v6 vu : Value} {u : List (Nat × List UInt8)} {j : Nat} {acc : List UInt8} (hU : zks w2 vu u) (hj : j < u.length) (hk : (u[j]).1 < 4294967296) (hul : u.length < 4611686018427387904)
  (h : TSt w2 v6 vu σ w u.length j acc) (hbig : acc.length < 549755813888) {Q : Exit → Env → World → Prop}
  (hQ : ∀ (σ' : Env) (w' : World), σ' 31 = .int .i64 j → TSt w2 v6 vu (Go.Kf.upd σ' 31 (.int .i64 ((j + 1 : Nat) : Int))) w' u.length (j + 1) (acc ++ tagB u[j]) → Q .normal σ' w') :
  W P loc N' (bTags N M) Q σ w := by
 obtain ⟨fsT, hT⟩ := S.tr.tu
 obtain ⟨bb, oo, cc, s, hvb, hs, hr⟩ := hU.get (List.getElem?_eq_getElem hj)
 obtain ⟨key, hkey⟩ : ∃ key, key = (u[j]).1 := ⟨_, rfl⟩
 rw [← hkey] at hr hk
 have hr' := zv h.mod hr
 have hix := fun {w : World} => zab (P := P) (w := w) S.tr.lg hT (bl := bb) (o := oo) (n := u.length) (c := cc) (i := j) (k := .i64) hj
 have hld := hT.run_load (w := w) (b := bb) (o := oo + j * 2) hr' rfl (fun h => by cases h)
 have hlv : ldv (.struct fsT) [.int .u32 key, s] = .agg [.int .u32 key, s].toArray := rfl
 rw [hlv] at hld
 obtain ⟨wa, wb, hal, hst, _, mb, sb, rb, _⟩ := zuv (cs := [.int .u32 key, s]) hT (by decide) rfl rfl (by
  intro c hc; simp at hc; rcases hc with rfl | rfl
  ·rfl
  ·exact hs.one) w
 unfold bTags
 refine zd fun K hK => zaa fun τ => ?_
 simp +decide only [bK, bE, Nat.reduceBeqDiff, BEq.rfl, Nat.reduceAdd, h.h29, h.h31]
 rw [hvb]
 simp +decide only [bK, hix, hld, hal, hst]
 refine hK _ _ (zf fun σ1 hσ => ?_)
 have a6 := hσ 6
 have a7 := hσ 7
 have a8 := hσ 8
 have a29 := hσ 29
 have a30 := hσ 30
 have a31 := hσ 31
 have a33 := hσ 33
 simp +decide only [bE, Nat.reduceBeqDiff, BEq.rfl, Nat.reduceAdd, h.h6, h.h8, h.h29, h.h30, h.h31] at a6 a7 a8 a29 a30 a31 a33
 clear hσ hK K
 have o7 : OwnB wb w2.heap.size (σ1 7) acc := by rw [a7]; exact h.h7.stay mb fun _ _ _ h => h
 have m2b := h.mod.trans' mb
 have c0 : wb.cell? ⟨w.heap.size, 0, none⟩ = some (.int .u32 key) := rb 0 _ rfl
 have c1 : wb.cell? ⟨w.heap.size, 1, none⟩ = some s := rb 1 _ rfl
 have n33 : zao (σ1 7) w.heap.size := by rw [a7]; exact Classical.byContradiction fun hh => by have := (h.h7.blk hh).2; omega
 have hlt33 : w.heap.size < wb.heap.size := by omega
 obtain ⟨b33, hb33⟩ : ∃ b, b = w.heap.size := ⟨_, rfl⟩
 rw [← hb33] at a33 c0 c1 n33 hlt33
 clear h hix hld hlv hal hst
 refine zd fun K hK => zaa fun τ => ?_
 simp +decide only [bK, bE, BEq.rfl, Nat.reduceAdd, Nat.zero_add, a33, S.tr.g1.run, B.Lu8.run_load1 rfl, c1]
 rw [zal hW.whole.has]
 simp +decide only [bK, bE, BEq.rfl]
 refine (zth B hW.whole hs).mono ?_
 rintro x _ ⟨rfl, hx⟩
 refine hK _ _ (zf fun σ2 hσ => ?_)
 have b6 := hσ 6
 have b7 := hσ 7
 have b8 := hσ 8
 have b29 := hσ 29
 have b30 := hσ 30
 have b31 := hσ 31
 have b33' := hσ 33
 have b34 := hσ 34
 simp +decide only [bE, Nat.reduceBeqDiff, BEq.rfl, Nat.reduceAdd, a6, a8, a29, a30, a31, a33] at b6 b7 b8 b29 b30 b31 b33' b34
 clear hσ hK K
 rw [← b7] at o7 n33
 have hwl : (zbz (u[j]).2).length ≤ 32767 := by simp [zbz, most]; omega
 refine zd fun K hK => zaa fun τ => ?_
 have hc1 := fun {w : World} => zck (P := P) (w := w) (k' := .u32) B.uint32 B.uint64 (n := key) ⟨_, rfl⟩
 have hc2 := fun {w : World} => zck (P := P) (w := w) (k' := .i64) B.int B.uint64 (n := (zbz (u[j]).2).length) ⟨_, rfl⟩
 simp +decide only [bK, bE, Nat.reduceBeqDiff, BEq.rfl, Nat.reduceAdd, Nat.add_zero, b33', S.tr.g0.run, B.uint32.run_load1 rfl, c0, hc1]
 rw [zem key (by omega), zal hW.Uvarint.has]
 simp +decide only [bK, bE, Nat.reduceBeqDiff, BEq.rfl]
 refine (zmf B hW.Uvarint wb key (by omega)).mono ?_
 rintro r3 w3 ⟨ho3, m3⟩
 have hs3 : w2.heap.size ≤ w3.heap.size := Nat.le_trans m2b.size m3.size
 have hu3 : (uvB key).length ≤ 10 := zig (by omega)
 have o73 := o7.stay m3 fun _ _ _ h => h
 obtain ⟨v4, w4, hap4, ho4, m4, _⟩ := zft (ty := N.za) B o73 ho3.octA hs3 (by omega)
 have m24 : Mod w2 w4 zp := Mod.ofOwn o73 (m2b.trans' m3) m4
 simp +decide only [bK, hap4, b34, hx.run_len B, hc2]
 rw [zem _ (by omega), zal hW.Uvarint.has]
 simp +decide only [bK, bE, Nat.reduceBeqDiff, BEq.rfl]
 refine (zmf B hW.Uvarint w4 _ (by omega)).mono ?_
 rintro r5 w5 ⟨ho5, m5⟩
 have hs5 : w2.heap.size ≤ w5.heap.size := Nat.le_trans m24.size m5.size
 have hu5 : (uvB (zbz (u[j]).2).length).length ≤ 10 := zig (by omega)
 have o75 := ho4.stay m5 fun _ _ _ h => h
 obtain ⟨v6', w6, hap6, ho6, m6, _⟩ := zft (ty := N.za) B o75 ho5.octA hs5 (by simp only [List.length_append]; omega)
 have m26 : Mod w2 w6 zp := Mod.ofOwn o75 (m24.trans' m5) m6
 simp +decide only [bK, hap6, b34]
 have hs6 : w2.heap.size ≤ w6.heap.size := m26.size
 have hx6 : OctA w6 x (zbz (u[j]).2) := hx.stay m26
 obtain ⟨v7, w7, hap7, ho7, m7, _⟩ := zft (ty := N.za) B ho6 hx6 hs6 (by simp only [List.length_append]; omega)
 have m27 : Mod w2 w7 zp := Mod.ofOwn ho6 m26 m7
 simp +decide only [bK, hap7]
 refine hK _ _ (zf fun σ3 hσ => ?_)
 have d6 := hσ 6
 have d7 := hσ 7
 have d8 := hσ 8
 have d29 := hσ 29
 have d30 := hσ 30
 have d31 := hσ 31
 simp +decide only [bE, Nat.reduceBeqDiff, BEq.rfl, Nat.reduceAdd, b6, b8, b29, b30, b31] at d6 d7 d8 d29 d30 d31
 clear hσ hK K
 have hadd : IntKind.i64.wrap ((j : Int) + 1) = ((j + 1 : Nat) : Int) := by
  rw [show ((j : Int) + 1) = ((j + 1 : Nat) : Int) by omega]
  exact wrap_i64 (by omega) (by omega)
 refine zaa fun τ => ?_
 simp +decide only [bK, bE, BEq.rfl, Nat.reduceAdd, d8, hadd]
 refine zf fun σ4 hσ => hQ σ4 w7 ?_ ?_
 ·have := hσ 31; simp +decide only [bE, Nat.reduceBeqDiff, Nat.reduceAdd, d31] at this; exact this
 ·have e6 := hσ 6
  have e7 := hσ 7
  have e8 := hσ 8
  have e29 := hσ 29
  have e30 := hσ 30
  simp +decide only [bE, Nat.reduceBeqDiff, BEq.rfl, Nat.reduceAdd, d6, d7, d29, d30] at e6 e7 e8 e29 e30
  refine ⟨?_, ?_, ?_, ?_, ?_, upd_same _ _ _, hj, m27⟩
  ·rw [zi (by decide)]; exact e6
  ·rw [zi (by decide), e7]
   have : tagB u[j] = uvB key ++ (uvB (zbz (u[j]).2).length ++ zbz (u[j]).2) := by rw [hkey]; rfl
   rw [this, ← List.append_assoc, ← List.append_assoc]
   exact ho7
  ·rw [zi (by decide)]; exact e8
  ·rw [zi (by decide)]; exact e29
  ·rw [zi (by decide)]; exact e30
end
section
variable {P : Program} {N : Nums} {M : zci}
theorem W_tags (B : Base P N) (S : SpT P N M) (hW : SW P N M) {loc : List Nat} {N' : Nat} (hlo : zfo loc N') {σ : Env} {w2 w : World} {v6 vu : Value} {u : List (Nat × List UInt8)} (hU : zks w2 vu u) (hk : ∀ x ∈ u, x.1 < 4294967296) (hul : u.length < 4611686018427387904)
  (h : TSt w2 v6 vu σ w u.length 0 []) (hbig : (u.flatMap tagB).length < 549755813888) {Q : Exit → Env → World → Prop}
  (hQ : ∀ (σ' : Env) (w' : World), TSt w2 v6 vu σ' w' u.length u.length (u.flatMap tagB) → Q .normal σ' w') :
  W P loc N' (zru N 31 30 32 6 (bTags N M)) Q σ w := by
 refine zkb (i := 31) (l := 30) (c := 32) (k := 6) hlo (L := u.length) hul (fun j σ w' => TSt w2 v6 vu σ w' u.length j ((u.take j).flatMap tagB)) (fun j σ w h => ⟨h.h31, h.h30, h.le⟩) (fun j σ w b h => h.upd (by decide) _) (by simpa using h) (fun σ' w' h => hQ σ' w' (by simpa using h)) (fun j σ' w' hj h => ?_)
 refine W_tag B S hW hU hj (hk _ (List.getElem_mem hj)) hul h (Nat.lt_of_le_of_lt (ziq tagB u j) hbig) fun σ5 w5 h1 h5 => ⟨h1, ?_⟩
 rw [zhc tagB hj]
 exact h5
theorem sp_part (B : Base P N) (S : SpT P N M) (hW : SW P N M) {flex : Bool} {v : Int} {fs : List Fld} (hl : fs.length < 4611686018427387904) (ok : ∀ f ∈ fs, OkF P M flex v f) : zto P M flex v fs := by
 intro w fv t cs hf ht hwf hbig
 unfold zdk endB at hbig
 rw [List.length_append] at hbig
 refine hW.part.call rfl fun loc N' hlo => ?_
 unfold zro
 refine zd fun K hK => zaa fun τ => ?_
 simp +decide only [bK, bE, Nat.reduceAdd]
 obtain ⟨w1, hw1⟩ : ∃ w1, w1 = w.alloc (.cells (Value.agg cs.toArray).cells N.zb) := ⟨_, rfl⟩
 have m1 : Mod w w1 zp := by rw [hw1]; exact Mod.alloc _ _ _
 have hb : w1.rangeAt w.heap.size 0 cs := by
  rw [hw1]; exact zw w _ _ _
 have hs1 : w1.heap.size = w.heap.size + 1 := by rw [hw1]; exact zan _ _
 rw [← hw1]
 clear hw1
 refine hK _ _ (zf fun σ1 hσ => ?_)
 have a0 := hσ 0
 have a1 := hσ 1
 have a2 := hσ 2
 have a4 := hσ 4
 simp +decide only [bE, Nat.reduceBeqDiff, BEq.rfl, Nat.reduceAdd, Nat.zero_add, zrz, zou, zot] at a0 a1 a2 a4
 clear hσ hK K
 refine zd fun K hK => zaa fun τ => ?_
 simp +decide only [bK, Nat.reduceAdd]
 refine hK _ _ (zf fun σ2 hσ => ?_)
 have b0 := hσ 0
 have b1 := hσ 1
 have b2 := hσ 2
 have b4 := hσ 4
 have b6 := hσ 6
 have b7 := hσ 7
 simp +decide only [bE, Nat.reduceBeqDiff, BEq.rfl, Nat.reduceAdd, Nat.zero_add, a0, a1, a2, a4] at b0 b1 b2 b4 b6 b7
 clear hσ hK K
 refine zd fun K hK => zaa fun τ => ?_
 simp +decide only [bK, Nat.reduceAdd]
 refine hK _ _ (zf fun σ3 hσ => ?_)
 have c0 := hσ 0
 have c1 := hσ 1
 have c2 := hσ 2
 have c4 := hσ 4
 have c6 := hσ 6
 have c7 := hσ 7
 have c8 := hσ 8
 simp +decide only [bE, Nat.reduceBeqDiff, BEq.rfl, Nat.reduceAdd, Nat.zero_add, b0, b1, b2, b4, b6, b7] at c0 c1 c2 c4 c6 c7 c8
 clear hσ hK K
 have hf1 := hf.stay m1
 have ht1 := RepA.stay m1 _ ht
 refine zd fun K hK => zd fun K1 hK1 => zaa fun τ => ?_
 simp +decide only [bK, bE, BEq.rfl, Nat.reduceAdd, Nat.zero_add, c0, hf.run_len S]
 refine hK1 _ _ (zf fun σ4 hσ => ?_)
 have d0 := hσ 0
 have d1 := hσ 1
 have d2 := hσ 2
 have d4 := hσ 4
 have d6 := hσ 6
 have d7 := hσ 7
 have d8 := hσ 8
 have d9 := hσ 9
 have d10 := hσ 10
 have d11 := hσ 11
 simp +decide only [bE, Nat.reduceBeqDiff, BEq.rfl, Nat.reduceAdd, Nat.zero_add, c0, c1, c2, c4, c6, c7, c8] at d0 d1 d2 d4 d6 d7 d8 d9 d10 d11
 clear hσ hK1 K1
 refine W_fields B S hW hlo ⟨d0, d1, d2, d4, by rw [d6]; exact zom, d7, d8, d9, d10, d11, Nat.zero_le _, .refl _ _⟩ hb ht1 hwf hf1 hl ok (by omega) fun σ5 w5 st => hK _ _ ?_
 clear hK K d0 d1 d2 d4 d6 d7 d8 d9 d10 d11 c0 c1 c2 c4 c6 c7 c8 b0 b1 b2 b4 b6 b7 a0 a1 a2 a4
 refine zd fun K hK => zd fun K1 hK1 => zaa fun τ => ?_
 simp +decide only [bK, bE, BEq.rfl, Nat.reduceAdd, st.h2]
 refine hK1 _ _ (zf fun σ6 hσ => ?_)
 have a0 := hσ 0
 have a4 := hσ 4
 have a6 := hσ 6
 have a7 := hσ 7
 have a8 := hσ 8
 have a16 := hσ 16
 simp +decide only [bE, Nat.reduceBeqDiff, BEq.rfl, Nat.reduceAdd, Nat.zero_add, st.h0, st.h4, st.h7, st.h8] at a0 a4 a6 a7 a8 a16
 clear hσ hK1 K1
 refine W_if hlo a16 ?_
 cases flex with
 | false =>
  simp only [Bool.not_false, if_true]
  refine zd fun K1 hK1 => zaa fun τ => ?_
  simp +decide only [bK, bE, BEq.rfl, Nat.reduceAdd]
  refine hK1 _ _ (zf fun σ7 hσ => zbx ⟨.inr rfl, _, rfl, ?_⟩)
  have q := hσ 5
  simp +decide only [bE, BEq.rfl, Nat.reduceAdd] at q
  rw [q, a6]
  unfold zdk endB
  simp only [Bool.false_eq_true, if_false, List.append_nil]
  exact ⟨st.h6.mono_lo (by omega), m1.trans' st.mod⟩
 | true =>
  simp only [Bool.not_true, Bool.false_eq_true, if_false]
  refine zbw (hK _ _ ?_)
  clear hK K a16
  simp only [if_true] at hbig
  rw [List.length_append] at hbig
  have h6 := st.h6
  rw [← a6] at h6
  refine zd fun K hK => zd fun K1 hK1 => zaa fun τ => ?_
  simp +decide only [bK, bE, Nat.reduceAdd, Nat.zero_add, a0]
  rw [zal hW.known.has]
  simp +decide only [bK, bE, BEq.rfl]
  refine (sp_known B S hW.known (hf1.stay st.mod) hl fun f hf => (ok f hf).1).mono ?_
  rintro _ w6 ⟨rfl, m6⟩
  have hcv := fun {w : World} => zck (P := P) (w := w) (k' := .u32) B.uint32 B.int (n := 0) ⟨_, rfl⟩
  have hw0 : IntKind.i64.wrap 0 = 0 := by decide
  simp +decide only [bK, hcv, hw0]
  refine hK1 _ _ (zf fun σ7 hσ => ?_)
  have b0 := hσ 0
  have b4 := hσ 4
  have b6 := hσ 6
  have b7 := hσ 7
  have b8 := hσ 8
  have b17 := hσ 17
  have b18 := hσ 18
  simp +decide only [bE, Nat.reduceBeqDiff, BEq.rfl, Nat.reduceAdd, Nat.zero_add, a0, a4, a7, a8] at b0 b4 b6 b7 b8 b17 b18
  clear hσ hK1 K1
  obtain ⟨v6, hv6⟩ : ∃ v6, v6 = σ6 6 := ⟨_, rfl⟩
  rw [← hv6] at h6 b6
  refine zkb (i := 18) (l := 17) (c := 19) (k := 2) hlo (L := 0) (by omega) (fun j σ w' => σ 0 = fv ∧ σ 4 = .pointer (some ⟨w.heap.size, 0, none⟩) ∧ σ 6 = v6 ∧ σ 7 = .slice none 0 0 ∧ σ 8 = .int .i64 0 ∧ σ 17 = .int .i64 0 ∧ σ 18 = .int .i64 j ∧ j ≤ 0 ∧ w' = w6) (fun j σ w h => ⟨h.2.2.2.2.2.2.1, h.2.2.2.2.2.1, h.2.2.2.2.2.2.2.1⟩) (fun j σ w b h => ?_) ⟨b0, b4, b6, b7, b8, b17, b18, Nat.le_refl _, rfl⟩ (fun σ8 w8 h => hK _ _ ?_) (fun j σ' w' hj h => absurd hj (by omega))
  ·obtain ⟨x0, x4, x6, x7, x8, x17, x18, xl, rfl⟩ := h
   refine ⟨?_, ?_, ?_, ?_, ?_, ?_, ?_, xl, rfl⟩ <;> (rw [zi (by decide)]; assumption)
  obtain ⟨x0, x4, x6, x7, x8, _, _, _, rfl⟩ := h
  clear hK K b0 b4 b6 b7 b8 b17 b18 a0 a4 a6 a7 a8 hv6
  have m18 : Mod w1 w8 zp := st.mod.trans' m6
  have h68 := h6.stay m6 fun _ _ _ h => h
  have hb8 := zv m18 hb
  obtain ⟨vs, vl, vu, hcs, _, _, htu⟩ := ht1.out
  have hc4 : w8.cell? ⟨w.heap.size, 4, none⟩ = some vu := hb8 4 _ (by rw [hcs]; rfl)
  refine zd fun K hK => zd fun K1 hK1 => zaa fun τ => ?_
  simp +decide only [bK, bE, Nat.reduceBeqDiff, BEq.rfl, Nat.reduceAdd, Nat.zero_add, x0, x4, S.tr.h4.run, S.tr.lg.run_load1 rfl, hc4]
  rw [zcs hW.unknown.has]
  simp +decide only [bK, bE, Nat.reduceBeqDiff, BEq.rfl]
  refine (sp_unknown B S hW (hf1.stay m18) hl (fun f hf => (ok f hf).1) (htu.stay m18)).mono ?_
  rintro r w9 ⟨hr, m9⟩
  simp +decide only [bK, hr.run_len S]
  refine hK1 _ _ (zf fun σ9 hσ => ?_)
  have e6 := hσ 6
  have e7 := hσ 7
  have e8 := hσ 8
  have e29 := hσ 29
  have e30 := hσ 30
  have e31 := hσ 31
  simp +decide only [bE, Nat.reduceBeqDiff, BEq.rfl, Nat.reduceAdd, x6, x7, x8] at e6 e7 e8 e29 e30 e31
  clear hσ hK1 K1
  have hul := zts t.u
  refine W_tags B S hW hlo (w2 := w9) (v6 := v6) (vu := r) (u := unkT t.u) hr.tagsA (fun x hx => hwf.u x (ztr hx)) (by omega) ⟨e6, by rw [e7]; exact zom, e8, e29, e30, e31, Nat.zero_le _, .refl _ _⟩ (by omega) fun σ10 w10 tt => hK _ _ ?_
  clear hK K
  have m19 := m18.trans' m9
  have h610 := (h68.stay m9 fun _ _ _ h => h).stay tt.mod fun _ _ _ h => h
  have m110 := m19.trans' tt.mod
  have hcv := fun {w : World} => zck (P := P) (w := w) (k' := .i64) B.int B.uint64 (n := (unkT t.u).length) ⟨_, rfl⟩
  refine zd fun K hK => zaa fun τ => ?_
  simp +decide only [bK, bE, Nat.reduceBeqDiff, BEq.rfl, Nat.reduceAdd, tt.h6, tt.h8, hcv]
  rw [zem _ (by omega), zal hW.Uvarint.has]
  simp +decide only [bK, bE, Nat.reduceBeqDiff, BEq.rfl]
  refine (zmf B hW.Uvarint w10 _ (by omega)).mono ?_
  rintro r3 w11 ⟨ho3, m11⟩
  have hu3 : (uvB (unkT t.u).length).length ≤ 10 := zig (by omega)
  have h611 := h610.stay m11 fun _ _ _ h => h
  have m111 := m110.trans' m11
  obtain ⟨v4, w12, hap4, ho4, m12, _⟩ := zft (ty := N.za) B h611 ho3.octA m111.size (by omega)
  have m112 : Mod w1 w12 zp := Mod.ofOwn h611 m111 m12
  have h7 : OctA w12 (σ10 7) ((unkT t.u).flatMap tagB) := by
   have h711 := tt.h7.stay m11 fun _ _ _ h => h
   exact (h711.stay m12 fun b _ hb hv => by have x1 := (tt.h7.blk hb).1; have x2 := (h68.blk hv).2; have x3 := m9.size; omega).octA
  simp +decide only [bK, hap4]
  obtain ⟨v5, w13, hap5, ho5, m13, _⟩ := zft (ty := N.za) B ho4 h7 m112.size (by simp only [List.length_append]; omega)
  have m113 : Mod w1 w13 zp := Mod.ofOwn ho4 m112 m13
  simp +decide only [bK, hap5]
  refine hK _ _ (zf fun σ11 hσ => zbx ⟨.inr rfl, _, rfl, ?_⟩)
  have q := hσ 5
  simp +decide only [bE, BEq.rfl, Nat.reduceAdd] at q
  rw [q]
  unfold zdk endB
  simp only [if_true]
  rw [← List.append_assoc]
  exact ⟨ho5.mono_lo (by omega), m1.trans' m113⟩
end
mutual
def okFB : Fld → Bool
 | .mk k _ _ _ g _ o sub => decide (g < 0) && decide (k ≠ 10) && (decide (k ≠ 11) || decide (o ≠ 10) || (Nat.blt sub.length 1000 && zqc sub))
def zqc : List Fld → Bool
 | [] => true
 | f :: r => okFB f && zqc r
end
section
variable {P : Program} {N : Nums} {M : zci}
mutual
theorem okF_of (B : Base P N) (S : SpT P N M) (hW : SW P N M) {flex : Bool} {v : Int} : ∀ (f : Fld), okFB f = true → OkF P M flex v f
 | .mk k _ _ _ g _ o sub, h => by
  simp only [okFB, Bool.and_eq_true, decide_eq_true_eq, Bool.or_eq_true] at h
  obtain ⟨⟨h1, h2⟩, h3⟩ := h
  refine ⟨h1, h2, fun hk ho => ?_⟩
  rcases h3 with (h3 | h3) | ⟨h3, h4⟩
  ·exact absurd hk h3
  ·exact absurd ho h3
  ·have : sub.length < 1000 := by simpa using h3
   exact sp_part B S hW (Nat.lt_trans this (by decide)) (zxq B S hW sub h4)
theorem zxq (B : Base P N) (S : SpT P N M) (hW : SW P N M) {flex : Bool} {v : Int} : ∀ (l : List Fld), zqc l = true → ∀ f ∈ l, OkF P M flex v f
 | [], _, f, hf => by cases hf
 | g :: r, h, f, hf => by
  simp only [zqc, Bool.and_eq_true] at h
  rcases List.mem_cons.1 hf with e | hf
  ·rw [e]; exact okF_of B S hW g h.1
  ·exact zxq B S hW r h.2 f hf
end
theorem partOk_of (B : Base P N) (S : SpT P N M) (hW : SW P N M) {flex : Bool} {v : Int} {l : List Fld} (h1 : l.length < 1000) (h : zqc l = true) : zto P M flex v l :=
 sp_part B S hW (Nat.lt_trans h1 (by decide)) (zxq B S hW l h)
def zkm (fl v : Int) : Bool := decide (0 ≤ fl) && decide (fl ≤ v)
theorem sp_Write (B : Base P N) (S : SpT P N M) (hW : SW P N M) {w : World} {fv : Value} {fl v : Int} {fs : List Fld} {t : Tr} {cs : List Value} (h1 : fs.length < 1000) (hok : zqc fs = true) (hf : zgs w fv fs) (ht : RepA w t cs) (hwf : wfT t)
  (hbig : (zdk (zkm fl v) v fs t).length < 549755813888) :
  Call P M.zlj #[.agg [fv, .int .i64 fl].toArray, .int .i64 v, .agg cs.toArray] w (Gave w (zdk (zkm fl v) v fs t)) := by
 refine hW.Write.call rfl fun loc N' hlo => ?_
 unfold zpw
 refine zd fun K hK => zaa fun τ => ?_
 simp +decide only [bK, bE, Nat.reduceBeqDiff, Nat.reduceAdd, Nat.zero_add]
 obtain ⟨w1, hw1⟩ : ∃ w1, w1 = w.alloc (.cells (Value.cells (.agg [fv, .int .i64 fl].toArray)) M.zaq) := ⟨_, rfl⟩
 have m1 : Mod w w1 zp := by rw [hw1]; exact Mod.alloc _ _ _
 have r1 : w1.rangeAt w.heap.size 0 [fv, .int .i64 fl] := by rw [hw1]; exact zw w _ _ _
 rw [← hw1]
 clear hw1
 obtain ⟨w2, hw2⟩ : ∃ w2, w2 = w1.alloc (.cells (Value.cells (.agg cs.toArray)) N.zb) := ⟨_, rfl⟩
 have m2 : Mod w1 w2 zp := by rw [hw2]; exact Mod.alloc _ _ _
 have r2 : w2.rangeAt w1.heap.size 0 cs := by rw [hw2]; exact zw w1 _ _ _
 rw [← hw2]
 clear hw2
 have m02 := m1.trans' m2
 have r1' := zv m2 r1
 refine hK _ _ (zf fun σ hσ => ?_)
 have f1 := hσ 1
 have f3 := hσ 3
 have f4 := hσ 4
 simp +decide only [bE, Nat.reduceBeqDiff, BEq.rfl, Nat.reduceAdd, zlv] at f1 f3 f4
 clear hσ hK K
 have x0 := r1' 0 _ rfl
 have x1 := r1' 1 _ rfl
 have hld := zfz S.tr r2 ht.len
 have hpart := partOk_of B S hW (flex := zkm fl v) (v := v) h1 hok w2 fv t cs (hf.stay m02) (RepA.stay m02 _ ht) hwf hbig
 refine zd fun K hK => zaa fun τ => ?_
 have fin : ∀ {r : Value} {w3 : World} {ρ : Env}, Gave w2 (zdk (zkm fl v) v fs t) r w3 → ρ 105 = r → K (locs ρ) w3 := fun {r w3 ρ} h hq => hK _ _ (zbx ⟨.inr rfl, _, rfl, by
  show Gave w _ (locs ρ 5) w3
  rw [show locs ρ 5 = r from hq]
  exact ⟨h.1.mono_lo m02.size, m02.trans' h.2⟩⟩)
 by_cases a : fl ≥ 0
 ·have hfx : zkm fl v = decide (v ≥ fl) := by unfold zkm; simp [show 0 ≤ fl from a]
  simp +decide only [bK, bE, Nat.reduceBeqDiff, decide_true, BEq.rfl, Nat.reduceAdd, Nat.add_zero, Nat.zero_add, if_true, f1, f3, f4, S.m0.run, S.m1.run, S.lf.run_load1 rfl, B.int.run_load1 rfl, x0, x1, a, zas, zcc, hld]
  rw [zie hW.part.has]
  simp +decide only [bK, bE, Nat.reduceBeqDiff, BEq.rfl]
  rw [← hfx]
  refine hpart.mono ?_
  rintro r w3 hg
  exact fin hg (by simp +decide only [bE, BEq.rfl])
 ·have hfx : zkm fl v = false := by unfold zkm; simp [show ¬ 0 ≤ fl from a]
  simp +decide only [bK, bE, Nat.reduceBeqDiff, decide_false, BEq.rfl, Nat.reduceAdd, Nat.add_zero, Nat.zero_add, if_false, f1, f3, f4, S.m0.run, S.m1.run, S.lf.run_load1 rfl, B.int.run_load1 rfl, x0, x1, a, zbs, Bool.not_true, zcc, hld]
  rw [zie hW.part.has]
  simp +decide only [bK, bE, Nat.reduceBeqDiff, BEq.rfl]
  rw [← hfx]
  refine hpart.mono ?_
  rintro r w3 hg
  exact fin hg (by simp +decide only [bE, BEq.rfl])
end
def zkt (f : Fld) (x : Tr) : Prop :=
 if f.kind = 8 then x.nl = decide (0 ≤ f.null) ∧ x.s = []
 else if f.kind = 7 then x.s = List.replicate 16 0
 else if f.kind = 9 ∨ f.kind = 11 then x.s = [] ∧ x.l = []
 else x.n = numK f.kind f.dflt
def zlb (kind : Int) (pt : Tr → Tr → Prop) (t g : Tr) : Prop :=
 if kind = 8 ∨ kind = 9 then g.s = zbz t.s
 else if kind = 7 then g.s = idB t.s
 else if kind = 10 then pt t g
 else g.n = numK kind t.n
def Fld.may (f : Fld) (v : Int) : Bool := decide (0 ≤ f.null) && decide (f.null ≤ v)
def zve (flex : Bool) (u : List (Nat × List UInt8)) : List (Nat × List UInt8) := if flex then (unkT u).map fun x => (x.1, zbz x.2) else []
mutual
def zvg (flex : Bool) (v : Int) : Fld → Tr → Tr → Prop
 | .mk k f t' n g d o sub, t, y =>
  (k = 8 ∨ k = 10 ∨ Fld.may (.mk k f t' n g d o []) v = true → y.nl = Fld.nullB (.mk k f t' n g d o []) v t) ∧
  (Fld.nullB (.mk k f t' n g d o []) v t = false →
   if k = 11 then y.l.length = (zei t.l).length ∧ ∀ (i : Nat) (x z : Tr), (zei t.l)[i]? = some x → y.l[i]? = some z →
    (o = 8 ∨ o = 10 → z.nl = false) ∧ zlb o (fun t g => g.l.length = sub.length ∧ zqs flex v sub 0 t g ∧ g.u = zve flex t.u) x z
   else zlb k (fun t g => g.l.length = sub.length ∧ zqs flex v sub 0 t g ∧ g.u = zve flex t.u) t y)
def zqs (flex : Bool) (v : Int) : List Fld → Nat → Tr → Tr → Prop
 | [], _, _, _ => True
 | f :: r, i, t, g => (∀ y, g.l[i]? = some y → if f.has v then zvg flex v f (atT t i) y else zkt f y) ∧ zqs flex v r (i + 1) t g
end
def zvf (flex : Bool) (v : Int) (fs : List Fld) (t g : Tr) : Prop := g.l.length = fs.length ∧ zqs flex v fs 0 t g ∧ g.u = zve flex t.u
theorem zmb {flex : Bool} {v : Int} {f : Fld} {t y : Tr} : zvg flex v f t y ↔ (f.kind = 8 ∨ f.kind = 10 ∨ f.may v = true → y.nl = f.nullB v t) ∧ (f.nullB v t = false →
   if f.kind = 11 then y.l.length = (zei t.l).length ∧ ∀ (i : Nat) (x z : Tr), (zei t.l)[i]? = some x → y.l[i]? = some z → (f.of = 8 ∨ f.of = 10 → z.nl = false) ∧ zlb f.of (zvf flex v f.sub) x z
   else zlb f.kind (zvf flex v f.sub) t y) := by
 obtain ⟨k, fr, t', n, g, d, o, sub⟩ := f
 rw [zvg]
 exact Iff.rfl
section
variable {P : Program} {N : Nums} {M : zci}
end
section
variable {P : Program} {N : Nums} {M : zci}
end
section
variable {a b c d e : Value}
end
section
variable {P : Program} {N : Nums} {M : zci}
end
section
variable {P : Program} {N : Nums} {M : zci}
end
section
variable {P : Program} {N : Nums} {M : zci}
end
section
variable {P : Program} {N : Nums} {M : zci}
end
section
variable {P : Program} {N : Nums} {M : zci}
end
section
variable {P : Program} {N : Nums} {M : zci}
end
section
variable {P : Program} {N : Nums} {M : zci}
end
def rs (l : List UInt8) : RS := ⟨l, false, false⟩
theorem be_foldl (l : List UInt8) (a : Nat) : l.foldl (fun a x => a * 256 + x.toNat) a = a * 256 ^ l.length + be l := by
 unfold be
 induction l generalizing a with
 | nil => simp
 | cons x l ih =>
  rw [List.foldl_cons, List.foldl_cons, ih, ih (0 * 256 + x.toNat), List.length_cons, Nat.pow_succ, Nat.add_mul, Nat.zero_mul, Nat.zero_add, Nat.mul_assoc, Nat.mul_comm 256, Nat.add_assoc]
theorem be_cons (x : UInt8) (l : List UInt8) : be (x :: l) = x.toNat * 256 ^ l.length + be l := by
 rw [be, List.foldl_cons, be_foldl, Nat.zero_mul, Nat.zero_add]
theorem wrap_u8i (n : Int) : IntKind.u8.wrap n = n % 256 := by simp [IntKind.wrap, IntKind.bits, IntKind.signed]
theorem zkr (n : Int) : ∀ k : Nat, (be (fixB n k) : Int) = n % (256 ^ k : Nat)
 | 0 => by simp [fixB, be]
 | k + 1 => by
  rw [fixB, be_cons, zdf, Int.natCast_add, zkr n k, wrap_u8i]
  have hp : (2 : Int) ^ (8 * k) = ((256 ^ k : Nat) : Int) := by
   rw [show (256 : Nat) = 2 ^ 8 from rfl, ← Nat.pow_mul, Int.natCast_pow]; rfl
  rw [hp]
  obtain ⟨p, hpk⟩ : ∃ p : Nat, p = 256 ^ k := ⟨_, rfl⟩
  have hp0 : 0 < p := by rw [hpk]; exact Nat.pow_pos (by decide)
  rw [← hpk, Nat.pow_succ, ← hpk]
  rw [Int.fdiv_eq_ediv_of_nonneg _ (by omega)]
  have hd : (UInt8.ofNat ((n / (p : Int)) % 256).toNat).toNat = ((n / (p : Int)) % 256).toNat := by
   rw [UInt8.toNat_ofNat']; omega
  rw [hd]
  have h1 : ((((n / (p : Int)) % 256).toNat : Nat) : Int) = (n / (p : Int)) % 256 := by omega
  rw [Int.natCast_mul, h1]
  have e1 := Int.emod_add_mul_ediv n (p : Int)
  have e2 := Int.emod_add_mul_ediv (n / (p : Int)) 256
  have l1 := Int.emod_nonneg n (show (p : Int) ≠ 0 by omega)
  have l2 := Int.emod_lt_of_pos n (show (0 : Int) < p by omega)
  have l3 := Int.emod_nonneg (n / (p : Int)) (show (256 : Int) ≠ 0 by decide)
  have l4 := Int.emod_lt_of_pos (n / (p : Int)) (show (0 : Int) < 256 by decide)
  generalize n % (p : Int) = m at *
  generalize (n / (p : Int)) % 256 = d at *
  generalize (n / (p : Int)) / 256 = q at *
  generalize n / (p : Int) = z at *
  subst e2
  have hn : n = (d * p + m) + ((p * 256 : Nat) : Int) * q := by
   rw [← e1, Int.natCast_mul, Int.mul_add, Int.mul_comm d, Int.mul_assoc]
   have : ((256 : Nat) : Int) = 256 := rfl
   rw [this]
   omega
  rw [hn, Int.add_mul_emod_self_left, Int.emod_eq_of_lt]
  ·have := Int.mul_nonneg l3 (show (0 : Int) ≤ p by omega); omega
  ·have : d * p ≤ 255 * p := Int.mul_le_mul_of_nonneg_right (by omega) (by omega)
   rw [Int.natCast_mul]; omega
theorem zlz (k : IntKind) (n : Int) : k.wrap (n % (2 ^ k.bits : Int)) = k.wrap n := by
 unfold IntKind.wrap
 simp only [Int.emod_emod_of_dvd n (Int.dvd_refl _)]
theorem take_app {α : Type} (x r : List α) {k : Nat} (h : x.length = k) : (x ++ r).take k = x := by subst h; simp
theorem drop_app {α : Type} (x r : List α) {k : Nat} (h : x.length = k) : (x ++ r).drop k = r := by subst h; simp
theorem zvy {c : Nat} {g : List UInt8 → Int} {x r : List UInt8} (h : x.length = c) : zon c g (rs (x ++ r)) = (g x, rs r) := by
 unfold zon rs
 simp only [List.length_append]
 rw [if_neg (by omega), take_app x r h, drop_app x r h]
theorem zkk {c : Nat} {g : List UInt8 → Value} {z : Value} {x r : List UInt8} (h : x.length = c) : zdz c g z (rs (x ++ r)) = (g x, rs r) := by
 unfold zdz rs
 simp only [List.length_append]
 rw [if_neg (by omega), take_app x r h, drop_app x r h]
theorem zxs (n : Int) (r : List UInt8) : i16N (rs (fixB n 2 ++ r)) = (IntKind.i16.wrap n, rs r) := by
 rw [i16N, zvy (zdf n 2), zkr]
 congr 1
 exact zlz .i16 n
theorem zrh (n : Int) (r : List UInt8) : i32N (rs (fixB n 4 ++ r)) = (IntKind.i32.wrap n, rs r) := by
 rw [i32N, zvy (zdf n 4), zkr]
 congr 1
 exact zlz .i32 n
theorem zms {n : Nat} (hn : n < 4294967296) (r : List UInt8) : uvN (rs (uvB n ++ r)) = (n, rs r) := by
 have t : ∀ m, m < 256 → (UInt8.ofNat m).toNat = m := fun m hm => by rw [UInt8.toNat_ofNat']; omega
 by_cases h1 : n < 128
 ·have e : uvB n = [UInt8.ofNat n] := zfc h1
  have d : uvD ([UInt8.ofNat n] ++ r) = (n, 1) := by simp only [List.cons_append, List.nil_append, uvD, t n (by omega)]; rw [if_pos h1]
  unfold uvN rs; rw [e]; simp only [d]; rfl
 rw [znb h1]
 by_cases h2 : n / 128 < 128
 ·rw [zfc h2]
  have d : uvD ((UInt8.ofNat (n % 128 + 128) :: [UInt8.ofNat (n / 128)]) ++ r) = (n, 2) := by
   simp only [List.cons_append, List.nil_append, uvD, t (n % 128 + 128) (by omega), t (n / 128) (by omega)]
   rw [if_neg (by omega), if_pos h2]
   congr 1; omega
  unfold uvN rs; simp only [d]; rfl
 rw [znb h2]
 by_cases h3 : n / 128 / 128 < 128
 ·rw [zfc h3]
  have d : uvD ((UInt8.ofNat (n % 128 + 128) :: UInt8.ofNat (n / 128 % 128 + 128) :: [UInt8.ofNat (n / 128 / 128)]) ++ r) = (n, 3) := by
   simp only [List.cons_append, List.nil_append, uvD, t (n % 128 + 128) (by omega), t (n / 128 % 128 + 128) (by omega), t (n / 128 / 128) (by omega)]
   rw [if_neg (by omega), if_neg (by omega), if_pos h3]
   congr 1; omega
  unfold uvN rs; simp only [d]; rfl
 rw [znb h3]
 by_cases h4 : n / 128 / 128 / 128 < 128
 ·rw [zfc h4]
  have d : uvD ((UInt8.ofNat (n % 128 + 128) :: UInt8.ofNat (n / 128 % 128 + 128) :: UInt8.ofNat (n / 128 / 128 % 128 + 128) :: [UInt8.ofNat (n / 128 / 128 / 128)]) ++ r) = (n, 4) := by
   simp only [List.cons_append, List.nil_append, uvD, t (n % 128 + 128) (by omega), t (n / 128 % 128 + 128) (by omega), t (n / 128 / 128 % 128 + 128) (by omega), t (n / 128 / 128 / 128) (by omega)]
   rw [if_neg (by omega), if_neg (by omega), if_neg (by omega), if_pos h4]
   congr 1; omega
  unfold uvN rs; simp only [d]; rfl
 rw [znb h4, zfc (by omega)]
 have d : uvD ((UInt8.ofNat (n % 128 + 128) :: UInt8.ofNat (n / 128 % 128 + 128) :: UInt8.ofNat (n / 128 / 128 % 128 + 128) :: UInt8.ofNat (n / 128 / 128 / 128 % 128 + 128) :: [UInt8.ofNat (n / 128 / 128 / 128 / 128)]) ++ r) = (n, 5) := by
  simp only [List.cons_append, List.nil_append, uvD, t (n % 128 + 128) (by omega), t (n / 128 % 128 + 128) (by omega), t (n / 128 / 128 % 128 + 128) (by omega), t (n / 128 / 128 / 128 % 128 + 128) (by omega), t (n / 128 / 128 / 128 / 128) (by omega)]
  rw [if_neg (by omega), if_neg (by omega), if_neg (by omega), if_neg (by omega), if_pos (by omega)]
  congr 1; omega
 unfold uvN rs; simp only [d]; rfl
theorem zxa (n : Nat) : 0 < (uvB n).length := by
 by_cases h : n < 128
 ·rw [zfc h]; simp
 ·rw [znb h]; simp
theorem ztx (x r : List UInt8) : zqb (x.length : Int) (rs (x ++ r)) = false := by
 unfold zqb rs; simp; omega
theorem zoc (x r : List UInt8) : zee (x.length : Int) (rs (x ++ r)) = x := by
 unfold zee; rw [ztx, if_neg (by simp)]; simp [rs]
theorem zja (x r : List UInt8) : zii (x.length : Int) (rs (x ++ r)) = rs r := by
 unfold zii; rw [ztx, if_neg (by simp)]; simp [rs]
theorem zqg (x r : List UInt8) : zof (x.length : Int) (rs (x ++ r)) = some x := by
 unfold zof ztw; rw [ztx, zoc]; simp [rs]
theorem zqo {n : Nat} (h : n ≤ 32767) : IntKind.i16.wrap (n : Int) = n := by
 show (let m := (n : Int) % 65536; if (true && decide (m ≥ 32768)) = true then m - 65536 else m) = n
 have : (n : Int) % 65536 = n := by omega
 simp only [this]
 rw [if_neg (by simp; omega)]
theorem zla {n : Nat} (h : n < 2147483648) : IntKind.i32.wrap (n : Int) = n := by
 show (let m := (n : Int) % 4294967296; if (true && decide (m ≥ 2147483648)) = true then m - 4294967296 else m) = n
 have : (n : Int) % 4294967296 = n := by omega
 simp only [this]
 rw [if_neg (by simp; omega)]
theorem str_rs {s : List UInt8} (h : s.length ≤ 32767) (r : List UInt8) : strR (rs (fixB s.length 2 ++ (s ++ r))) = (s, rs r) := by
 unfold strR; rw [zxs, zqo h, zoc, zja]
theorem cstr_rs {s : List UInt8} (h : s.length ≤ 32767) (r : List UInt8) : zix (rs (uvB (s.length + 1) ++ (s ++ r))) = (s, rs r) := by
 unfold zix; rw [zms (by omega)]
 have : (((s.length + 1 : Nat) : Int) - 1) = (s.length : Int) := by omega
 simp only [this]
 rw [zoc, zja]
theorem nstr_rs {s : List UInt8} (h : s.length ≤ 32767) (r : List UInt8) : zmo (rs (fixB s.length 2 ++ (s ++ r))) = (some s, rs r) := by
 unfold zmo; rw [str_rs h, zxs, zqo h, if_neg (by simp)]
theorem nstr_rs0 (r : List UInt8) : zmo (rs (fixB (-1) 2 ++ r)) = (none, rs r) := by
 unfold zmo; rw [zxs, if_pos (by show IntKind.i16.wrap (-1) < 0; decide)]
theorem cnstr_rs {s : List UInt8} (h : s.length ≤ 32767) (r : List UInt8) : zhv (rs (uvB (s.length + 1) ++ (s ++ r))) = (some s, rs r) := by
 unfold zhv; rw [cstr_rs h, zms (by omega), if_neg (by simp only; omega)]
theorem uv0_rs (r : List UInt8) : uvN (rs ([0] ++ r)) = (0, rs r) := by
 have := zms (n := 0) (by decide) r
 rwa [zfc (by decide)] at this
theorem cnstr_rs0 (r : List UInt8) : zhv (rs ([0] ++ r)) = (none, rs r) := by
 unfold zhv; rw [uv0_rs, if_pos (by show (((0 : Nat) : Int) - 1) < 0; decide)]
theorem byt_rs {s : List UInt8} (h : s.length ≤ 32767) (r : List UInt8) : bytR (rs (fixB s.length 4 ++ (s ++ r))) = (some s, rs r) := by
 unfold bytR; rw [zrh, zla (by omega), if_neg (by simp only; omega), zqg, zja]
theorem cbyt_rs {s : List UInt8} (h : s.length ≤ 32767) (r : List UInt8) : zuo (rs (uvB (s.length + 1) ++ (s ++ r))) = (some s, rs r) := by
 unfold zuo; rw [zms (by omega)]
 have : (((s.length + 1 : Nat) : Int) - 1) = (s.length : Int) := by omega
 simp only [this]
 rw [if_neg (by omega), zqg, zja]
theorem nbyt_rs {s : List UInt8} (h : s.length ≤ 32767) (r : List UInt8) : zre (rs (fixB s.length 4 ++ (s ++ r))) = (some s, rs r) := by
 unfold zre; rw [zrh, zla (by omega), if_neg (by simp only; omega), zqg, zja]
theorem nbyt_rs0 (r : List UInt8) : zre (rs (fixB (-1) 4 ++ r)) = (none, rs r) := by
 unfold zre; rw [zrh, if_pos (by show IntKind.i32.wrap (-1) < 0; decide)]
theorem cnbyt_rs {s : List UInt8} (h : s.length ≤ 32767) (r : List UInt8) : zln (rs (uvB (s.length + 1) ++ (s ++ r))) = (some s, rs r) := by
 unfold zln; rw [zms (by omega)]
 have : (((s.length + 1 : Nat) : Int) - 1) = (s.length : Int) := by omega
 simp only [this]
 rw [if_neg (by omega), zqg, zja]
theorem cnbyt_rs0 (r : List UInt8) : zln (rs ([0] ++ r)) = (none, rs r) := by
 unfold zln; rw [uv0_rs, if_pos (by show (((0 : Nat) : Int) - 1) < 0; decide)]
theorem arr_rs {n : Nat} (h : n ≤ 32767) {x : List UInt8} (hx : n ≤ x.length) : arrR (rs (fixB n 4 ++ x)) = ((n : Int), rs x) := by
 unfold arrR; rw [zrh, zla (by omega)]
 rw [if_neg (by show ¬ ((x.length : Int) < (n : Int)); omega)]
theorem arr_rs0 (x : List UInt8) : arrR (rs (fixB (-1) 4 ++ x)) = (-1, rs x) := by
 unfold arrR; rw [zrh]
 rw [if_neg (by show ¬ ((x.length : Int) < (-1 : Int)); omega)]
 rfl
theorem carr_rs {n : Nat} (h : n ≤ 32767) {x : List UInt8} (hx : n ≤ x.length) : znq (rs (uvB (n + 1) ++ x)) = ((n : Int), rs x) := by
 have e : zmq (rs (uvB (n + 1) ++ x)) = (n : Int) := by
  unfold zmq; rw [zms (by omega)]
  simp only
  rw [zla (n := n + 1) (by omega), show (((n + 1 : Nat) : Int) - 1) = (n : Int) by omega, zla (by omega)]
 unfold znq; rw [e, zms (by omega)]
 rw [if_neg (by show ¬ ((x.length : Int) < (n : Int)); omega)]
theorem carr_rs0 (x : List UInt8) : znq (rs ([0] ++ x)) = (-1, rs x) := by
 have e : zmq (rs ([0] ++ x)) = (-1 : Int) := by
  unfold zmq; rw [uv0_rs]; show IntKind.i32.wrap (IntKind.i32.wrap ((0 : Nat) : Int) - 1) = -1; decide
 unfold znq; rw [e, uv0_rs]
 rw [if_neg (by show ¬ ((x.length : Int) < (-1 : Int)); omega)]
def zim : PK → Int → Bool
 | .bool, k => decide (k = 0) | .i8, k => decide (k = 1) | .i16, k => decide (k = 2) | .u16, k => decide (k = 5) | .i32, k => decide (k = 3) | .i64, k => decide (k = 4) | .uuid, k => decide (k = 7) | .en _, _ => false
theorem zif {n : Int} (h1 : -9223372036854775808 ≤ n) (h2 : n < 9223372036854775808) : IntKind.i64.wrap n = n := by
 rw [IntKind.wrap_i64]; omega
theorem wrap_i8_r (n : Int) : -128 ≤ IntKind.i8.wrap n ∧ IntKind.i8.wrap n < 128 := by
 have e : IntKind.i8.wrap n = (let m := n % 256; if (true && decide (m ≥ 128)) = true then m - 256 else m) := rfl
 rw [e]; simp only [Bool.true_and, decide_eq_true_eq]; split <;> omega
theorem wrap_i16_r (n : Int) : -32768 ≤ IntKind.i16.wrap n ∧ IntKind.i16.wrap n < 32768 := by
 have e : IntKind.i16.wrap n = (let m := n % 65536; if (true && decide (m ≥ 32768)) = true then m - 65536 else m) := rfl
 rw [e]; simp only [Bool.true_and, decide_eq_true_eq]; split <;> omega
theorem wrap_i32_r (n : Int) : -2147483648 ≤ IntKind.i32.wrap n ∧ IntKind.i32.wrap n < 2147483648 := by
 rw [IntKind.wrap_i32]; omega
theorem octs_map (l : List UInt8) : (l.map zbf).map (fun v => match v with | .int _ n => UInt8.ofNat n.toNat | _ => 0) = l := by
 rw [List.map_map]
 conv => rhs; rw [← List.map_id l]
 refine List.map_congr_left fun x _ => ?_
 simp [zbf]
theorem idB_len (s : List UInt8) : (idB s).length = 16 := by
 unfold idB; rw [List.length_append, List.length_take, List.length_replicate]; omega
theorem pr_rd {k : PK} {kind : Int} (h : zim k kind = true) (fl : Bool) (pt : Tr → List UInt8) (pt' : Tr → Tr → Prop) (null : Bool) {t : Tr} (hw : wfT t) (r : List UInt8) :
  ∃ v, k.rd (rs (valB fl kind pt null t ++ r)) = (v, rs r) ∧ zlb kind pt' t (k.tr v) ∧ (k.tr v).nl = false ∧ 0 < (valB fl kind pt null t).length := by
 cases k with
 | en t => simp [zim] at h
 | bool =>
  have h : kind = 0 := by simpa [zim] using h
  subst h
  have hm : t.n % 2 = 0 ∨ t.n % 2 = 1 := by omega
  refine ⟨.bool (be [UInt8.ofNat (t.n % 2).toNat] != 0), by rw [valB, if_pos rfl]; show zdz 1 (fun l => .bool (be l != 0)) (.bool false) _ = _; rw [zkk (c := 1) (x := [UInt8.ofNat (t.n % 2).toNat]) rfl], ?_, rfl, by rw [valB, if_pos rfl]; simp⟩
  rw [zlb, if_neg (by decide), if_neg (by decide), if_neg (by decide), numK, if_pos rfl, band1]
  rcases hm with hm | hm <;> rw [hm] <;> rfl
 | i8 =>
  have h : kind = 1 := by simpa [zim] using h
  subst h
  have e : valB fl 1 pt null t = fixB t.n 1 := by simp [valB, zgh]
  refine ⟨.int .i8 (IntKind.i8.wrap (be (fixB t.n 1))), by rw [e]; show zdz 1 (fun l => .int .i8 (IntKind.i8.wrap (be l))) (.int .i8 0) _ = _; rw [zkk (zdf t.n 1)], ?_, rfl, by rw [e, zdf]; decide⟩
  rw [zlb, if_neg (by decide), if_neg (by decide), if_neg (by decide), numK, if_neg (by decide), if_pos rfl, zkr]
  have := wrap_i8_r t.n
  rw [zif (by omega) (by omega)]
  exact zlz .i8 t.n
 | i16 =>
  have h : kind = 2 := by simpa [zim] using h
  subst h
  have e : valB fl 2 pt null t = fixB t.n 2 := by simp [valB, zgh]
  refine ⟨.int .i16 (IntKind.i16.wrap (be (fixB t.n 2))), by rw [e]; show zdz 2 (fun l => .int .i16 (IntKind.i16.wrap (be l))) (.int .i16 0) _ = _; rw [zkk (zdf t.n 2)], ?_, rfl, by rw [e, zdf]; decide⟩
  rw [zlb, if_neg (by decide), if_neg (by decide), if_neg (by decide), numK, if_neg (by decide), if_neg (by decide), if_pos rfl, zkr]
  have := wrap_i16_r t.n
  rw [zif (by omega) (by omega)]
  exact zlz .i16 t.n
 | u16 =>
  have h : kind = 5 := by simpa [zim] using h
  subst h
  have e : valB fl 5 pt null t = fixB t.n 2 := by simp [valB, zgh]
  refine ⟨.int .u16 (be (fixB t.n 2)), by rw [e]; show zdz 2 (fun l => .int .u16 (be l)) (.int .u16 0) _ = _; rw [zkk (zdf t.n 2)], ?_, rfl, by rw [e, zdf]; decide⟩
  rw [zlb, if_neg (by decide), if_neg (by decide), if_neg (by decide), numK, if_neg (by decide), if_neg (by decide), if_neg (by decide), if_neg (by decide), if_pos rfl]
  have hw : IntKind.u16.wrap t.n = t.n % 65536 := by simp [IntKind.wrap, IntKind.bits, IntKind.signed]
  rw [hw, zif (by omega) (by omega)]
  show (be (fixB t.n 2) : Int) = _
  rw [zkr]; rfl
 | i32 =>
  have h : kind = 3 := by simpa [zim] using h
  subst h
  have e : valB fl 3 pt null t = fixB t.n 4 := by simp [valB, zgh]
  refine ⟨.int .i32 (IntKind.i32.wrap (be (fixB t.n 4))), by rw [e]; show zdz 4 (fun l => .int .i32 (IntKind.i32.wrap (be l))) (.int .i32 0) _ = _; rw [zkk (zdf t.n 4)], ?_, rfl, by rw [e, zdf]; decide⟩
  rw [zlb, if_neg (by decide), if_neg (by decide), if_neg (by decide), numK, if_neg (by decide), if_neg (by decide), if_neg (by decide), if_pos rfl, zkr]
  have := wrap_i32_r t.n
  rw [zif (by omega) (by omega)]
  exact zlz .i32 t.n
 | i64 =>
  have h : kind = 4 := by simpa [zim] using h
  subst h
  have e : valB fl 4 pt null t = fixB t.n 8 := by simp [valB, zgh]
  refine ⟨.int .i64 (IntKind.i64.wrap (be (fixB t.n 8))), by rw [e]; show zdz 8 (fun l => .int .i64 (IntKind.i64.wrap (be l))) (.int .i64 0) _ = _; rw [zkk (zdf t.n 8)], ?_, rfl, by rw [e, zdf]; decide⟩
  rw [zlb, if_neg (by decide), if_neg (by decide), if_neg (by decide), numK, if_neg (by decide), if_neg (by decide), if_neg (by decide), if_neg (by decide), if_neg (by decide), zkr]
  have h1 := zlz .i64 t.n
  have h2 := zif hw.n.1 hw.n.2
  show IntKind.i64.wrap (t.n % (256 ^ 8 : Nat)) = t.n
  rw [← h2]
  rw [h2]
  exact h1.trans h2
 | uuid =>
  have h : kind = 7 := by simpa [zim] using h
  subst h
  have e : valB fl 7 pt null t = idB t.s := by simp [valB, idB]
  have hl := idB_len t.s
  have h1 : zee 16 (rs (idB t.s ++ r)) = idB t.s := by have := zoc (idB t.s) r; rwa [hl] at this
  have h2 : zii 16 (rs (idB t.s ++ r)) = rs r := by have := zja (idB t.s) r; rwa [hl] at this
  refine ⟨uuidV (idB t.s), by rw [e]; show (uuidV (zee 16 _), zii 16 _) = _; rw [h1, h2], ?_, rfl, by rw [e, hl]; decide⟩
  rw [zlb, if_neg (by decide), if_pos rfl]
  show zlf (uuidV (idB t.s)) = idB t.s
  unfold uuidV zlf
  rw [hl, Nat.sub_self, List.replicate_zero, List.append_nil, List.take_of_length_le (by omega)]
  exact octs_map _
theorem zma (s : List UInt8) : (zbz s).length ≤ 32767 := by simp [zbz, most]; omega
theorem valB_txt {fl : Bool} {pt : Tr → List UInt8} {null : Bool} {t : Tr} : valB fl 8 pt null t = zby fl null (if null then [] else zbz t.s).length 2 ++ (if null then [] else zbz t.s) := by simp [valB]
theorem valB_byt {fl : Bool} {pt : Tr → List UInt8} {null : Bool} {t : Tr} : valB fl 9 pt null t = zby fl null (if null then [] else zbz t.s).length 4 ++ (if null then [] else zbz t.s) := by simp [valB]
theorem zeg (fl null : Bool) (n size : Nat) (h : 0 < size) : 0 < (zby fl null n size).length := by
 unfold zby
 split
 ·simp
 ·split
  ·exact zxa _
  ·split <;> rw [zdf] <;> exact h
def Txt.kind : Txt → Int | .str => 8 | .nstr => 8 | .byt => 9 | .nbyt => 9
theorem txt_rs (k : Txt) (fl null : Bool) (hn : k = .str ∨ k = .byt → null = false) (pt : Tr → List UInt8) (t : Tr) (r : List UInt8) (kind : Int) (hk : kind = k.kind) :
  ∃ v, k.rd fl (rs (valB fl kind pt null t ++ r)) = (v, rs r) ∧ ((Ty.txt k).tr v).nl = null ∧ (null = false → ((Ty.txt k).tr v).s = zbz t.s) ∧ (El.txt k).tr v = (Ty.txt k).tr v ∧ 0 < (valB fl kind pt null t).length := by
 have hw := zma t.s
 cases k with
 | str =>
  have hk : kind = 8 := hk
  subst hk
  have hn := hn (.inl rfl)
  subst hn
  rw [valB_txt]
  simp only [Bool.false_eq_true, if_false, List.append_assoc]
  have hp := zeg fl false (zbz t.s).length 2 (by decide)
  refine ⟨.num (strV (zbz t.s)), ?_, rfl, fun _ => by show zlf (strV _) = _; simp [zlf, strV], rfl, by rw [List.length_append]; omega⟩
  unfold Txt.rd zby
  cases fl with
  | true => simp only [Bool.and_false, Bool.false_eq_true, if_false, if_true]; rw [cstr_rs hw]
  | false => simp only [Bool.and_false, Bool.false_eq_true, if_false]; rw [str_rs hw]
 | nstr =>
  have hk : kind = 8 := hk
  subst hk
  rw [valB_txt]
  cases null with
  | true =>
   have hp := zeg fl true (zbz t.s).length 2 (by decide)
   simp only [if_true, List.append_nil, List.length_nil]
   refine ⟨.nstr none, ?_, rfl, (fun h => by cases h), rfl, zeg _ _ _ _ (by decide)⟩
   unfold Txt.rd zby
   cases fl with
   | true => simp only [Bool.and_true, if_true]; rw [cnstr_rs0]
   | false => simp only [Bool.false_and, Bool.false_eq_true, if_false, if_true]; rw [nstr_rs0]
  | false =>
   have hp := zeg fl false (zbz t.s).length 2 (by decide)
   simp only [Bool.false_eq_true, if_false, List.append_assoc]
   refine ⟨.nstr (some (zbz t.s)), ?_, rfl, fun _ => rfl, rfl, by rw [List.length_append]; omega⟩
   unfold Txt.rd zby
   cases fl with
   | true => simp only [Bool.and_false, Bool.false_eq_true, if_false, if_true]; rw [cnstr_rs hw]
   | false => simp only [Bool.and_false, Bool.false_eq_true, if_false]; rw [nstr_rs hw]
 | byt =>
  have hk : kind = 9 := hk
  subst hk
  have hn := hn (.inr rfl)
  subst hn
  rw [valB_byt]
  simp only [Bool.false_eq_true, if_false, List.append_assoc]
  have hp := zeg fl false (zbz t.s).length 4 (by decide)
  refine ⟨.oct (some (zbz t.s)), ?_, rfl, fun _ => rfl, rfl, by rw [List.length_append]; omega⟩
  unfold Txt.rd zby
  cases fl with
  | true => simp only [Bool.and_false, Bool.false_eq_true, if_false, if_true]; rw [cbyt_rs hw]
  | false => simp only [Bool.and_false, Bool.false_eq_true, if_false]; rw [byt_rs hw]
 | nbyt =>
  have hk : kind = 9 := hk
  subst hk
  rw [valB_byt]
  cases null with
  | true =>
   simp only [if_true, List.append_nil, List.length_nil]
   refine ⟨.oct none, ?_, rfl, (fun h => by cases h), rfl, zeg _ _ _ _ (by decide)⟩
   unfold Txt.rd zby
   cases fl with
   | true => simp only [Bool.and_true, if_true]; rw [cnbyt_rs0]
   | false => simp only [Bool.false_and, Bool.false_eq_true, if_false, if_true]; rw [nbyt_rs0]
  | false =>
   have hp := zeg fl false (zbz t.s).length 4 (by decide)
   simp only [Bool.false_eq_true, if_false, List.append_assoc]
   refine ⟨.oct (some (zbz t.s)), ?_, rfl, fun _ => rfl, rfl, by rw [List.length_append]; omega⟩
   unfold Txt.rd zby
   cases fl with
   | true => simp only [Bool.and_false, Bool.false_eq_true, if_false, if_true]; rw [cnbyt_rs hw]
   | false => simp only [Bool.and_false, Bool.false_eq_true, if_false]; rw [nbyt_rs hw]
theorem zrg {k : Nat} {x : List UInt8} : ∀ {a : List (Nat × List UInt8)}, (a.map Prod.fst).Pairwise (· < ·) → ((insT k x a).map Prod.fst).Pairwise (· < ·)
 | [], _ => by simp [insT]
 | (k', y) :: a, h => by
  rw [List.map_cons, List.pairwise_cons] at h
  rw [insT]
  split
  ·rw [List.map_cons, List.pairwise_cons]
   refine ⟨fun z hz => ?_, zrg h.2⟩
   obtain ⟨p, hp, rfl⟩ := List.mem_map.1 hz
   rcases zuj hp with rfl | hp
   ·assumption
   ·exact h.1 _ (List.mem_map.2 ⟨p, hp, rfl⟩)
  ·split
   ·rw [List.map_cons, List.pairwise_cons]; exact h
   ·rw [List.map_cons, List.map_cons, List.pairwise_cons, List.pairwise_cons]
    refine ⟨fun z hz => ?_, h⟩
    rcases List.mem_cons.1 hz with e | hz
    ·rw [e]; show k < k'; omega
    ·have := h.1 z hz
     show k < z
     have h2 : k' < z := this
     omega
theorem zrj : ∀ (u a : List (Nat × List UInt8)), (a.map Prod.fst).Pairwise (· < ·) → ((u.foldl (fun a x => insT x.1 x.2 a) a).map Prod.fst).Pairwise (· < ·)
 | [], a, h => h
 | x :: u, a, h => zrj u _ (zrg h)
theorem zqq (u : List (Nat × List UInt8)) : ((unkT u).map Prod.fst).Pairwise (· < ·) := zrj _ _ (by simp)
theorem tagsN_rs (r : List UInt8) : ∀ (l acc : List (Nat × List UInt8)), (∀ x ∈ l, x.1 < 4294967296) → ((acc ++ l).map Prod.fst).Nodup →
  zsh l.length acc (rs (l.flatMap tagB ++ r)) = (acc ++ l.map (fun x => (x.1, zbz x.2)), rs r)
 | [], acc, _, _ => by simp [zsh]
 | x :: l, acc, hk, hn => by
  rw [List.length_cons, zsh, List.flatMap_cons, tagB]
  simp only [List.append_assoc]
  rw [zms (hk x (by simp))]
  have hw := zma x.2
  rw [zms (n := (zbz x.2).length) (by omega)]
  simp only []
  rw [zoc, zja]
  have hne : (acc.map Prod.fst).contains x.1 = false := by
   rw [List.map_append, List.nodup_append] at hn
   have := hn.2.2
   simp only [List.contains_eq_mem, decide_eq_false_iff_not]
   intro hc
   exact this _ hc x.1 (by simp) rfl
  have hp : tput acc x.1 (zbz x.2) = acc ++ [(x.1, zbz x.2)] := by unfold tput; rw [hne]; simp
  rw [hp, tagsN_rs r l _ (fun y hy => hk y (by simp [hy])) (by simpa using hn)]
  simp
theorem tagsR_rs (u : List (Nat × List UInt8)) (hk : ∀ x ∈ u, x.1 < 4294967296) (r : List UInt8) : zsg (rs ((uvB (unkT u).length ++ (unkT u).flatMap tagB) ++ r)) = ((unkT u).map (fun x => (x.1, zbz x.2)), rs r) := by
 have hl := zts u
 unfold zsg
 rw [List.append_assoc, zms (by omega)]
 simp only []
 rw [tagsN_rs r (unkT u) [] (fun x hx => hk x (ztr hx)) (by
  rw [List.nil_append]
  exact (zqq u).imp (fun h => Nat.ne_of_lt h))]
 simp
theorem zxe {l : List (Nat × List UInt8)} (h : (l.map Prod.fst).Pairwise (· < ·)) : zdr l = l := by
 unfold zdr
 refine List.mergeSort_of_pairwise ?_
 rw [List.pairwise_map] at h
 exact h.imp fun h => by simpa using Nat.le_of_lt h
def Ty.dflB : Ty → Fld → Bool
 | .pr k d, f => zim k f.kind && (if k = .uuid then decide (((Ty.pr k d).tr (Ty.iniV (.pr k d))).s = List.replicate 16 0) else decide (((Ty.pr k d).tr (Ty.iniV (.pr k d))).n = numK f.kind f.dflt))
 | .txt .str, f => decide (f.kind = 8) && decide (f.null < 0)
 | .txt .nstr, f => decide (f.kind = 8) && decide (0 ≤ f.null)
 | .txt _, f => decide (f.kind = 9)
 | .arr .., f => decide (f.kind = 11)
 | .row .., _ => false
 | .tv _, _ => false
mutual
def Ty.matB (fl : Bool) (ver : Int) : Ty → Fld → Bool
 | .pr k _, f => zim k f.kind && !f.may ver
 | .txt .str, f => decide (f.kind = 8) && !f.may ver
 | .txt .nstr, f => decide (f.kind = 8)
 | .txt .byt, f => decide (f.kind = 9) && !f.may ver
 | .txt .nbyt, f => decide (f.kind = 9)
 | .arr _ nul e, f => decide (f.kind = 11) && (match nul with | none => !f.may ver | some k => !f.may ver || decide (k ≤ ver)) && e.matB fl ver f.of f.sub
 | .row .., _ => false
 | .tv _, _ => false
def El.matB (fl : Bool) (ver : Int) : El → Int → List Fld → Bool
 | .pr k, o, _ => zim k o
 | .txt .str, o, _ => decide (o = 8)
 | .txt .nstr, o, _ => decide (o = 8)
 | .txt _, o, _ => decide (o = 9)
 | .row _ _ _ fs, o, sub => decide (o = 10) && fs.matB fl ver sub && (fl || sub.any fun f => f.has ver)
def Fds.matB (fl : Bool) (ver : Int) : Fds → List Fld → Bool
 | .nil, [] => !fl
 | .tags, [] => true
 | .cons g ty r, f :: fs => (g.on ver == f.has ver) && (if f.has ver then ty.matB fl ver f else ty.dflB f) && r.matB fl ver fs
 | _, _ => false
end
theorem dfl_usual : ∀ {ty : Ty} {f : Fld}, ty.dflB f = true → zkt f (ty.tr ty.iniV)
 | .pr k d, f, h => by
  simp only [Ty.dflB, Bool.and_eq_true] at h
  obtain ⟨h1, h2⟩ := h
  unfold zkt
  cases k with
  | en t => simp [zim] at h1
  | uuid =>
   have hk : f.kind = 7 := by simpa [zim] using h1
   rw [if_neg (by omega), if_pos hk]
   simpa using h2
  | bool =>
   have hk : f.kind = 0 := by simpa [zim] using h1
   rw [if_neg (by omega), if_neg (by omega), if_neg (by omega)]
   simpa using h2
  | i8 =>
   have hk : f.kind = 1 := by simpa [zim] using h1
   rw [if_neg (by omega), if_neg (by omega), if_neg (by omega)]
   simpa using h2
  | i16 =>
   have hk : f.kind = 2 := by simpa [zim] using h1
   rw [if_neg (by omega), if_neg (by omega), if_neg (by omega)]
   simpa using h2
  | u16 =>
   have hk : f.kind = 5 := by simpa [zim] using h1
   rw [if_neg (by omega), if_neg (by omega), if_neg (by omega)]
   simpa using h2
  | i32 =>
   have hk : f.kind = 3 := by simpa [zim] using h1
   rw [if_neg (by omega), if_neg (by omega), if_neg (by omega)]
   simpa using h2
  | i64 =>
   have hk : f.kind = 4 := by simpa [zim] using h1
   rw [if_neg (by omega), if_neg (by omega), if_neg (by omega)]
   simpa using h2
 | .txt .str, f, h => by
  simp only [Ty.dflB, Bool.and_eq_true, decide_eq_true_eq] at h
  unfold zkt
  rw [if_pos h.1]
  exact ⟨by show false = _; rw [decide_eq_false (by omega)], rfl⟩
 | .txt .nstr, f, h => by
  simp only [Ty.dflB, Bool.and_eq_true, decide_eq_true_eq] at h
  unfold zkt
  rw [if_pos h.1]
  exact ⟨by show true = _; rw [decide_eq_true h.2], rfl⟩
 | .txt .byt, f, h => by
  simp only [Ty.dflB, decide_eq_true_eq] at h
  unfold zkt
  rw [if_neg (by omega), if_neg (by omega), if_pos (.inl h)]
  exact ⟨rfl, rfl⟩
 | .txt .nbyt, f, h => by
  simp only [Ty.dflB, decide_eq_true_eq] at h
  unfold zkt
  rw [if_neg (by omega), if_neg (by omega), if_pos (.inl h)]
  exact ⟨rfl, rfl⟩
 | .arr .., f, h => by
  simp only [Ty.dflB, decide_eq_true_eq] at h
  unfold zkt
  rw [if_neg (by omega), if_neg (by omega), if_pos (.inr h)]
  exact ⟨rfl, rfl⟩
 | .row .., f, h => by simp [Ty.dflB] at h
 | .tv _, f, h => by simp [Ty.dflB] at h
theorem zqr {flex : Bool} {v : Int} : ∀ {fs : List Fld} {i : Nat} {t g : Tr}, (∀ (j : Nat) (f : Fld) (y : Tr), fs[j]? = some f → g.l[i + j]? = some y → if f.has v then zvg flex v f (atT t (i + j)) y else zkt f y) → zqs flex v fs i t g
 | [], _, _, _, _ => by rw [zqs]; trivial
 | f :: r, i, t, g, h => by
  rw [zqs]
  refine ⟨fun y hy => by have := h 0 f y rfl (by simpa using hy); simpa using this, zqr fun j f' y hf hy => ?_⟩
  have := h (j + 1) f' y (by simpa using hf) (by rwa [show i + (j + 1) = i + 1 + j by omega])
  rwa [show i + (j + 1) = i + 1 + j by omega] at this
def ziv (flex : Bool) (v : Int) (fs : List Fld) (i : Nat) (t : Tr) : List UInt8 := zcu flex v fs i t ++ if flex then uvB (unkT t.u).length ++ (unkT t.u).flatMap tagB else []
def TyRd (fl : Bool) (ver : Int) (ty : Ty) (f : Fld) : Prop := ∀ (t : Tr) (r : List UInt8), wfT t →
 ∃ v, ty.rd ver fl (rs (zew fl ver f t ++ r)) = some (v, rs r) ∧ zvg fl ver f t (ty.tr v) ∧ 0 < (zew fl ver f t).length
def ElRd (fl : Bool) (ver : Int) (e : El) (o : Int) (sub : List Fld) : Prop := ∀ (t : Tr) (r : List UInt8), wfT t →
 ∃ v, e.rd ver fl (rs (valB fl o (zdk fl ver sub) false t ++ r)) = some (v, rs r) ∧ ((o = 8 ∨ o = 10 → (e.tr v).nl = false) ∧ zlb o (zvf fl ver sub) t (e.tr v)) ∧ 0 < (valB fl o (zdk fl ver sub) false t).length
def FdsRd (fl : Bool) (ver : Int) (fs : Fds) (sf : List Fld) : Prop := ∀ (i : Nat) (t : Tr) (r : List UInt8), wfT t →
 ∃ l, fs.rd ver fl (rs (ziv fl ver sf i t ++ r)) = some (l, rs r) ∧ (fs.trs l).length = sf.length ∧ fs.tgs l = zve fl t.u ∧
  ∀ (j : Nat) (f : Fld) (y : Tr), sf[j]? = some f → (fs.trs l)[j]? = some y → if f.has ver then zvg fl ver f (atT t (i + j)) y else zkt f y
theorem rdN_rs {e : El} {fl : Bool} {ver o : Int} {sub : List Fld} (he : ElRd fl ver e o sub) : ∀ (l : List Tr) (r : List UInt8), (∀ x ∈ l, wfT x) →
  ∃ vs, rdN (e.rd ver fl) l.length (rs (l.flatMap (valB fl o (zdk fl ver sub) false) ++ r)) = some (vs, rs r) ∧ vs.length = l.length ∧ l.length ≤ (l.flatMap (valB fl o (zdk fl ver sub) false)).length ∧
   ∀ (i : Nat) (x z : Tr), l[i]? = some x → (vs.map e.tr)[i]? = some z → (o = 8 ∨ o = 10 → z.nl = false) ∧ zlb o (zvf fl ver sub) x z
 | [], r, _ => ⟨[], rfl, rfl, Nat.zero_le _, fun i x z hx => by simp at hx⟩
 | x :: l, r, hw => by
  obtain ⟨v, h1, h2, h3⟩ := he x (l.flatMap (valB fl o (zdk fl ver sub) false) ++ r) (hw x (by simp))
  obtain ⟨vs, g1, g2, g3, g4⟩ := rdN_rs he l r fun y hy => hw y (by simp [hy])
  refine ⟨v :: vs, ?_, by simp [g2], ?_, fun i y z hy hz => ?_⟩
  ·rw [List.length_cons, rdN, List.flatMap_cons, List.append_assoc, h1]
   simp only [g1]
  ·rw [List.flatMap_cons, List.length_append, List.length_cons]; omega
  ·cases i with
   | zero => simp at hy hz; subst hy hz; exact h2
   | succ i => exact g4 i y z (by simpa using hy) (by simpa using hz)
theorem zwe {fl : Bool} {ver : Int} {f : Fld} {t : Tr} (h : f.kind ≠ 11) : zew fl ver f t = valB fl f.kind (zdk fl ver f.sub) (f.nullB ver t) t := zpd h
theorem zoo {f : Fld} {ver : Int} {t : Tr} (h : f.may ver = false) : f.nullB ver t = false := by
 unfold Fld.may at h; unfold Fld.nullB; rw [Bool.and_assoc, h]; simp
theorem kind_of {k : PK} {n : Int} (h : zim k n = true) : n ≠ 11 ∧ n ≠ 8 ∧ n ≠ 10 ∧ n ≠ 9 := by
 cases k <;> simp [zim] at h <;> omega
theorem pr_told {k : PK} {f : Fld} {fl : Bool} {ver : Int} (h : zim k f.kind = true) (hm : f.may ver = false) (d : Option Value) : TyRd fl ver (.pr k d) f := by
 intro t r hw
 obtain ⟨h11, h8, h10, _⟩ := kind_of h
 rw [zwe h11, zoo hm]
 obtain ⟨v, h1, h2, h3, h4⟩ := pr_rd h fl (zdk fl ver f.sub) (zvf fl ver f.sub) false hw r
 refine ⟨.num v, by rw [Ty.rd, h1], ?_, h4⟩
 rw [zmb, zoo hm]
 refine ⟨fun hc => ?_, fun _ => by rw [if_neg h11]; exact h2⟩
 rcases hc with hc | hc | hc
 ·exact absurd hc h8
 ·exact absurd hc h10
 ·rw [hm] at hc; cases hc
theorem zqf {k : Txt} {f : Fld} {fl : Bool} {ver : Int} (hk : f.kind = k.kind) (hm : k = .str ∨ k = .byt → f.may ver = false) : TyRd fl ver (.txt k) f := by
 intro t r hw
 have h89 : f.kind = 8 ∨ f.kind = 9 := by rw [hk]; cases k <;> simp [Txt.kind]
 have h11 : f.kind ≠ 11 := by omega
 rw [zwe h11]
 obtain ⟨v, h1, h2, h3, _, h4⟩ := txt_rs k fl (f.nullB ver t) (fun h => zoo (hm h)) (zdk fl ver f.sub) t r f.kind hk
 refine ⟨v, by rw [Ty.rd, h1], ?_, h4⟩
 rw [zmb]
 refine ⟨fun _ => h2, fun hn => ?_⟩
 rw [if_neg h11, zlb, if_pos h89]
 exact h3 hn
mutual
theorem Ty.rd_of {fl : Bool} {ver : Int} : ∀ (ty : Ty) (f : Fld), ty.matB fl ver f = true → TyRd fl ver ty f
 | .pr k d, f, h => by
  simp only [Ty.matB, Bool.and_eq_true, Bool.not_eq_true'] at h
  exact pr_told h.1 h.2 d
 | .txt .str, f, h => by
  simp only [Ty.matB, Bool.and_eq_true, Bool.not_eq_true', decide_eq_true_eq] at h
  exact zqf h.1 fun _ => h.2
 | .txt .nstr, f, h => by
  simp only [Ty.matB, decide_eq_true_eq] at h
  exact zqf h fun hc => by rcases hc with hc | hc <;> cases hc
 | .txt .byt, f, h => by
  simp only [Ty.matB, Bool.and_eq_true, Bool.not_eq_true', decide_eq_true_eq] at h
  exact zqf h.1 fun _ => h.2
 | .txt .nbyt, f, h => by
  simp only [Ty.matB, decide_eq_true_eq] at h
  exact zqf h fun hc => by rcases hc with hc | hc <;> cases hc
 | .arr st nul e, f, h => by
  simp only [Ty.matB, Bool.and_eq_true, decide_eq_true_eq] at h
  obtain ⟨⟨h11, hnul⟩, he⟩ := h
  have he := El.rd_of e f.of f.sub he
  intro t r hw
  rw [znn h11]
  have hlz : (zei t.l).length ≤ 32767 := by simp [zei, most]; omega
  cases hnb : f.nullB ver t with
  | true =>
   have hmay : f.may ver = true := by
    cases hm : f.may ver with
    | true => rfl
    | false => rw [zoo hm] at hnb; cases hnb
   have hk : ∃ k, nul = some k ∧ k ≤ ver := by
    cases nul with
    | none => simp [hmay] at hnul
    | some k => exact ⟨k, rfl, by simpa [hmay] using hnul⟩
   obtain ⟨k, rfl, hk⟩ := hk
   simp only [if_true, List.length_nil, List.flatMap_nil, List.append_nil]
   have hx : (if fl then znq (rs (zby fl true 0 4 ++ r)) else arrR (rs (zby fl true 0 4 ++ r))) = (-1, rs r) := by
    unfold zby
    cases fl with
    | true => simp only [Bool.and_true, if_true]; exact carr_rs0 r
    | false => simp only [Bool.false_and, Bool.false_eq_true, if_false, if_true]; exact arr_rs0 r
   refine ⟨.nilA, ?_, ?_, zeg _ _ _ _ (by decide)⟩
   ·unfold Ty.rd; rw [hx]
    simp only [rs, Bool.false_eq_true, if_false]
    rw [if_neg (by decide)]
    try simp only
    rw [if_neg (by omega)]
   ·rw [zmb, hnb]
    exact ⟨fun _ => rfl, fun hc => by cases hc⟩
  | false =>
   simp only [Bool.false_eq_true, if_false]
   obtain ⟨l, hl⟩ : ∃ l, l = zei t.l := ⟨_, rfl⟩
   rw [← hl] at hlz ⊢
   have hwl : ∀ x ∈ l, wfT x := fun x hx => hw.l x (by rw [hl] at hx; exact List.mem_of_mem_take hx)
   obtain ⟨vs, g1, g2, g3, g4⟩ := rdN_rs he l r hwl
   rw [List.append_assoc]
   have hx : (if fl then znq (rs (zby fl false l.length 4 ++ (l.flatMap (valB fl f.of (zdk fl ver f.sub) false) ++ r))) else arrR (rs (zby fl false l.length 4 ++ (l.flatMap (valB fl f.of (zdk fl ver f.sub) false) ++ r)))) = ((l.length : Int), rs (l.flatMap (valB fl f.of (zdk fl ver f.sub) false) ++ r)) := by
    unfold zby
    cases fl with
    | true => simp only [Bool.and_false, Bool.false_eq_true, if_false, if_true]; exact carr_rs hlz (by rw [List.length_append]; omega)
    | false => simp only [Bool.and_false, Bool.false_eq_true, if_false]; exact arr_rs hlz (by rw [List.length_append]; omega)
   have hpos : 0 < (zby fl false l.length 4 ++ l.flatMap (valB fl f.of (zdk fl ver f.sub) false)).length := by
    have := zeg fl false l.length 4 (by decide)
    rw [List.length_append]; omega
   by_cases h0 : l.length = 0
   ·have hl0 : l = [] := List.length_eq_zero_iff.1 h0
    rw [hl0] at hx g1 hpos ⊢
    simp only [List.length_nil, List.flatMap_nil, List.nil_append] at hx g1 hpos ⊢
    cases nul with
    | none =>
     have hm : f.may ver = false := by simpa using hnul
     refine ⟨.nilA, ?_, ?_, by simpa using hpos⟩
     ·unfold Ty.rd; rw [hx]
      simp only [rs, Bool.false_eq_true, if_false]
      rw [if_neg (by decide)]
     ·rw [zmb, hnb]
      refine ⟨fun hc => ?_, fun _ => ?_⟩
      ·rcases hc with hc | hc | hc
       ·omega
       ·omega
       ·rw [hm] at hc; cases hc
      ·rw [if_pos h11, ← hl, hl0]
       exact ⟨rfl, fun i x z hx => by simp at hx⟩
    | some k =>
     refine ⟨.arr e.sz [], ?_, ?_, by simpa using hpos⟩
     ·unfold Ty.rd; rw [hx]
      simp only [rs, Bool.false_eq_true, if_false]
      rw [if_neg (by decide)]
      simp
     ·rw [zmb, hnb]
      refine ⟨fun hc => rfl, fun _ => ?_⟩
      rw [if_pos h11, ← hl, hl0]
      exact ⟨rfl, fun i x z hx => by simp at hx⟩
   ·refine ⟨.arr e.sz vs, ?_, ?_, hpos⟩
    ·unfold Ty.rd; rw [hx]
     simp only [rs, Bool.false_eq_true, if_false]
     rw [if_pos (by omega)]
     have : ((l.length : Nat) : Int).toNat = l.length := by omega
     simp only [rs] at g1
     rw [this, g1]
    ·rw [zmb, hnb]
     refine ⟨fun _ => rfl, fun _ => ?_⟩
     rw [if_pos h11, ← hl]
     refine ⟨by show (vs.map e.tr).length = _; rw [List.length_map, g2], fun i x z hx hz => g4 i x z hx hz⟩
 | .row .., f, h => by simp [Ty.matB] at h
 | .tv _, f, h => by simp [Ty.matB] at h
theorem El.rd_of {fl : Bool} {ver : Int} : ∀ (e : El) (o : Int) (sub : List Fld), e.matB fl ver o sub = true → ElRd fl ver e o sub
 | .pr k, o, sub, h => by
  simp only [El.matB] at h
  intro t r hw
  obtain ⟨h11, h8, h10, _⟩ := kind_of h
  obtain ⟨v, h1, h2, h3, h4⟩ := pr_rd h fl (zdk fl ver sub) (zvf fl ver sub) false hw r
  exact ⟨.num v, by rw [El.rd, h1], ⟨fun hc => h3, h2⟩, h4⟩
 | .txt k, o, sub, h => by
  have hk : o = k.kind := by cases k <;> simpa [El.matB, Txt.kind] using h
  intro t r hw
  have h89 : o = 8 ∨ o = 9 := by rw [hk]; cases k <;> simp [Txt.kind]
  obtain ⟨v, h1, h2, h3, h5, h4⟩ := txt_rs k fl false (fun _ => rfl) (zdk fl ver sub) t r o hk
  refine ⟨v, by rw [El.rd, h1], ⟨fun _ => by rw [h5]; exact h2, ?_⟩, h4⟩
  rw [h5, zlb, if_pos h89]
  exact h3 rfl
 | .row T pT d fs, o, sub, h => by
  simp only [El.matB, Bool.and_eq_true, decide_eq_true_eq] at h
  obtain ⟨⟨h10, hfs⟩, hne⟩ := h
  have hfs' := Fds.rd_of fs sub hfs
  intro t r hw
  have hv : valB fl o (zdk fl ver sub) false t = ziv fl ver sub 0 t := by rw [h10]; simp [valB, zdk, endB, ziv]
  rw [hv]
  obtain ⟨l, h1, h2, h3, h4⟩ := hfs' 0 t r hw
  refine ⟨.row l, by rw [El.rd, h1], ⟨fun _ => rfl, ?_⟩, ?_⟩
  ·rw [zlb, if_neg (by omega), if_neg (by omega), if_pos h10]
   refine ⟨h2, zqr fun j f y hf hy => ?_, h3⟩
   have := h4 j f y hf (by rw [Nat.zero_add] at hy; exact hy)
   exact this
  ·unfold ziv
   rw [List.length_append]
   cases fl with
   | true => have := zxa (unkT t.u).length; simp only [if_true, List.length_append]; omega
   | false =>
    simp only [Bool.false_or, List.any_eq_true] at hne
    obtain ⟨f, hf, hhas⟩ := hne
    have := Fds.pos_of fs sub hfs 0 t hw f hf hhas
    omega
theorem Fds.pos_of {fl : Bool} {ver : Int} : ∀ (fs : Fds) (sf : List Fld), fs.matB fl ver sf = true → ∀ (i : Nat) (t : Tr), wfT t → ∀ f ∈ sf, f.has ver = true → 0 < (zcu fl ver sf i t).length
 | .nil, [], _, _, _, _, f, hf, _ => by cases hf
 | .tags, [], _, _, _, _, f, hf, _ => by cases hf
 | .cons g ty r, f' :: sf, h, i, t, hw, f, hf, hh => by
  simp only [Fds.matB, Bool.and_eq_true, beq_iff_eq] at h
  obtain ⟨⟨hg, hty⟩, hr⟩ := h
  rw [zcu, List.length_append]
  rcases List.mem_cons.1 hf with e | hf
  ·subst e
   rw [hh] at hty
   simp only [if_true] at hty
   rw [hh, if_pos rfl]
   obtain ⟨v, _, _, h4⟩ := Ty.rd_of ty f hty (atT t i) [] (hw.at i)
   omega
  ·have := Fds.pos_of r sf hr (i + 1) t hw f hf hh
   omega
 | .nil, _ :: _, h, _, _, _, _, _, _ => by simp [Fds.matB] at h
 | .tags, _ :: _, h, _, _, _, _, _, _ => by simp [Fds.matB] at h
 | .cons .., [], h, _, _, _, _, _, _ => by simp [Fds.matB] at h
theorem Fds.rd_of {fl : Bool} {ver : Int} : ∀ (fs : Fds) (sf : List Fld), fs.matB fl ver sf = true → FdsRd fl ver fs sf
 | .nil, [], h => by
  have h : fl = false := by simpa [Fds.matB] using h
  subst h
  intro i t r hw
  refine ⟨[], ?_, rfl, ?_, fun j f y hf => by simp at hf⟩
  ·simp [ziv, zcu, Fds.rd]
  ·simp [Fds.tgs, zve]
 | .tags, [], _ => by
  intro i t r hw
  cases fl with
  | true =>
   refine ⟨[.tags ((unkT t.u).map fun x => (x.1, zbz x.2))], ?_, rfl, ?_, fun j f y hf => by simp at hf⟩
   ·simp only [ziv, zcu, Fds.rd, if_true, List.nil_append]
    rw [tagsR_rs t.u hw.u r]
   ·simp only [Fds.tgs, zve, if_true]
    refine zxe ?_
    have := zqq t.u
    rw [List.map_map]
    exact this
  | false =>
   refine ⟨[.tags []], ?_, rfl, ?_, fun j f y hf => by simp at hf⟩
   ·simp [ziv, zcu, Fds.rd]
   ·simp [Fds.tgs, zve, zdr]
 | .cons g ty r', f :: sf, h => by
  simp only [Fds.matB, Bool.and_eq_true, beq_iff_eq] at h
  obtain ⟨⟨hg, hty⟩, hr⟩ := h
  have hr' := Fds.rd_of r' sf hr
  intro i t r hw
  obtain ⟨l, h1, h2, h3, h4⟩ := hr' (i + 1) t r hw
  have key : ∀ v, (if g.on ver then ty.rd ver fl (rs (ziv fl ver (f :: sf) i t ++ r)) else some (ty.iniV, rs (ziv fl ver (f :: sf) i t ++ r))) = some (v, rs (ziv fl ver sf (i + 1) t ++ r)) → (if f.has ver then zvg fl ver f (atT t i) (ty.tr v) else zkt f (ty.tr v)) →
    ∃ l, (Fds.cons g ty r').rd ver fl (rs (ziv fl ver (f :: sf) i t ++ r)) = some (l, rs r) ∧ ((Fds.cons g ty r').trs l).length = (f :: sf).length ∧ (Fds.cons g ty r').tgs l = zve fl t.u ∧
     ∀ (j : Nat) (f' : Fld) (y : Tr), (f :: sf)[j]? = some f' → ((Fds.cons g ty r').trs l)[j]? = some y → if f'.has ver then zvg fl ver f' (atT t (i + j)) y else zkt f' y := by
   intro v hv ht
   refine ⟨v :: l, ?_, ?_, h3, fun j f' y hf' hy => ?_⟩
   ·rw [Fds.rd, hv]
    simp only [h1]
   ·show (ty.tr v :: r'.trs l).length = _
    simp [h2]
   ·cases j with
    | zero =>
     simp at hf'
     have hy : some (ty.tr v) = some y := hy
     injection hy with hy
     subst hf' hy
     exact ht
    | succ j =>
     have := h4 j f' y (by simpa using hf') hy
     rwa [show i + 1 + j = i + (j + 1) by omega] at this
  cases hh : f.has ver with
  | true =>
   rw [hh] at hty hg
   simp only [if_true] at hty
   obtain ⟨v, g1, g2, _⟩ := Ty.rd_of ty f hty (atT t i) (ziv fl ver sf (i + 1) t ++ r) (hw.at i)
   refine key v ?_ (by rw [hh]; exact g2)
   rw [hg, if_pos rfl]
   have : ziv fl ver (f :: sf) i t ++ r = zew fl ver f (atT t i) ++ (ziv fl ver sf (i + 1) t ++ r) := by
    unfold ziv; rw [zcu, hh]; simp only [if_true, List.append_assoc]
   rw [this]; exact g1
  | false =>
   rw [hh] at hty hg
   simp only [Bool.false_eq_true, if_false] at hty
   refine key ty.iniV ?_ (by rw [hh]; simpa using dfl_usual hty)
   rw [hg]
   simp only [Bool.false_eq_true, if_false]
   have : ziv fl ver (f :: sf) i t = ziv fl ver sf (i + 1) t := by
    unfold ziv; rw [zcu, hh]; simp
   rw [this]
 | .nil, _ :: _, h => by simp [Fds.matB] at h
 | .tags, _ :: _, h => by simp [Fds.matB] at h
 | .cons .., [], h => by simp [Fds.matB] at h
end
def Fds.offB (fl : Bool) (ver : Int) : Fds → Bool
 | .nil => true
 | .tags => !fl
 | .cons g _ r => !g.on ver && r.offB fl ver
theorem msg_rd {m : Msg} {fx : Bool} {ver : Int} {sf : List Fld} {t : Tr} (hw : wfT t) (hm : m.fs.matB (fx && decide (ver ≥ m.fl)) ver sf = true) :
  ((fx && decide (ver ≥ m.fl)) = true ∨ (sf.any fun f => f.has ver) = true → zdk (fx && decide (ver ≥ m.fl)) ver sf t ≠ []) ∧ ∃ l, m.rd fx ver (rs (zdk (fx && decide (ver ≥ m.fl)) ver sf t)) = some l ∧ zvf (fx && decide (ver ≥ m.fl)) ver sf t (m.fs.tr l) := by
 obtain ⟨fl, hfl⟩ : ∃ fl, fl = (fx && decide (ver ≥ m.fl)) := ⟨_, rfl⟩
 rw [← hfl] at hm ⊢
 have hp : zdk fl ver sf t = ziv fl ver sf 0 t := by simp [zdk, endB, ziv]
 obtain ⟨l, h1, h2, h3, h4⟩ := Fds.rd_of m.fs sf hm 0 t [] hw
 rw [List.append_nil] at h1
 rw [hp]
 refine ⟨fun hne he => ?_, l, ?_, ?_⟩
 ·have hl : 0 < (ziv fl ver sf 0 t).length := by
   unfold ziv
   rw [List.length_append]
   rcases hne with hne | hne
   ·have := zxa (unkT t.u).length; rw [hne]; simp only [if_true, List.length_append]; omega
   ·rw [List.any_eq_true] at hne
    obtain ⟨f, hf, hh⟩ := hne
    have := Fds.pos_of m.fs sf hm 0 t hw f hf hh
    omega
  rw [he] at hl; simp at hl
 ·unfold Msg.rd
  rw [← hfl, h1]
  simp [rs]
 ·refine ⟨h2, zqr fun j f y hf hy => ?_, h3⟩
  exact h4 j f y hf (by rw [Nat.zero_add] at hy; exact hy)
def szU (u : List (Nat × List UInt8)) : Nat := (u.map fun x => 1 + x.2.length).sum
mutual
def szT : Tr → Nat
 | .mk _ s _ l u => 1 + s.length + szTs l + szU u
def szTs : List Tr → Nat
 | [] => 0
 | t :: l => szT t + szTs l
end
theorem zvi (t : Tr) : szT t = 1 + t.s.length + szTs t.l + szU t.u := by cases t; rfl
theorem szT_pos (t : Tr) : 1 ≤ szT t := by rw [zvi]; omega
theorem szU_ins (k : Nat) (x : List UInt8) : ∀ a : List (Nat × List UInt8), szU (insT k x a) ≤ szU a + (1 + x.length)
 | [] => by simp [insT, szU]
 | (k', y) :: a => by
  have ih := szU_ins k x a
  rw [insT]
  split
  ·simp only [szU, List.map_cons, List.sum_cons] at ih ⊢; omega
  ·split
   ·omega
   ·simp only [szU, List.map_cons, List.sum_cons]; omega
theorem szU_fold : ∀ u a : List (Nat × List UInt8), szU (u.foldl (fun a x => insT x.1 x.2 a) a) ≤ szU a + szU u
 | [], a => by simp [szU]
 | x :: u, a => by
  have h1 := szU_ins x.1 x.2 a
  have h2 := szU_fold u (insT x.1 x.2 a)
  have e : szU (x :: u) = 1 + x.2.length + szU u := by simp [szU]
  rw [List.foldl_cons]; omega
theorem szU_take (n : Nat) : ∀ u : List (Nat × List UInt8), szU (u.take n) ≤ szU u := by
 induction n with
 | zero => intro u; simp [szU]
 | succ n ih =>
  intro u
  cases u with
  | nil => simp
  | cons x u => have := ih u; simp only [szU, List.take_succ_cons, List.map_cons, List.sum_cons] at this ⊢; omega
theorem szU_unk (u : List (Nat × List UInt8)) : szU (unkT u) ≤ szU u := by
 have h1 := szU_fold (u.take most) []
 have h2 := szU_take most u
 have : szU ([] : List (Nat × List UInt8)) = 0 := rfl
 unfold unkT; omega
theorem uvB_le {n : Nat} (h : n < 2 ^ 64) : (uvB n).length ≤ 10 := zig h
theorem tags_len : ∀ (u : List (Nat × List UInt8)), (∀ x ∈ u, x.1 < 4294967296) → (u.flatMap tagB).length ≤ 20 * szU u
 | [], _ => by simp [szU]
 | x :: u, h => by
  have ih := tags_len u fun y hy => h y (by simp [hy])
  have h1 := uvB_le (n := x.1) (by have := h x (by simp); omega)
  have hw := zma x.2
  have h2 := uvB_le (n := (zbz x.2).length) (by omega)
  have h3 : (zbz x.2).length ≤ x.2.length := by simp [zbz]; omega
  have e : szU (x :: u) = 1 + x.2.length + szU u := by simp [szU]
  rw [List.flatMap_cons, List.length_append, e, tagB]
  simp only [List.length_append]; omega
theorem end_len {flex : Bool} {u : List (Nat × List UInt8)} (h : ∀ x ∈ u, x.1 < 4294967296) : (if flex then uvB (unkT u).length ++ (unkT u).flatMap tagB else []).length ≤ 10 + 20 * szU u := by
 cases flex with
 | false => simp
 | true =>
  have h1 := zts u
  have h2 := uvB_le (n := (unkT u).length) (by omega)
  have h3 := tags_len (unkT u) fun x hx => h x (ztr hx)
  have h4 := szU_unk u
  simp only [if_true, List.length_append]; omega
def K0 : Nat := 40000
theorem zrl (fl null : Bool) (n size : Nat) (hn : n ≤ 32767) (hs : size ≤ 8) : (zby fl null n size).length ≤ 10 := zps fl null n size hn hs
theorem valB_len {fl : Bool} {kind : Int} {pt : Tr → List UInt8} {null : Bool} {t : Tr} (hp : kind = 10 → (pt t).length ≤ K0 * szT t) : (valB fl kind pt null t).length ≤ K0 * szT t ∧ (kind ≠ 10 → (valB fl kind pt null t).length ≤ 20 + t.s.length) := by
 have h1 := szT_pos t
 have hs : t.s.length ≤ szT t := by rw [zvi]; omega
 have hw : (zbz t.s).length ≤ t.s.length := by simp [zbz]; omega
 have hw2 := zma t.s
 have key : (valB fl kind pt null t).length ≤ 20 + t.s.length → (valB fl kind pt null t).length ≤ K0 * szT t ∧ (kind ≠ 10 → (valB fl kind pt null t).length ≤ 20 + t.s.length) := fun h => ⟨by unfold K0; omega, fun _ => h⟩
 have hc : ∀ size, size ≤ 8 → (zby fl null (if null then [] else zbz t.s).length size ++ (if null then [] else zbz t.s)).length ≤ 20 + t.s.length := by
  intro size hsz
  have hl : (if null then [] else zbz t.s).length ≤ t.s.length ∧ (if null then [] else zbz t.s).length ≤ 32767 := by cases null <;> simp <;> omega
  have := zrl fl null _ size hl.2 hsz
  rw [List.length_append]; omega
 by_cases e0 : kind = 0
 ·exact key (by rw [valB, if_pos e0]; simp; omega)
 by_cases e7 : kind = 7
 ·exact key (by rw [valB, if_neg e0, if_pos e7]; have := idB_len t.s; unfold idB at this; omega)
 by_cases e8 : kind = 8
 ·exact key (by rw [valB, if_neg e0, if_neg e7, if_pos e8]; exact hc 2 (by decide))
 by_cases e9 : kind = 9
 ·exact key (by rw [valB, if_neg e0, if_neg e7, if_neg e8, if_pos e9]; exact hc 4 (by decide))
 by_cases e10 : kind = 10
 ·rw [valB, if_neg e0, if_neg e7, if_neg e8, if_neg e9, if_pos e10]
  exact ⟨hp e10, fun h => absurd e10 h⟩
 ·refine key ?_
  rw [valB, if_neg e0, if_neg e7, if_neg e8, if_neg e9, if_neg e10, zdf]
  have : zgh kind ≤ 8 := by unfold zgh; (repeat' split) <;> omega
  omega
theorem flat_len {f : Tr → List UInt8} : ∀ {l : List Tr}, (∀ x ∈ l, (f x).length ≤ K0 * szT x) → (l.flatMap f).length ≤ K0 * szTs l
 | [], _ => by simp
 | x :: l, h => by
  have h1 := h x (by simp)
  have h2 := flat_len fun y hy => h y (List.mem_cons_of_mem _ hy)
  rw [List.flatMap_cons, List.length_append, szTs, Nat.mul_add]; omega
theorem szTs_take (n : Nat) : ∀ l : List Tr, szTs (l.take n) ≤ szTs l := by
 induction n with
 | zero => intro l; simp [szTs]
 | succ n ih =>
  intro l
  cases l with
  | nil => simp
  | cons x l => have := ih l; simp only [szTs, List.take_succ_cons]; omega
def zsk (t : Tr) (i : Nat) : Nat := szTs (t.l.drop i)
theorem restS_at (t : Tr) (i : Nat) : (i < t.l.length → zsk t i = szT (atT t i) + zsk t (i + 1)) ∧ (¬ i < t.l.length → atT t i = tr0 ∧ zsk t (i + 1) = 0) := by
 refine ⟨fun h => ?_, fun h => ?_⟩
 ·unfold zsk atT
  rw [List.drop_eq_getElem_cons h, szTs, List.getD, List.getElem?_eq_getElem h]; rfl
 ·unfold zsk atT
  rw [List.getD, List.getElem?_eq_none (by omega), List.drop_of_length_le (by omega)]
  exact ⟨rfl, rfl⟩
mutual
theorem fieldB_len {fl : Bool} {v : Int} : ∀ (f : Fld), okFB f = true → ∀ t, wfT t → (zew fl v f t).length ≤ K0 * szT t ∧ (t.l = [] → (zew fl v f t).length ≤ 20 + t.s.length)
 | .mk k fr to n g d o sub, h, t, hw => by
  simp only [okFB, Bool.and_eq_true, decide_eq_true_eq, Bool.or_eq_true] at h
  obtain ⟨⟨h1, h2⟩, h3⟩ := h
  have h1 := szT_pos t
  by_cases e11 : k = 11
  ·have hp : o = 10 → ∀ x, wfT x → (zdk fl v sub x).length ≤ K0 * szT x := by
    intro ho x hx
    rcases h3 with (h3 | h3) | ⟨h3, h4⟩
    ·exact absurd e11 h3
    ·exact absurd ho h3
    ·have hs : sub.length < 1000 := by simpa using h3
     have hf := znm (fl := fl) (v := v) sub h4 0 x hx
     have he := end_len (flex := fl) (u := x.u) hx.u
     have hx0 : zsk x 0 = szTs x.l := by simp [zsk]
     unfold zdk endB
     rw [List.length_append]
     rw [hx0] at hf
     rw [zvi x]
     have : K0 * (1 + x.s.length + szTs x.l + szU x.u) = K0 + K0 * x.s.length + K0 * szTs x.l + K0 * szU x.u := by simp only [Nat.mul_add, Nat.mul_one]
     rw [this]
     have : 20 * szU x.u ≤ K0 * szU x.u := Nat.mul_le_mul_right _ (by decide)
     have : 20 * sub.length + 10 ≤ K0 := by unfold K0; omega
     omega
   have e : zew fl v (.mk k fr to n g d o sub) t = _ := znn (f := .mk k fr to n g d o sub) e11
   rw [e]
   obtain ⟨l, hl⟩ : ∃ l, l = (if (Fld.mk k fr to n g d o sub).nullB v t then [] else zei t.l) := ⟨_, rfl⟩
   rw [← hl]
   have hsub : szTs l ≤ szTs t.l ∧ l.length ≤ 32767 ∧ (∀ x ∈ l, wfT x) ∧ (t.l = [] → l = []) := by
    rw [hl]
    cases (Fld.mk k fr to n g d o sub).nullB v t with
    | true => exact ⟨by simp [szTs], by simp, (fun x hx => by cases hx), fun _ => rfl⟩
    | false => exact ⟨szTs_take most t.l, by simp [zei, most]; omega, fun x hx => hw.l x (List.mem_of_mem_take hx), fun h => by simp [zei, h]⟩
   obtain ⟨s1, s2, s3, s4⟩ := hsub
   have hc := zrl fl ((Fld.mk k fr to n g d o sub).nullB v t) l.length 4 s2 (by decide)
   have hfl : (l.flatMap (valB fl o (zdk fl v sub) false)).length ≤ K0 * szTs l := flat_len fun x hx => (valB_len (fun ho => hp ho x (s3 x hx))).1
   have hm : K0 * szTs l ≤ K0 * szTs t.l := Nat.mul_le_mul_left _ s1
   refine ⟨?_, fun h0 => ?_⟩
   ·rw [List.length_append]
    show _ + (l.flatMap (valB fl o (zdk fl v sub) false)).length ≤ _
    rw [zvi t]
    have : K0 * (1 + t.s.length + szTs t.l + szU t.u) = K0 + K0 * t.s.length + K0 * szTs t.l + K0 * szU t.u := by simp only [Nat.mul_add, Nat.mul_one]
    rw [this]
    have : 10 ≤ K0 := by decide
    omega
   ·rw [List.length_append]
    have := s4 h0
    rw [this] at hc ⊢
    simp only [List.flatMap_nil, List.length_nil] at hc ⊢
    omega
  ·have e : zew fl v (.mk k fr to n g d o sub) t = _ := zpd (f := .mk k fr to n g d o sub) e11
   rw [e]
   have := valB_len (fl := fl) (kind := k) (pt := zdk fl v sub) (null := (Fld.mk k fr to n g d o sub).nullB v t) (t := t) (fun hc => absurd hc h2)
   exact ⟨this.1, fun _ => this.2 h2⟩
theorem znm {fl : Bool} {v : Int} : ∀ (fs : List Fld), zqc fs = true → ∀ (i : Nat) (t : Tr), wfT t → (zcu fl v fs i t).length ≤ 20 * fs.length + K0 * zsk t i
 | [], _, i, t, _ => by simp [zcu]
 | f :: r, h, i, t, hw => by
  simp only [zqc, Bool.and_eq_true] at h
  have h1 := fieldB_len (fl := fl) (v := v) f h.1 (atT t i) (hw.at i)
  have h2 := znm (fl := fl) (v := v) r h.2 (i + 1) t hw
  rw [zcu, List.length_append, List.length_cons]
  have h3 : (if f.has v then zew fl v f (atT t i) else []).length ≤ (zew fl v f (atT t i)).length := by split <;> simp
  have hm : 20 * (r.length + 1) = 20 * r.length + 20 := by omega
  rw [hm]
  obtain ⟨r1, r2⟩ := restS_at t i
  by_cases hi : i < t.l.length
  ·rw [r1 hi, Nat.mul_add]
   have h5 := h1.1
   omega
  ·obtain ⟨e1, e2⟩ := r2 hi
   have h4 := h1.2 (by rw [e1]; rfl)
   have e3 : (atT t i).s.length = 0 := by rw [e1]; rfl
   rw [e2] at h2
   have : K0 * 0 = 0 := rfl
   omega
end
theorem partB_len {fl : Bool} {v : Int} {fs : List Fld} (h : zqc fs = true) (hl : fs.length < 1000) {t : Tr} (hw : wfT t) : (zdk fl v fs t).length ≤ K0 * szT t := by
 have hf := znm (fl := fl) (v := v) fs h 0 t hw
 have he := end_len (flex := fl) (u := t.u) hw.u
 have hx0 : zsk t 0 = szTs t.l := by simp [zsk]
 unfold zdk endB
 rw [List.length_append]
 rw [hx0] at hf
 rw [zvi t]
 have : K0 * (1 + t.s.length + szTs t.l + szU t.u) = K0 + K0 * t.s.length + K0 * szTs t.l + K0 * szU t.u := by simp only [Nat.mul_add, Nat.mul_one]
 rw [this]
 have : 20 * szU t.u ≤ K0 * szU t.u := Nat.mul_le_mul_right _ (by decide)
 have : 20 * fs.length + 10 ≤ K0 := by unfold K0; omega
 omega
section
open Go Go.RowKit Go.ChangeShapes Go.WideShapes
structure BulkF {H : Type} (B : DataW H → Nat) (BA : List (DataW H) → Nat) : Prop where
 lit : ∀ l, 1 ≤ B (.lit l)
 slice : ∀ e s, B (.slice e s) = BA e + BA s + 1
 agg : ∀ l, B (.agg l) = BA l + 1
 nil : B .nil = 1
 anil : BA [] = 0
 acons : ∀ d l, BA (d :: l) = B d + BA l
structure TreeO (P : Program) (N : Nums) : Prop where
 tree : ∃ fs, P.underlying N.zb = some (.struct fs) ∧ fs.toList.map (fun f => (f.offset, f.type)) = [(0, N.zbe), (1, N.za), (2, N.zah), (3, N.zk), (4, N.zh)]
 tag : ∃ fs, P.underlying N.zz = some (.struct fs) ∧ fs.toList.map (fun f => (f.offset, f.type)) = [(0, N.zj), (1, N.za)]
 cTree : P.cellsOf N.zb = 5
 cTag : P.cellsOf N.zz = 2
 c1 : P.cellsOf N.zbe = 1 ∧ P.cellsOf N.za = 1 ∧ P.cellsOf N.zah = 1 ∧ P.cellsOf N.zk = 1 ∧ P.cellsOf N.zh = 1 ∧ P.cellsOf N.zj = 1 ∧ P.cellsOf N.zx = 1
section
variable {P : Program} {N : Nums} {H : Type} {enc : TypeId × Value → H} {w : World} {B : DataW H → Nat} {BA : List (DataW H) → Nat}
end
end
inductive SC where
 | mk (parts : List (Nat × Int)) (sub : Option FuncId) (fs : List SC)
def zvx (parts : List (Nat × Int)) : List Int := parts.foldl (fun l p => l.set p.1 p.2) [0, 0, 0, 0, 0, 0, 0]
def mkF (l : List Int) (sub : List Fld) : Fld := .mk (l.getD 0 0) (l.getD 1 0) (l.getD 2 0) (l.getD 3 0) (l.getD 4 0) (l.getD 5 0) (l.getD 6 0) sub
mutual
def SC.fld : SC → Fld
 | .mk parts _ fs => mkF (zvx parts) (SC.flds fs)
def SC.flds : List SC → List Fld
 | [] => []
 | s :: l => s.fld :: SC.flds l
end
def SC.parts : SC → List (Nat × Int) | .mk p _ _ => p
def SC.fs : SC → List SC | .mk _ _ l => l
theorem SC.flds_len : ∀ l : List SC, (SC.flds l).length = l.length
 | [] => rfl
 | _ :: l => by simp [SC.flds, SC.flds_len l]
section
variable (N : Nums) (M : zci)
def partO (p : Nat × Int) : Nat × Operand := (p.1, .const (.int .i64 p.2))
def zxg : List SC → Nat → List ROp
 | [], _ => []
 | .mk parts none _ :: l, k => ⟨some k, .build M.zg (parts.map partO).toArray, 0, none, []⟩ :: zxg l (k + 1)
 | .mk parts (some f) _ :: l, k => ⟨some k, .call ⟨.value (.func f), #[], #[]⟩, M.zae, none, []⟩ :: ⟨some (k + 1), .build M.zg (parts.map partO ++ [(7, T k)]).toArray, 0, none, []⟩ :: zxg l (k + 2)
def scSl : List SC → Nat → List Nat
 | [], _ => []
 | .mk _ none _ :: l, k => k :: scSl l (k + 1)
 | .mk _ (some _) _ :: l, k => (k + 1) :: scSl l (k + 2)
def zne : List SC → Nat → Nat
 | [], k => k
 | .mk _ none _ :: l, k => zne l (k + 1)
 | .mk _ (some _) _ :: l, k => zne l (k + 2)
def ztz (l : List SC) (k : Nat) : ROp := ⟨some (zne l k), .buildSlice M.zae l.length ((scSl l k).zipIdx.map fun p => (p.2, T p.1)).toArray, 0, none, []⟩
def c_flds (l : List SC) : C := seqs [.ops [⟨some 100, .assign (.const (.slice none 0 0)), 0, none, []⟩], .ops (zxg M l 0 ++ [ztz M l 0, ⟨some 100, .assign (T (zne l 0)), 0, none, []⟩]), .ret]
def c_msg (l : List SC) (fl : Int) : C := seqs [.ops [⟨some 100, .alloc M.zaq, 0, none, []⟩],
 .ops (zxg M l 0 ++ [ztz M l 0, ⟨some (zne l 0 + 1), .build M.zaq #[(1, .const (.int .i64 fl)), (0, T (zne l 0))], 0, none, []⟩, ⟨none, .store M.zaq (V 0) (T (zne l 0 + 1)), 0, none, []⟩]), .ret]
end
def SC.partsB (s : SC) : Bool := s.parts.all fun p => Nat.blt p.1 7
def scB (l : List SC) : Bool := l.all SC.partsB && Nat.blt (zne l 0) 90 && Nat.blt 0 l.length && Nat.blt l.length 1000
theorem zqi : ∀ (l : List SC) (k : Nat), k ≤ zne l k
 | [], k => Nat.le_refl _
 | .mk _ none _ :: l, k => Nat.le_trans (Nat.le_succ k) (zqi l (k + 1))
 | .mk _ (some _) _ :: l, k => Nat.le_trans (by omega) (zqi l (k + 2))
theorem zua : ∀ (l : List SC) (k : Nat), (scSl l k).length = l.length
 | [], k => rfl
 | .mk _ none _ :: l, k => by simp [scSl, zua l]
 | .mk _ (some _) _ :: l, k => by simp [scSl, zua l]
def zis (l : List Int) (v : Value) : List Value := l.map (fun n => Value.int .i64 n) ++ [v]
def zuh : Array (Nat × Nat) := [(0, 1), (1, 1), (2, 1), (3, 1), (4, 1), (5, 1), (6, 1), (7, 1)].toArray
theorem zsz : ∀ i, i < 8 → zuh[i]? = some (i, 1)
 | 0, _ => rfl | 1, _ => rfl | 2, _ => rfl | 3, _ => rfl | 4, _ => rfl | 5, _ => rfl | 6, _ => rfl | 7, _ => rfl
 | n + 8, h => by omega
theorem zum (rest : List (Nat × Value)) : ∀ (parts : List (Nat × Int)) (l : List Int) (v : Value), l.length = 7 → (parts.all fun p => Nat.blt p.1 7) = true →
  Instr.fill (zuh[·]?) (zis l v).toArray (parts.map (fun (p : Nat × Int) => (p.1, Value.int .i64 p.2)) ++ rest) = Instr.fill (zuh[·]?) (zis (parts.foldl (fun l p => l.set p.1 p.2) l) v).toArray rest
 | [], l, v, _, _ => rfl
 | (i, n) :: parts, l, v, hl, h => by
  simp only [List.all_cons, Bool.and_eq_true] at h
  have hi : i < 7 := by simpa using h.1
  rw [List.map_cons, List.cons_append, Instr.fill, zsz i (by omega)]
  simp only
  have hc : (Value.int .i64 n).cells = #[.int .i64 n] := rfl
  rw [hc, if_neg (by simp [zis, hl]; omega)]
  have e : (((#[Value.int .i64 n] : Array Value).zipIdx.foldl (fun cs x => cs.setIfInBounds (i + x.2) x.1) (zis l v).toArray)) = (zis (l.set i n) v).toArray := by
   have : (#[Value.int .i64 n] : Array Value).zipIdx = #[(Value.int .i64 n, 0)] := rfl
   rw [this]
   simp only [List.foldl_toArray', List.foldl_cons, List.foldl_nil, Nat.add_zero, zis, List.setIfInBounds_toArray]
   congr 1
   rw [List.set_append_left _ _ (by simp [hl]; exact hi), List.map_set]
  rw [e, List.foldl_cons]
  exact zum rest parts (l.set i n) v (by simp [hl]) h.2
theorem zqk : ∀ (parts : List (Nat × Int)) (l : List Int), (parts.foldl (fun l p => l.set p.1 p.2) l).length = l.length
 | [], l => rfl
 | p :: parts, l => by rw [List.foldl_cons, zqk]; simp
section
variable {P : Program} {N : Nums} {M : zci}
theorem ztf {w : World} {l : List Int} (hl : l.length = 7) {v : Value} {sub : List Fld} (h : zgs w v sub) : RepF w (mkF l sub) (zis l v) := by
 match l, hl with
 | [a, b, c, d, e, f, g], _ => exact RepF.mk' (f := mkF [a, b, c, d, e, f, g] sub) h
theorem build_num (S : SpT P N M) {w : World} {parts : List (Nat × Int)} (h : (parts.all fun p => Nat.blt p.1 7) = true) :
  (Instr.build M.zg ((parts.map fun (p : Nat × Int) => (p.1, Value.int .i64 p.2)).toArray)).run P w = .ok (.agg (zis (zvx parts) (.slice none 0 0)).toArray) w :=
 S.fld.run_build (by
  have := zum [] parts [0, 0, 0, 0, 0, 0, 0] (.slice none 0 0) rfl h
  rw [List.append_nil] at this
  exact this)
theorem build_sub (S : SpT P N M) {w : World} {parts : List (Nat × Int)} (h : (parts.all fun p => Nat.blt p.1 7) = true) {v : Value} (hv : v.oneCell' = true) :
  (Instr.build M.zg ((parts.map (fun (p : Nat × Int) => (p.1, Value.int .i64 p.2)) ++ [(7, v)]).toArray)).run P w = .ok (.agg (zis (zvx parts) v).toArray) w :=
 S.fld.run_build (by
  have := zum [(7, v)] parts [0, 0, 0, 0, 0, 0, 0] (.slice none 0 0) rfl h
  refine this.trans ?_
  have hl := zqk parts [0, 0, 0, 0, 0, 0, 0]
  show Instr.fill (zuh[·]?) (zis (zvx parts) (.slice none 0 0)).toArray [(7, v)] = _
  have hl : (zvx parts).length = 7 := hl
  rw [Instr.fill, zsz 7 (by decide)]
  simp only
  rw [zcn hv, if_neg (by simp [zis, hl])]
  have e : (#[v] : Array Value).zipIdx = #[(v, 0)] := rfl
  rw [e]
  simp only [List.foldl_toArray', List.foldl_cons, List.foldl_nil, Nat.add_zero, zis, List.setIfInBounds_toArray, Instr.fill]
  congr 2
  rw [List.set_append_right _ _ (by simp [hl])]
  simp [hl])
def MkOk (P : Program) (f : FuncId) (l : List Fld) : Prop := ∀ w, Call P f #[] w fun r w' => zgs w' r l ∧ Mod w w' zp
def scOk (P : Program) : List SC → Prop
 | [] => True
 | .mk parts none fs :: l => fs = [] ∧ scOk P l
 | .mk parts (some f) fs :: l => (MkOk P f (SC.flds fs) ∧ zcx P f) ∧ scOk P l
theorem step_callZ {f : FuncId} {d : Option Nat} {ty : TypeId} {af : List Nat} {ρ : Env} {w : World} {K : Env → World → Prop} (hf : zcx P f) : zbn P ⟨d, .call ⟨.value (.func f), #[], #[]⟩, ty, none, af⟩ ρ w K = Call P f #[] w fun v w' => K (put ρ d v) w' := zow hf
theorem zoh (S : SpT P N M) {K : Env → World → Prop} : ∀ (l : List SC) (k : Nat) (ρ : Env) (w w0 : World), (l.all SC.partsB) = true → scOk P l → Mod w0 w zp →
  (∀ (ρ' : Env) (w' : World) (css : List (List Value)), (∀ t, t < k ∨ 100 ≤ t → ρ' t = ρ t) → zfs w' (SC.flds l) css → (∀ (j s : Nat), (scSl l k)[j]? = some s → ∃ c : List Value, css[j]? = some c ∧ ρ' s = .agg c.toArray) → Mod w0 w' zp → K ρ' w') → zne l k < 90 →
  runR P (zxg M l k) ρ w K
 | [], k, ρ, w, w0, _, _, m, hK, _ => hK ρ w [] (fun _ _ => rfl) rfl (fun j s h => by simp [scSl] at h) m
 | .mk parts none fs :: l, k, ρ, w, w0, hp, ⟨hfs, hok⟩, m, hK, he => by
  subst hfs
  simp only [List.all_cons, Bool.and_eq_true] at hp
  have he2 := zqi l (k + 1)
  rw [zxg, runR]
  have e1 : ((parts.map partO).toArray.map fun (p : Nat × Operand) => (p.1, ev ρ p.2)) = (parts.map fun (p : Nat × Int) => (p.1, Value.int .i64 p.2)).toArray := by
   simp [partO, Function.comp_def]
  rw [zen, e1, build_num S (parts := parts) hp.1]
  simp only [stepV_ok]
  have hrep : ∀ w', RepF w' (SC.fld (.mk parts none [])) (zis (zvx parts) (.slice none 0 0)) := fun w' => ztf (zqk _ _) (.inl ⟨_, _, rfl, rfl⟩)
  refine zoh S l (k + 1) _ w w0 hp.2 hok m (fun ρ' w' css h1 h2 h3 h4 => ?_) he
  refine hK ρ' w' (zis (zvx parts) (.slice none 0 0) :: css) (fun t ht => ?_) ⟨_, _, rfl, hrep w', h2⟩ (fun j s hs => ?_) h4
  ·rw [h1 t (by omega), zhu]
   have : (t == k) = false := beq_eq_false_iff_ne.2 (by have : zne l (k + 1) < 90 := he; omega)
   rw [this]; rfl
  ·cases j with
   | zero =>
    simp [scSl] at hs
    subst hs
    exact ⟨_, rfl, by rw [h1 k (by omega), zhu]; simp [sel]⟩
   | succ j => exact h3 j s (by simpa [scSl] using hs)
 | .mk parts (some f) fs :: l, k, ρ, w, w0, hp, ⟨⟨hmk, hbody⟩, hok⟩, m, hK, he => by
  simp only [List.all_cons, Bool.and_eq_true] at hp
  have he2 := zqi l (k + 2)
  have he3 : zne l (k + 2) < 90 := he
  rw [zxg, runR, step_callZ hbody]
  refine (hmk w).mono ?_
  rintro r w1 ⟨hr, m1⟩
  rw [runR]
  have e1 : (((parts.map partO ++ [((7 : Nat), T k)]).toArray : Array (Nat × Operand)).map fun (p : Nat × Operand) => (p.1, ev (put ρ (some k) r) p.2)) = (parts.map (fun (p : Nat × Int) => (p.1, Value.int .i64 p.2)) ++ [(7, r)]).toArray := by
   simp [partO, Function.comp_def, zhu, sel]
  rw [zen, e1, build_sub S (parts := parts) hp.1 hr.one]
  simp only [stepV_ok]
  have m01 := m.trans' m1
  refine zoh S l (k + 2) _ w1 w1 hp.2 hok (.refl _ _) (fun ρ' w' css h1 h2 h3 h4 => ?_) he
  refine hK ρ' w' (zis (zvx parts) r :: css) (fun t ht => ?_) ⟨_, _, rfl, ztf (zqk _ _) (hr.stay h4), h2⟩ (fun j s hs => ?_) (m01.trans' h4)
  ·rw [h1 t (by omega), zhu, zhu]
   have : (t == k + 1) = false := beq_eq_false_iff_ne.2 (by omega)
   have h2 : (t == k) = false := beq_eq_false_iff_ne.2 (by omega)
   rw [this, h2]; rfl
  ·cases j with
   | zero =>
    simp [scSl] at hs
    subst hs
    exact ⟨_, rfl, by rw [h1 (k + 1) (by omega), zhu]; simp [sel]⟩
   | succ j => exact h3 j s (by simpa [scSl] using hs)
end
theorem zwc (off : Nat) : ∀ (l : List Value) (k : Nat) (arr : Array Value), (l.zipIdx k).foldl (fun cs (x : Value × Nat) => cs.setIfInBounds (off + x.2) x.1) arr = (l.zipIdx (off + k)).foldl (fun cs (x : Value × Nat) => cs.setIfInBounds x.2 x.1) arr
 | [], k, arr => rfl
 | v :: l, k, arr => by
  rw [List.zipIdx_cons, List.zipIdx_cons, List.foldl_cons, List.foldl_cons, zwc off l (k + 1), Nat.add_assoc]
theorem zwd (sz : Nat) : ∀ (css : List (List Value)) (k : Nat) (arr : Array Value), (∀ c ∈ css, c.length = sz) → (k + css.length) * sz ≤ arr.size →
  ∃ out, Instr.fill (fun i => some (i * sz, sz)) arr ((css.zipIdx k).map fun p => (p.2, Value.agg p.1.toArray)) = some out ∧ out.toList = arr.toList.take (k * sz) ++ css.flatten ++ arr.toList.drop ((k + css.length) * sz)
 | [], k, arr, _, h => ⟨arr, rfl, by simp⟩
 | c :: css, k, arr, hc, h => by
  have hcl := hc c (by simp)
  have h1 : (k + 1) * sz + css.length * sz ≤ arr.size := by
   rw [← Nat.add_mul]; simp only [List.length_cons] at h; rwa [show k + 1 + css.length = k + (css.length + 1) by omega]
  have h2 : (k + 1) * sz = k * sz + sz := by rw [Nat.add_mul, Nat.one_mul]
  rw [List.zipIdx_cons, List.map_cons, Instr.fill]
  simp only
  have hcells : (Value.agg c.toArray).cells = c.toArray := rfl
  rw [hcells, if_neg (by simp [hcl]; omega)]
  have e : c.toArray.zipIdx = (c.zipIdx 0).toArray := by simp
  obtain ⟨arr1, harr1⟩ : ∃ arr1, arr1 = c.toArray.zipIdx.foldl (fun cs (x : Value × Nat) => cs.setIfInBounds (k * sz + x.2) x.1) arr := ⟨_, rfl⟩
  have hl1 : arr1.toList = arr.toList.take (k * sz) ++ c ++ arr.toList.drop (k * sz + c.length) := by
   rw [harr1, e, List.foldl_toArray, zwc, Nat.add_zero]
   exact zpc c (k * sz) arr (by rw [hcl]; omega)
  have hs1 : arr1.size = arr.size := by
   have := congrArg List.length hl1
   simp only [Array.length_toList, List.length_append, List.length_take, List.length_drop] at this
   omega
  obtain ⟨out, g1, g2⟩ := zwd sz css (k + 1) arr1 (fun x hx => hc x (List.mem_cons_of_mem _ hx)) (by rw [hs1, Nat.add_mul]; exact h1)
  refine ⟨out, ?_, ?_⟩
  ·rw [← harr1]; exact g1
  ·rw [g2, hl1, List.flatten_cons]
   have t1 : (arr.toList.take (k * sz) ++ c ++ arr.toList.drop (k * sz + c.length)).take ((k + 1) * sz) = arr.toList.take (k * sz) ++ c := by
    rw [List.take_append_of_le_length (by simp [hcl]; omega), List.take_of_length_le (by simp [hcl]; omega)]
   have t2 : (arr.toList.take (k * sz) ++ c ++ arr.toList.drop (k * sz + c.length)).drop ((k + 1 + css.length) * sz) = arr.toList.drop ((k + (c :: css).length) * sz) := by
    have hm : (k + 1 + css.length) * sz = k * sz + sz + css.length * sz := by rw [Nat.add_mul, Nat.add_mul, Nat.one_mul]
    have hm2 : (k + (c :: css).length) * sz = k * sz + sz + css.length * sz := by rw [← hm, List.length_cons]; congr 1; omega
    have hle : (arr.toList.take (k * sz) ++ c).length = k * sz + sz := by simp [hcl]; omega
    rw [List.drop_append, hle, List.drop_of_length_le (by rw [hle]; omega), List.nil_append, List.drop_drop, hm, hm2, hcl]
    congr 1; omega
   rw [t1, t2]
   simp
theorem zte {w w' : World} {k b o : Nat} {fs : List Fld} {css : List (List Value)} (hm : Mod w w' (blk k)) (hk : ∀ i, 7 ≤ i → w.cell? ⟨k, i, none⟩ = none) (hr : zfs w fs css) (h : w.rangeAt b o css.flatten) : w'.rangeAt b o css.flatten := by
 cases fs with
 | nil => simp only [zfs] at hr; subst hr; intro j v hj; simp at hj
 | cons f fs =>
  obtain ⟨c, r, rfl, hc, hr⟩ := hr
  have h8 := hc.len
  match c, h8 with
  | [x0, x1, x2, x3, x4, x5, x6, x7], _ =>
   have h7 := h 7 x7 (by simp)
   have hne : b ≠ k := fun e => by
    subst e
    rw [hk (o + 7) (by omega)] at h7; cases h7
   have hb : b < w.heap.size := zax (by rw [h7]; rfl)
   exact hm.rangeAt hb (fun i _ _ e => hne e) h
mutual
theorem RepF.but {w w' : World} {k : Nat} (hm : Mod w w' (blk k)) (hk : ∀ i, 7 ≤ i → w.cell? ⟨k, i, none⟩ = none) : ∀ (t : Fld) {cs : List Value}, RepF w t cs → RepF w' t cs
 | .mk _ _ _ _ _ _ _ sub, _, ⟨v, h1, h3⟩ => ⟨v, h1, h3.imp id fun ⟨b, o, c, css, g1, g2, g3, g4⟩ => ⟨b, o, c, css, g1, g2, zfs.but hm hk sub g3, zte hm hk g3 g4⟩⟩
theorem zfs.but {w w' : World} {k : Nat} (hm : Mod w w' (blk k)) (hk : ∀ i, 7 ≤ i → w.cell? ⟨k, i, none⟩ = none) : ∀ (l : List Fld) {css : List (List Value)}, zfs w l css → zfs w' l css
 | [], _, hr => hr
 | t :: l, _, ⟨c, r, h1, h2, h3⟩ => ⟨c, r, h1, RepF.but hm hk t h2, zfs.but hm hk l h3⟩
end
theorem zgs.but {w w' : World} {k : Nat} (hm : Mod w w' (blk k)) (hk : ∀ i, 7 ≤ i → w.cell? ⟨k, i, none⟩ = none) {v : Value} {fs : List Fld} (hs : zgs w v fs) : zgs w' v fs :=
 hs.imp id fun ⟨b, o, c, css, h1, h2, h3, h4⟩ => ⟨b, o, c, css, h1, h2, zfs.but hm hk fs h3, zte hm hk h3 h4⟩
section
variable {P : Program} {N : Nums} {M : zci}
theorem run_bsFs (S : SpT P N M) {w : World} {l : List Fld} {css : List (List Value)} (h : zfs w l css) (h0 : 0 < l.length) (h1 : l.length < 1000) :
  ∃ w1, (Instr.buildSlice M.zae l.length ((css.zipIdx 0).map fun p => (p.2, Value.agg p.1.toArray)).toArray).run P w = .ok (.slice (some ⟨w.heap.size, 0, none⟩) l.length l.length) w1 ∧ Mod w w1 zp ∧ zgs w1 (.slice (some ⟨w.heap.size, 0, none⟩) l.length l.length) l := by
 obtain ⟨fs', hti⟩ := S.fld.out
 obtain ⟨i, hi, hsz, _, hz⟩ := hti.1.info
 have hsz : i.size = 8 := hsz
 have hlen : css.length = l.length := by
  have : ∀ (l : List Fld) (css : List (List Value)), zfs w l css → css.length = l.length := by
   intro l
   induction l with
   | nil => intro css h; simp only [zfs] at h; subst h; rfl
   | cons f l ih => rintro _ ⟨c, r, rfl, _, hr⟩; simp [ih r hr]
  exact this l css h
 have h8 := h.len8
 have hlz : ((Array.range (l.length * 8)).map ((Value.agg ([Value.int .i64 0, .int .i64 0, .int .i64 0, .int .i64 0, .int .i64 0, .int .i64 0, .int .i64 0, .slice none 0 0] : List Value).toArray).cells[· % (Value.agg ([Value.int .i64 0, .int .i64 0, .int .i64 0, .int .i64 0, .int .i64 0, .int .i64 0, .int .i64 0, .slice none 0 0] : List Value).toArray).cells.size]!)).size = l.length * 8 := by simp
 obtain ⟨out, g1, g2⟩ := zwd 8 css 0 _ h8 (by rw [hlz, Nat.zero_add, hlen]; exact Nat.le_refl _)
 have hr := run_buildSlice (P := P) w M.zae M.zg l.length ((css.zipIdx 0).map fun p => (p.2, Value.agg p.1.toArray)).toArray out i _ S.lf.und hi hz (by rw [hsz]; omega) (by rw [hsz]; omega) (by rw [hsz]; exact g1)
 have hout : out = css.flatten.toArray := by
  apply Array.ext'
  rw [g2]
  rw [Nat.zero_mul, List.take_zero, List.nil_append, Nat.zero_add, hlen, List.drop_of_length_le (by rw [Array.length_toList, hlz]; exact Nat.le_refl _)]
  simp
 rw [hout] at hr
 have m : Mod w (w.alloc (.cells css.flatten.toArray M.zg)) zp := Mod.alloc _ _ _
 refine ⟨_, hr, m, .inr ⟨w.heap.size, 0, l.length, css, rfl, Nat.le_refl _, zfs.stay m _ h, ?_⟩⟩
 have := zw w css.flatten.toArray M.zg (0, 0)
 simpa using this
theorem zqw (S : SpT P N M) {l : List SC} {k : Nat} {ρ : Env} {w : World} {css : List (List Value)} {K : Env → World → Prop} (hr : zfs w (SC.flds l) css) (hs : ∀ (j s : Nat), (scSl l k)[j]? = some s → ∃ c : List Value, css[j]? = some c ∧ ρ s = .agg c.toArray) (h0 : 0 < l.length) (h1 : l.length < 1000)
  (hK : ∀ (r : Value) (w1 : World), Mod w w1 zp → zgs w1 r (SC.flds l) → K (put ρ (some (zne l k)) r) w1) : zbn P (ztz M l k) ρ w K := by
 unfold ztz
 have hfl := SC.flds_len l
 obtain ⟨w1, hb, m1, hf1⟩ := run_bsFs S hr (by omega) (by omega)
 have hcl : css.length = l.length := by
  have : ∀ (l : List Fld) (css : List (List Value)), zfs w l css → css.length = l.length := by
   intro l
   induction l with
   | nil => intro css h; simp only [zfs] at h; subst h; rfl
   | cons f l ih => rintro _ ⟨c, r, rfl, _, hr⟩; simp [ih r hr]
  rw [this _ _ hr, hfl]
 have e : (((scSl l k).zipIdx.map fun p => (p.2, T p.1)).toArray.map fun (p : Nat × Operand) => (p.1, ev ρ p.2)) = ((css.zipIdx 0).map fun p => (p.2, Value.agg p.1.toArray)).toArray := by
  rw [List.map_toArray, List.map_map]
  congr 1
  apply List.ext_getElem?
  intro j
  rw [List.getElem?_map, List.getElem?_map, List.getElem?_zipIdx, List.getElem?_zipIdx]
  cases hj : (scSl l k)[j]? with
  | none =>
   have : css[j]? = none := by
    rw [List.getElem?_eq_none_iff] at hj ⊢
    rw [zua] at hj; omega
   rw [this]; rfl
  | some s =>
   obtain ⟨c, hc, hv⟩ := hs j s hj
   rw [hc]
   simp [hv]
 rw [hfl] at hb
 rw [zcj, e, hb]
 simp only [stepV_ok]
 rw [hfl] at hf1
 exact hK _ _ m1 hf1
theorem zub {l : List SC} (h : scB l = true) : (l.all SC.partsB) = true ∧ zne l 0 < 90 ∧ 0 < l.length ∧ l.length < 1000 := by
 unfold scB at h
 simp only [Bool.and_eq_true] at h
 obtain ⟨⟨⟨h1, h2⟩, h3⟩, h4⟩ := h
 exact ⟨h1, by simpa using h2, by simpa using h3, by simpa using h4⟩
theorem mk_flds (S : SpT P N M) {l : List SC} (hB : scB l = true) (hok : scOk P l) {f : FuncId} (hf : FOk P f 0 (c_flds M l) [.var 0]) : MkOk P f (SC.flds l) := by
 intro w
 obtain ⟨b1, b2, b3, b4⟩ := zub hB
 refine hf.call rfl fun loc N' hlo => ?_
 unfold c_flds seqs seqs seqs
 refine zd fun K hK => zav (hK _ _ ?_)
 clear hK K
 refine zd fun K hK => zaa fun τ => zkg _ _ _ _ (zoh S l 0 _ w w b1 hok (.refl _ _) (fun ρ w1 css h1 h2 h3 m1 => ?_) b2)
 rw [runR]
 refine zqw S h2 h3 b3 b4 fun r w2 m2 hr => ?_
 simp +decide only [runR, zkf, ev_tmp, zhu, sel_true, BEq.rfl]
 refine hK _ _ (zf fun σ' hσ => zbx ⟨.inr rfl, _, rfl, ?_⟩)
 have q := hσ 0
 simp +decide only [bE, BEq.rfl, Nat.zero_add] at q
 rw [q]
 exact ⟨hr, m1.trans' m2⟩
theorem mk_msg (S : SpT P N M) {l : List SC} {fl : Int} (hB : scB l = true) (hok : scOk P l) {f : FuncId} (hf : FOk P f 0 (c_msg M l fl) [.cell 0 M.zaq]) (w : World) :
  Call P f #[] w fun r w' => ∃ fv, r = .agg [fv, .int .i64 fl].toArray ∧ zgs w' fv (SC.flds l) ∧ Mod w w' zp := by
 obtain ⟨b1, b2, b3, b4⟩ := zub hB
 refine hf.call rfl fun loc N' hlo => ?_
 unfold c_msg seqs seqs seqs
 obtain ⟨fs', hti, _⟩ := S.msg.out
 obtain ⟨w0, hw0⟩ : ∃ w0, w0 = w.alloc (.cells (Value.cells (.agg ([.slice none 0 0, .int .i64 0] : List Value).toArray)) M.zaq) := ⟨_, rfl⟩
 have hal := fun old => hti.run_alloc (P := P) (w := w) old
 rw [← hw0] at hal
 have m0 : Mod w w0 zp := by rw [hw0]; exact Mod.alloc _ _ _
 have s0 : w0.heap.size = w.heap.size + 1 := by rw [hw0]; exact zan _ _
 have t0 : w0.there w.heap.size 0 2 := by rw [hw0]; exact zbj w _ M.zaq
 have r0 : w0.rangeAt w.heap.size 0 [.slice none 0 0, .int .i64 0] := by rw [hw0]; exact zw w _ _ _
 have c0 : ∀ i, 2 ≤ i → w0.cell? ⟨w.heap.size, i, none⟩ = none := by
  intro i hi
  rw [hw0]
  simp only [World.cell?, zlw]
  have : (Value.cells (.agg ([.slice none 0 0, .int .i64 0] : List Value).toArray)).size = 2 := rfl
  simp [this]; omega
 clear hw0
 refine zd fun K hK => zaa fun τ => ?_
 simp +decide only [runR, zme, hal, stepV_ok]
 refine hK _ _ (zf fun σ1 hσ => ?_)
 have a0 := hσ 0
 simp +decide only [bE, BEq.rfl, Nat.zero_add] at a0
 clear hσ hK K
 refine zd fun K hK => zaa fun τ => zkg _ _ _ _ (zoh S l 0 _ w0 w0 b1 hok (.refl _ _) (fun ρ w1 css h1 h2 h3 m1 => ?_) b2)
 rw [runR]
 refine zqw S h2 h3 b3 b4 fun r w2 m2 hr => ?_
 have hv0 : ρ 100 = .pointer (some ⟨w.heap.size, 0, none⟩) := by
  rw [h1 100 (.inr (Nat.le_refl _)), zlm]; simp +decide only [bE, decide_false, Nat.reduceSub, a0]
 obtain ⟨n, hn⟩ : ∃ n, n = zne l 0 := ⟨_, rfl⟩
 rw [← hn] at b2 ⊢
 have hbuild : (Instr.build M.zaq #[(1, .int .i64 fl), (0, r)]).run P w2 = .ok (.agg [r, .int .i64 fl].toArray) w2 := S.msg.run_build (by simp [Instr.fill, zcn hr.one, zcn (show (Value.int .i64 fl).oneCell' = true from rfl)])
 have m02 := m1.trans' m2
 have hst := hti.run_store (w := w2) (b := w.heap.size) (o := 0) (v := .agg [r, .int .i64 fl].toArray) (cs := [r, .int .i64 fl]) rfl rfl (m02.there (by omega) t0) (by
  intro c hc; simp at hc; rcases hc with rfl | rfl
  ·exact hr.one
  ·rfl)
 obtain ⟨w3, hw3⟩ : ∃ w3, w3 = w2.setCells w.heap.size 0 [r, .int .i64 fl] := ⟨_, rfl⟩
 have m3 : Mod w2 w3 (blk w.heap.size) := by rw [hw3]; exact Mod.setCells _ _ _ fun _ _ _ _ => rfl
 have r3 : w3.rangeAt w.heap.size 0 [r, .int .i64 fl] := by
  rw [hw3]
  exact zak [r, .int .i64 fl] 0 w2 _ (zv m02 r0) (Nat.le_refl _)
 rw [← hw3] at hst
 clear hw3
 have e1 : (n == n + 1) = false := beq_eq_false_iff_ne.2 (by omega)
 have e2 : (100 == n + 1) = false := beq_eq_false_iff_ne.2 (by omega)
 have e3 : (100 == n) = false := beq_eq_false_iff_ne.2 (by omega)
 have ep : (#[(1, Operand.const (.int .i64 fl)), (0, T n)].map fun (p : Nat × Operand) => (p.1, ev (put ρ (some n) r) p.2)) = #[(1, .int .i64 fl), (0, r)] := by simp [zhu, sel]
 simp +decide only [runR, zen, ep, hbuild, stepV_ok, zec, ev_tmp, zhu, sel_true, sel_false, BEq.rfl, e2, e3, hv0, hst, stepU_ok]
 have m03 : Mod w w3 zp := (m0.trans' m02).fresh m3 fun k o h => by have : k = w.heap.size := h; omega
 refine hK _ _ (zf fun σ' hσ => zbx ⟨.inr rfl, .agg [r, .int .i64 fl].toArray, ?_, r, rfl, ?_, m03⟩)
 ·have q := hσ 0
  rw [show (0 + 100 : Nat) = 100 from rfl] at q
  simp +decide only [zhu, e2, e3, sel_false, hv0] at q
  refine ⟨_, q, ?_⟩
  have := hti.run_load (w := w3) (b := w.heap.size) (o := 0) r3 rfl (fun h => by cases h)
  have e : (Instr.loadAt M.zaq (.pointer (some ⟨w.heap.size, 0, none⟩))).run P w3 = (loadVar M.zaq ⟨w.heap.size, 0, none⟩).run P w3 := by simp [Instr.loadAt, Instr.sureAddr]
  rw [← e, this]; rfl
 ·refine hr.but m3 fun i hi => ?_
  have h1 := m02.isCell w.heap.size i (by omega)
  have h2 : w0.cell? ⟨w.heap.size, i, none⟩ = none := c0 i (by omega)
  rw [h2] at h1
  cases hc : w2.cell? ⟨w.heap.size, i, none⟩ with
  | none => rfl
  | some x => rw [hc] at h1; cases h1
end
section
variable {P : Program} {N : Nums} {M : zci}
theorem OctA.argOct {w : World} {v : Value} {s : List UInt8} (h : OctA w v s) : zkc w v s := by
 rcases h with ⟨ad, c, e, h⟩ | ⟨b, o, c, e, h1, h2⟩
 ·exact .inl ⟨ad, c, e, h⟩
 ·cases s with
  | nil => exact .inl ⟨_, c, e, rfl⟩
  | cons x s =>
   have h0 := h2 0 (zbf x) rfl
   refine .inr ⟨_, c, e, h1, zax (by rw [h0]; rfl), fun j y hj => ?_⟩
   rw [Addr.add_mid]
   exact h2 j (zbf y) (by rw [List.getElem?_map, hj]; rfl)
def verB (m : Msg) (fx : Bool) (sf : List Fld) (fl : Int) (k : Nat) : Bool :=
 (List.range (k + 1)).all fun v => m.fs.matB (fx && decide ((v : Int) ≥ m.fl)) v sf && (fx && decide ((v : Int) ≥ m.fl) || (sf.any fun f => f.has v) || m.fs.offB (fx && decide ((v : Int) ≥ m.fl)) v) && (zkm fl v == (fx && decide ((v : Int) ≥ m.fl)))
theorem verB_at {m : Msg} {fx : Bool} {sf : List Fld} {fl : Int} {k : Nat} (h : verB m fx sf fl k = true) {v : Nat} (hv : v ≤ k) : m.fs.matB (fx && decide ((v : Int) ≥ m.fl)) v sf = true ∧ (((fx && decide ((v : Int) ≥ m.fl)) = true ∨ (sf.any fun f => f.has v) = true) ∨ m.fs.offB (fx && decide ((v : Int) ≥ m.fl)) v = true) ∧ zkm fl v = (fx && decide ((v : Int) ≥ m.fl)) := by
 unfold verB at h
 rw [List.all_eq_true] at h
 have := h v (List.mem_range.2 (by omega))
 simp only [Bool.and_eq_true, Bool.or_eq_true, beq_iff_eq] at this
 obtain ⟨⟨h1, h2⟩, h3⟩ := this
 exact ⟨h1, by simpa using h2, h3⟩
end
section
open Go Go.RowKit Go.ChangeShapes Go.WideShapes
end
section
variable (N : Nums)
def c_newV (tT dflt : Nat) : C := seqs [.ops [⟨some 100, .alloc tT, 0, none, []⟩], .ops [⟨some 101, .alloc tT, 0, none, []⟩], .ops [⟨some 0, .call ⟨.value (.func dflt), #[V 1], #[tT]⟩, N.t_, none, []⟩],
 .ops [⟨some 0, .load tT (V 1), 0, none, []⟩, ⟨none, .store tT (V 0) (T 0), 0, none, []⟩], .ret]
def zus (tT pT newV rf tell : Nat) : C := seqs [.ops [⟨some 101, .alloc N.zy, 0, none, []⟩, ⟨some 102, .assign (.const (.bool false)), 0, none, []⟩],
 .ops [⟨some 0, .call ⟨.value (.func newV), #[], #[]⟩, tT, none, []⟩, ⟨some 103, .alloc tT, 0, none, []⟩, ⟨none, .store tT (V 3) (T 0), 0, none, []⟩],
 .seq (.ops [⟨some 0, .move (V 0), 0, none, []⟩, ⟨some 1, .call ⟨.builtin .append, #[.const (.slice none 0 0), T 0], #[N.za, N.za]⟩, N.za, none, []⟩, ⟨some 2, .call ⟨.value (.func rf), #[V 3, T 1], #[tT, N.za]⟩, N.zgi, none, []⟩, ⟨some 104, .binOp .neq N.zgi (T 2) (.const .nilIface) N.zgi, 0, none, []⟩])
  (.cond 4 (.seq (.ops [⟨some 0, .build N.zy #[], 0, none, []⟩, ⟨none, .store N.zy (V 1) (T 0), 0, none, []⟩, ⟨some 102, .assign (.const (.bool false)), 0, none, []⟩]) .ret) .skip),
 .ops [⟨some 0, .call ⟨.value (.func tell), #[V 3], #[pT]⟩, N.zy, none, []⟩, ⟨some 105, .alloc N.zy, 0, none, []⟩, ⟨none, .store N.zy (V 5) (T 0), 0, none, []⟩],
 .ops [⟨some 0, .fieldAddr tT (V 3) 0, 0, none, []⟩, ⟨some 1, .load N.zce (T 0), 0, none, []⟩, ⟨some 2, .convert N.zce N.zbe (T 1), 0, none, []⟩, ⟨some 3, .fieldAddr N.zy (V 5) 0, 0, none, []⟩, ⟨none, .store N.zbe (T 3) (T 2), 0, none, []⟩],
 .ops [⟨some 0, .load N.zy (V 5), 0, none, []⟩, ⟨none, .store N.zy (V 1) (T 0), 0, none, []⟩, ⟨some 102, .assign (.const (.bool true)), 0, none, []⟩], .ret]
end
structure DoorV (P : Program) (N : Nums) (m : Msg) (fx : Bool) (d : zyf) : Prop where
 msg : MsgT P N m fx
 vin : m.vin = true
 i16 : N.zaw ≠ 0
 ti : ∃ fs by', TI P m.tT (.struct fs) (m.fs.sz + 1) by' (.agg (.int .i16 0 :: m.fs.zero).toArray)
 newP : FOk P d.newP 0 (c_newV N m.tT m.dflt) [.cell 0 m.tT]
 readf : FOk P d.readf 3 (m.gen N fx) [.var 3]
 tell : TellP P d.tell 1 m.fs
 dok : m.fs.dOk
 shB : m.fs.shB = true
 cnt : m.fs.count < 1048576
 il : m.fs.ini.length = m.fs.sz
 io : m.fs.ini.all (fun c => c.oneCell') = true
 zo : m.fs.zero.all (fun c => c.oneCell') = true
def Msg.doorV (m : Msg) (fx : Bool) (l : List UInt8) : Tr × Bool :=
 match PK.i16.rd ⟨l, false, l.isEmpty⟩ with
 | (.int _ ver, s) => match m.rd fx ver s with
  | none => (zdq 0 [] false, false)
  | some x => (.mk ver [] false (m.fs.trs x) (m.fs.tgs x), true)
 | _ => (zdq 0 [] false, false)
section
variable {P : Program} {N : Nums}
theorem loadVar_eq {t : TypeId} {a : Addr} {w : World} : (Instr.loadAt t (.pointer (some a))).run P w = (loadVar t a).run P w := by simp [Instr.loadAt, Instr.sureAddr]
theorem zya {l : List Value} (h : l.all (fun c => c.oneCell') = true) : ∀ c ∈ l, c.oneCell' = true := by
 rw [List.all_eq_true] at h; exact h
theorem call_newV (B : Base P N) {m : Msg} {fx : Bool} {d : zyf} (D : DoorV P N m fx d) (w : World) :
  Call P d.newP #[] w fun v w' => v = .agg (.int .i16 0 :: m.fs.ini).toArray ∧ Mod w w' zp := by
 obtain ⟨fs, by', hT⟩ := D.ti
 refine D.newP.call rfl fun loc N' hlo => ?_
 unfold c_newV
 refine zky (by simp) ?_
 have zl : (Value.int .i16 0 :: m.fs.zero).toArray.size = m.fs.sz + 1 := by simp [Fds.zero_length]
 obtain ⟨w1, hw1⟩ : ∃ w1, w1 = w.alloc (.cells (Value.cells (.agg (.int .i16 0 :: m.fs.zero).toArray)) m.tT) := ⟨_, rfl⟩
 have m1 : Mod w w1 zp := by rw [hw1]; exact Mod.alloc _ _ _
 have s1 : w1.heap.size = w.heap.size + 1 := by rw [hw1]; exact zan _ _
 have r1 : w1.rangeAt w.heap.size 0 (.int .i16 0 :: m.fs.zero) := by rw [hw1]; exact zw w (.int .i16 0 :: m.fs.zero).toArray m.tT (0, 0)
 have t1 : w1.there w.heap.size 0 (m.fs.sz + 1) := by
  have := zbj w (.int .i16 0 :: m.fs.zero).toArray m.tT
  rw [zl] at this
  rw [hw1]; exact this
 refine zbi fun K hK => zaa fun τ => ?_
 have hal := hT.run_alloc (w := w) (.tuple #[])
 rw [← hw1] at hal
 simp +decide only [bK, hal]
 refine hK _ _ (zf fun σ1 hσ => ?_)
 have a0 := hσ 0
 simp +decide only [bE, BEq.rfl, Nat.zero_add] at a0
 clear hσ hK K hal hw1
 obtain ⟨w2, hw2⟩ : ∃ w2, w2 = w1.alloc (.cells (Value.cells (.agg (.int .i16 0 :: m.fs.zero).toArray)) m.tT) := ⟨_, rfl⟩
 have m2 : Mod w1 w2 zp := by rw [hw2]; exact Mod.alloc _ _ _
 have s2 : w2.heap.size = w1.heap.size + 1 := by rw [hw2]; exact zan _ _
 have r2 : w2.rangeAt w1.heap.size 0 ([.int .i16 0] ++ m.fs.zero) := by rw [hw2]; exact zw w1 (.int .i16 0 :: m.fs.zero).toArray m.tT (0, 0)
 have t2 : w2.there w1.heap.size 0 (m.fs.sz + 1) := by
  have := zbj w1 (.int .i16 0 :: m.fs.zero).toArray m.tT
  rw [zl] at this
  rw [hw2]; exact this
 refine zbi fun K hK => zaa fun τ => ?_
 have hal := hT.run_alloc (w := w1) (.tuple #[])
 rw [← hw2] at hal
 simp +decide only [bK, hal]
 refine hK _ _ (zf fun σ2 hσ => ?_)
 have b0 := hσ 0
 have b1 := hσ 1
 simp +decide only [bE, Nat.reduceBeqDiff, BEq.rfl, Nat.reduceAdd, Nat.zero_add, a0] at b0 b1
 clear hσ hK K hal hw2
 have q2 := zq.1 r2
 refine zbi fun K hK => zaa fun τ => ?_
 simp +decide only [bK]
 rw [zal D.msg.dflt.has]
 simp +decide only [bK, bE, Nat.reduceAdd, b1]
 refine (msg_dflt B D.msg t2 (by omega) (by simpa using q2.2) (zjd _ D.msg.plain)).mono ?_
 rintro _ w3 ⟨m3, r3⟩
 refine zf (K := fun σ' w' => zdy K _ .normal σ' w') fun σ3 hσ => hK _ _ ?_
 have c0 := hσ 0
 have c1 := hσ 1
 simp +decide only [bE, Nat.reduceBeqDiff, Nat.reduceAdd, Nat.zero_add, b0, b1] at c0 c1
 clear hσ hK K
 have s3 := m3.size
 have r3' : w3.rangeAt w1.heap.size 0 ([.int .i16 0] ++ m.fs.ini) := by
  rw [zq]
  refine ⟨m3.rangeAt (by omega) (fun i h1 h2 h => by have := h.2.1; simp at h2; omega) q2.1, by simpa using r3⟩
 have r3' : w3.rangeAt w1.heap.size 0 (.int .i16 0 :: m.fs.ini) := r3'
 have hld := hT.run_load (w := w3) (b := w1.heap.size) (o := 0) r3' (by simp [D.il]) (fun h => by cases h)
 have hlv : ∀ (f : Array Field) (x : List Value), ldv (.struct f) x = .agg x.toArray := fun _ _ => rfl
 rw [hlv] at hld
 have t13 := m3.there (by omega) (m2.there (by omega) t1)
 have hone : ∀ c ∈ (Value.int .i16 0 :: m.fs.ini), c.oneCell' = true := by
  intro c hc
  rcases List.mem_cons.1 hc with rfl | hc
  ·rfl
  ·exact zya D.io c hc
 have hst := hT.run_store (w := w3) (b := w.heap.size) (o := 0) (v := .agg (.int .i16 0 :: m.fs.ini).toArray) (cs := .int .i16 0 :: m.fs.ini) rfl (by simp [D.il]) t13 hone
 refine zbi fun K hK => zaa fun τ => ?_
 simp +decide only [bK, bE, Nat.reduceBeqDiff, BEq.rfl, Nat.reduceAdd, Nat.zero_add, c0, c1, hld, hst]
 have m4 : Mod w3 (w3.setCells w.heap.size 0 (.int .i16 0 :: m.fs.ini)) (blk w.heap.size) := Mod.setCells _ 0 _ fun _ _ _ _ => rfl
 have r13 := m3.rangeAt (by omega) (fun i _ _ h => by have := h.1; omega) (m2.rangeAt (by omega) (fun _ _ _ h => h) r1)
 have r4 := zak (.int .i16 0 :: m.fs.ini) 0 w3 _ r13 (by simp [D.il, Fds.zero_length])
 rw [List.drop_of_length_le (by simp [D.il, Fds.zero_length]), List.append_nil] at r4
 refine hK _ _ (zf fun σ4 hσ => zbi fun K2 hK2 => zbx ⟨.inr rfl, .agg (.int .i16 0 :: m.fs.ini).toArray, ?_⟩)
 have d0 := hσ 0
 simp +decide only [bE, Nat.reduceBeqDiff, Nat.zero_add, c0] at d0
 refine ⟨⟨_, d0, ?_⟩, rfl, ((m1.trans' m2).fresh m3 fun k o e => by have := e.1; omega).fresh m4 fun k o e => by have : k = w.heap.size := e; omega⟩
 rw [← loadVar_eq]
 have := hT.run_load (w := w3.setCells w.heap.size 0 (.int .i16 0 :: m.fs.ini)) (b := w.heap.size) (o := 0) r4 (by simp [D.il]) (fun h => by cases h)
 rw [hlv] at this
 exact this
theorem call_rfV (B : Base P N) (F : Fns P N) {m : Msg} {fx : Bool} {d : zyf} (D : DoorV P N m fx d) {f : FuncId} {u : Bool} (hf : FOk P f 2 (c_rf N m.pT d.readf u) [.var 2]) {w : World} {lo hi M : Nat} {v e : Value} {nl : Bool} {l : List UInt8} {x0 : Value}
  (hb : zbq w lo hi v nl l) (hhi : hi ≤ w.heap.size) (ht : w.there M 0 (m.fs.sz + 1)) (hM : M < w.heap.size) (hMs : M < lo ∨ hi ≤ M) (hMg : M ≠ N.zad) (hver : w.cell? ⟨M, 0, none⟩ = some x0) (hz : w.rangeAt M 1 m.fs.ini) (he : w.cell? ⟨N.zad, 0, none⟩ = some e) :
  ∃ ver : Int, (PK.i16.rd ⟨l, false, nl⟩).1 = .int .i16 ver ∧ Call P f #[.pointer (some ⟨M, 0, none⟩), v] w (zva N m (m.rd fx ver (PK.i16.rd ⟨l, false, nl⟩).2) lo hi M ver e w) := by
 obtain ⟨ver, hv, hcall⟩ := zsn B F D.vin D.i16 D.msg D.readf hb hhi ht hM hMs hMg hver hz (zni _ D.msg.plain) he (u := u)
 refine ⟨ver, hv, hf.call rfl fun loc N' hlo => ?_⟩
 unfold c_rf
 refine zky (by simp) ?_
 refine zbi fun K hK => zav (hK _ _ ?_)
 clear hK K
 obtain ⟨σ, hσ⟩ : ∃ σ, σ = upd (zda #[.pointer (some ⟨M, 0, none⟩), v]) 2 .nilIface := ⟨_, rfl⟩
 have f0 : σ 0 = .pointer (some ⟨M, 0, none⟩) := by rw [hσ, zi (by decide)]; rfl
 have f1 : σ 1 = v := by rw [hσ, zi (by decide)]; rfl
 rw [← hσ]
 clear hσ
 refine zbi fun K hK => zaa fun τ => ?_
 simp +decide only [bK, bE, Nat.reduceBeqDiff, Nat.reduceAdd, Nat.zero_add, f0, f1]
 rw [zjr D.readf.has]
 simp +decide only [bK, bE, Nat.reduceBeqDiff, BEq.rfl]
 refine hcall.mono ?_
 intro v' w' hpost
 refine hK _ _ (zf fun σ3 hσ => zbi fun K2 hK2 => zbx ⟨.inr rfl, _, rfl, ?_⟩)
 have g3 := hσ 2
 simp +decide only [bE, BEq.rfl, Nat.reduceAdd] at g3
 rw [g3]; exact hpost
theorem zpg (B : Base P N) (F : Fns P N) (hI : zeu P N) {m : Msg} {fx : Bool} {d : zyf} (D : DoorV P N m fx d) {f rf : Nat} {u : Bool} (hf : FOk P f 1 (zus N m.tT m.pT d.newP rf d.tell) [.cell 1 N.zy, .var 2]) (hrf : FOk P rf 2 (c_rf N m.pT d.readf u) [.var 2])
  {w : World} {v : Value} {l : List UInt8} {te : TypeId} {ve : Value} (ha : zkc w v l) (hl : l.length < 1099511627776) (he : w.cell? ⟨N.zad, 0, none⟩ = some (.iface te ve)) :
  Call P f #[v] w (Doored w (m.doorV fx l).1 (m.doorV fx l).2) := by
 refine hf.call rfl fun loc N' hlo => ?_
 unfold zus
 obtain ⟨ms, hms⟩ : ∃ ms, TI P N.zgi (.interface ms) 1 16 .nilIface := B.error.elim (fun h => ⟨_, h⟩) id
 obtain ⟨fsT, by', hT⟩ := D.ti
 have hgl : N.zad < w.heap.size := zax (by rw [he]; rfl)
 refine zky (by simp) ?_
 obtain ⟨w1, hal, m1, s1, hres⟩ := zgg hI w
 refine zbi fun K hK => zaa fun τ => ?_
 simp +decide only [bK, hal]
 refine hK _ _ (zf fun σ1 hσ => ?_)
 have a0 := hσ 0
 have a1 := hσ 1
 have a2 := hσ 2
 simp +decide only [bE, Nat.reduceBeqDiff, BEq.rfl, Nat.reduceAdd, Nat.zero_add, zaz] at a0 a1 a2
 clear hσ hK K hal
 refine zbi fun K hK => zaa fun τ => ?_
 simp +decide only [bK, bE, Nat.reduceBeqDiff, BEq.rfl, Nat.reduceAdd]
 rw [zow D.newP.has]
 refine (call_newV B D w1).mono ?_
 rintro v2 w2 ⟨rfl, m2⟩
 have hone : ∀ c ∈ (Value.int .i16 0 :: m.fs.ini), c.oneCell' = true := by
  intro c hc
  rcases List.mem_cons.1 hc with rfl | hc
  ·rfl
  ·exact zya D.io c hc
 have hzon : ∀ c ∈ (Value.int .i16 0 :: m.fs.zero), c.oneCell' = true := by
  intro c hc
  rcases List.mem_cons.1 hc with rfl | hc
  ·rfl
  ·exact zya D.zo c hc
 obtain ⟨wa, w3, hal3, hst3, _, m23, s3, r3, t3⟩ := zuv (cs := .int .i16 0 :: m.fs.ini) hT hzon (by simp [Fds.zero_length]) (by simp [D.il]) hone w2
 simp +decide only [bK, bE, BEq.rfl, hal3, hst3]
 refine hK _ _ (zf fun σ2 hσ => ?_)
 have b0 := hσ 0
 have b1 := hσ 1
 have b2 := hσ 2
 have b3 := hσ 3
 simp +decide only [bE, Nat.reduceBeqDiff, BEq.rfl, Nat.reduceAdd, Nat.zero_add, a0, a1, a2] at b0 b1 b2 b3
 clear hσ hK K a0 a1 a2 hal3 hst3
 obtain ⟨M, hM⟩ : ∃ M, M = w2.heap.size := ⟨_, rfl⟩
 rw [← hM] at r3 t3 b3
 have s2 := m2.size
 have m03 : Mod w w3 zp := (m1.trans' m2).trans' m23
 have ha3 : zkc w3 v l := ha.stay m03 fun a h => World.cell?_of_block (m03.block _ h fun _ h => h)
 obtain ⟨vb, w4, hcp, hb4, m4⟩ := zxm (ty := N.za) B ha3 hl
 have m04 : Mod w w4 zp := m03.trans' m4
 have s4 := m4.size
 have he4 : w4.cell? ⟨N.zad, 0, none⟩ = some (.iface te ve) := by rw [m04.cell _ _ hgl fun h => h]; exact he
 have r4 : w4.rangeAt M 0 ([.int .i16 0] ++ m.fs.ini) := m4.rangeAt (by omega) (fun _ _ _ h => h) r3
 have q4 := zq.1 r4
 have hv4 : w4.cell? ⟨M, 0, none⟩ = some (.int .i16 0) := q4.1 0 _ rfl
 have R4 : w4.rangeAt w.heap.size 0 zT := m4.rangeAt (by omega) (fun _ _ _ h => h) (m23.rangeAt (by omega) (fun _ _ _ h => h) (m2.rangeAt (by omega) (fun _ _ _ h => h) hres.r))
 have T4 : w4.there w.heap.size 0 5 := m4.there (by omega) (m23.there (by omega) (m2.there (by omega) hres.t))
 obtain ⟨ver, hver, hcall⟩ := call_rfV B F D hrf hb4 (Nat.le_refl _) (m4.there (by omega) t3) (by omega) (.inl (by omega)) (by omega) hv4 (by simpa using q4.2) he4
 have hverw : IntKind.i64.wrap ver = ver := by
  have h16 := pk_rdV .i16 ⟨l, false, l.isEmpty⟩
  rw [hver] at h16
  obtain ⟨n, hn, hw⟩ := h16
  injection hn with _ hn
  rw [hn]; exact hw
 refine zbi fun K hK => zd fun K1 hK1 => zaa fun τ => ?_
 simp +decide only [bK, bE, BEq.rfl, Nat.zero_add, b0, hcp]
 rw [zcs hrf.has]
 simp +decide only [bK, bE, Nat.reduceBeqDiff, BEq.rfl, Nat.reduceAdd, b3]
 refine hcall.mono ?_
 intro v5 w5 hpost
 obtain ⟨m5, hpost⟩ := hpost
 have m05 : Mod w w5 zp := m04.fresh m5 fun k o h => by have : k = M := h; omega
 have s5 := m5.size
 have R5 : w5.rangeAt w.heap.size 0 zT := m5.rangeAt (by omega) (fun i _ _ h => by have : w.heap.size = M := h; omega) R4
 have T5 : w5.there w.heap.size 0 5 := m5.there (by omega) T4
 have hpair : PK.i16.rd ⟨l, false, l.isEmpty⟩ = (.int .i16 ver, (PK.i16.rd ⟨l, false, l.isEmpty⟩).2) := by rw [← hver]
 cases hrd : m.rd fx ver (PK.i16.rd ⟨l, false, l.isEmpty⟩).2 with
 | none =>
  rw [hrd] at hpost
  have hpost : v5 = .iface te ve := hpost
  subst hpost
  simp +decide only [bK, run_isErr hms]
  refine hK1 _ _ (zf fun σ4 hσ => ?_)
  have d1 := hσ 1
  have d4 := hσ 4
  simp +decide only [bE, Nat.reduceBeqDiff, BEq.rfl, Nat.reduceAdd, b1] at d1 d4
  clear hσ hK1 K1
  refine W_if hlo d4 ?_
  simp only [if_true]
  obtain ⟨w6, hst, m6, s6, r6, t6⟩ := zhh hI (cs := zT) R5 rfl T5 rfl (by decide)
  refine zd fun K hK => zaa fun τ => ?_
  have e0 : ∀ ρ : Env, (#[] : Array (Nat × Operand)).map (fun p => (p.1, ev ρ p.2)) = #[] := fun ρ => by simp
  simp +decide only [bK, bE, Nat.reduceBeqDiff, BEq.rfl, Nat.reduceAdd, e0, build0 hI, d1, hst]
  refine hK _ _ (zf fun σ5 hσ => zbx ?_)
  have g1 := hσ 1
  have g2 := hσ 2
  simp +decide only [bE, Nat.reduceBeqDiff, BEq.rfl, Nat.reduceAdd, d1] at g1 g2
  rw [show m.doorV fx l = (zdq 0 [] false, false) by unfold Msg.doorV; rw [hpair]; simp only [hrd]]
  refine ⟨.inr rfl, .tuple #[.agg zT.toArray, .bool false], ⟨_, _, ⟨_, g1, zoi hI r6 rfl⟩, rfl, by rw [g2]⟩, zT, rfl, zfk zhz, m05.fresh m6 fun k o h => by have : k = w.heap.size := h; omega⟩
 | some x =>
  rw [hrd] at hpost
  obtain ⟨rfl, hc5, css, hrep, hr5, _⟩ := hpost
  simp +decide only [bK, run_isNil hms]
  refine hK1 _ _ (zf fun σ4 hσ => ?_)
  have d1 := hσ 1
  have d3 := hσ 3
  have d4 := hσ 4
  simp +decide only [bE, Nat.reduceBeqDiff, BEq.rfl, Nat.reduceAdd, b1, b3] at d1 d3 d4
  clear hσ hK1 K1
  refine W_if hlo d4 ?_
  simp only [Bool.false_eq_true, if_false]
  refine zbw (hK _ _ ?_)
  clear hK K
  have hov : m.fs.okV x := by
   unfold Msg.rd at hrd
   split at hrd
   ·cases hrd
   ·rename_i l' s' h1
    split at hrd
    ·cases hrd
    ·cases hrd; exact Fds.rd_ok _ _ m.fs D.dok _ _ _ h1
  refine zbi fun K hK => zaa fun τ => ?_
  simp +decide only [bK, bE, Nat.reduceBeqDiff, BEq.rfl, Nat.reduceAdd]
  rw [zal D.tell.has]
  simp +decide only [bK, bE, BEq.rfl, Nat.reduceAdd, d3]
  refine (D.tell.ok w5 (GG w3.heap.size w4.heap.size w4.heap.size w5.heap.size) M 0 x css (fun k h => by rcases h with h | h <;> omega) (by omega) hov hrep hr5).mono ?_
  rintro v6 w6 ⟨cs, rfl, hrep6, m6⟩
  have s6 := m6.size
  have R6 := m6.rangeAt (by omega) (fun _ _ _ h => h) R5
  have T6 := m6.there (by omega) T5
  obtain ⟨w7, hal7, m7, s7, hres7⟩ := zgg hI w6
  obtain ⟨w8, hst8, m8, s8, r8, t8⟩ := zhh hI hres7.r rfl hres7.t hrep6.len hrep6.one
  simp +decide only [bK, hal7, hst8]
  refine hK _ _ (zf fun σ5 hσ => ?_)
  have e1 := hσ 1
  have e3 := hσ 3
  have e5 := hσ 5
  simp +decide only [bE, Nat.reduceBeqDiff, BEq.rfl, Nat.reduceAdd, d1, d3] at e1 e3 e5
  clear hσ hK K
  have m58 : Mod w5 w8 zp := m6.trans' (m7.fresh m8 fun k o h => by have : k = w6.heap.size := h; omega)
  have hc8 : w8.cell? ⟨M, 0, none⟩ = some (.int .i16 ver) := by rw [m58.cell _ _ (by omega) fun h => h]; exact hc5
  obtain ⟨cv, ct, hcs, hct⟩ : ∃ (cv : Value) (ct : List Value), cs = .int .i64 0 :: ct ∧ ∀ w' (G : Nat → Prop), RepT w' G (m.fs.tr x) (.int .i64 0 :: ct) → RepT w' G (.mk ver [] false (m.fs.trs x) (m.fs.tgs x)) (.int .i64 ver :: ct) := by
   unfold Fds.tr at hrep6
   simp only [RepT] at hrep6
   obtain ⟨vs, vl, vu, rfl, _⟩ := hrep6
   refine ⟨vs, [vs, .bool false, vl, vu], rfl, fun w' G h => ?_⟩
   unfold Fds.tr at h
   simp only [RepT] at h ⊢
   obtain ⟨vs', vl', vu', e, h1, h2, h3⟩ := h
   simp only [List.cons.injEq, and_true, true_and] at e
   obtain ⟨rfl, rfl, rfl⟩ := e
   exact ⟨_, _, _, rfl, h1, h2, h3⟩
  have hcv := fun {w : World} => zck (P := P) (w := w) (k' := .i16) B.int16 B.int64 (n := ver) ⟨_, rfl⟩
  rw [hverw] at hcv
  have st9 := B.int64.run_store1 (w := w8) (b := w6.heap.size) (o := 0) (v := .int .i64 ver) rfl (fun j hj => t8 j (by omega))
  obtain ⟨w9, hw9⟩ : ∃ w9, w9 = w8.setCell ⟨w6.heap.size, 0, none⟩ (.int .i64 ver) := ⟨_, rfl⟩
  have m9 : Mod w8 w9 (blk w6.heap.size) := by rw [hw9]; exact Mod.setCell fun _ => rfl
  have s9 : w9.heap.size = w8.heap.size := by rw [hw9]; simp [World.setCell]
  have r9 : w9.rangeAt w6.heap.size 0 (.int .i64 ver :: ct) := by
   rw [hcs] at r8
   have := zak [.int .i64 ver] 0 w8 (b := w6.heap.size) _ r8 (by simp)
   rw [hw9]
   simpa [World.setCells] using this
  refine zbi fun K hK => zaa fun τ => ?_
  simp +decide only [bK, bE, Nat.reduceBeqDiff, BEq.rfl, Nat.reduceAdd, Nat.add_zero, e3, e5, D.msg.v0.run, B.int16.run_load1 rfl, hc8, hcv, hI.h0.run, st9]
  rw [← hw9]
  refine hK _ _ (zf fun σ6 hσ => ?_)
  have f1 := hσ 1
  have f5 := hσ 5
  simp +decide only [bE, Nat.reduceBeqDiff, Nat.reduceAdd, e1, e5] at f1 f5
  clear hσ hK K
  have m59 : Mod w5 w9 zp := m58.fresh m9 fun k o h => by have : k = w6.heap.size := h; omega
  have R9 := m59.rangeAt (by omega) (fun _ _ _ h => h) R5
  have T9 := m59.there (by omega) T5
  have hl9 : (Value.int .i64 ver :: ct).length = 5 := by
   have := hrep6.len
   rw [hcs] at this
   simpa using this
  have ho9 : ∀ c ∈ (Value.int .i64 ver :: ct), c.oneCell' = true := by
   intro c hc
   rcases List.mem_cons.1 hc with rfl | hc
   ·rfl
   ·exact hrep6.one c (by rw [hcs]; simp [hc])
  have hld := zrf hI (w1 := w9) r9 hl9
  obtain ⟨w10, hst, m10, s10, r10, t10⟩ := zhh hI R9 rfl T9 hl9 ho9
  refine zbi fun K hK => zaa fun τ => ?_
  simp +decide only [bK, bE, Nat.reduceBeqDiff, BEq.rfl, Nat.reduceAdd, f1, f5, hld, hst]
  refine hK _ _ (zf fun σ7 hσ => zbi fun K2 hK2 => zbx ?_)
  have g1 := hσ 1
  have g2 := hσ 2
  simp +decide only [bE, Nat.reduceBeqDiff, BEq.rfl, Nat.reduceAdd, f1] at g1 g2
  rw [show m.doorV fx l = (.mk ver [] false (m.fs.trs x) (m.fs.tgs x), true) by unfold Msg.doorV; rw [hpair]; simp only [hrd]]
  have m610 : Mod w6 w10 (fun k _ => k = w.heap.size) := ((m7.fresh m8 fun k o h => by have : k = w6.heap.size := h; omega).fresh m9 fun k o h => by have : k = w6.heap.size := h; omega).trans m10 fun k o _ h => h.elim False.elim id
  refine ⟨.inr rfl, .tuple #[.agg (.int .i64 ver :: ct).toArray, .bool true], ⟨_, _, ⟨_, g1, zoi hI r10 hl9⟩, rfl, by rw [g2]⟩, .int .i64 ver :: ct, rfl, ?_, (m05.trans' m59).fresh m10 fun k o h => by have : k = w.heap.size := h; omega⟩
  rw [hcs] at hrep6
  exact hct _ _ (RepT.mod (G := NB w5.heap.size w6.heap.size) m610 (fun k hk => ⟨hk.2, fun o h => by have := hk.1; omega, by have := hk.1; omega, by have := hk.2; omega⟩) _ hrep6)
end
def dKept (N : Nums) (M : zci) : List ROp := [
 ⟨some 0, .move (V 1), 0, none, []⟩,
 ⟨some 1, .call ⟨.value (.func M.zdw), #[T 0, .const (.int .i64 2)], #[N.zbe, N.ze]⟩, N.za, none, [0]⟩,
 ⟨some 2, .load M.zaq (V 3), 0, none, []⟩,
 ⟨some 3, .move (V 1), 0, none, []⟩,
 ⟨some 4, .load N.zb (V 4), 0, none, []⟩,
 ⟨some 5, .call ⟨.value (.func M.zlj), #[T 2, T 3, T 4], #[M.zaq, N.ze, N.zb]⟩, N.za, none, [2, 3, 4, 1]⟩,
 ⟨some 6, .call ⟨.builtin .append, #[T 1, T 5], #[N.za, N.za]⟩, N.za, none, [1, 5, 5]⟩,
 ⟨some 105, .assign (T 6), 0, none, [6, 6, 0, 1, 2, 3, 4, 5, 6]⟩]
def c_Kept (N : Nums) (M : zci) : C := seqs [.ops [⟨some 103, .box M.zaq (V 0), 0, none, []⟩, ⟨some 104, .box N.zb (V 2), 0, none, []⟩, ⟨some 105, .assign (.const (.slice none 0 0)), 0, none, []⟩], .draw (dKept N M), .ret]
section
variable {P : Program} {N : Nums} {M : zci}
theorem W_kept (B : Base P N) (S : SpT P N M) (hW : SW P N M) {loc : List Nat} {N' : Nat} {Q : Exit → Env → World → Prop} {σ : Env} {w : World} {b3 b4 : Nat} {fv : Value} {fl v : Int} {fs : List Fld} {t : Tr} {cs : List Value} (h1 : fs.length < 1000) (hok : zqc fs = true)
  (s1 : σ 1 = .int .i64 v) (s3 : σ 3 = .pointer (some ⟨b3, 0, none⟩)) (s4 : σ 4 = .pointer (some ⟨b4, 0, none⟩)) (r3 : w.rangeAt b3 0 [fv, .int .i64 fl]) (r4 : w.rangeAt b4 0 cs) (hf : zgs w fv fs) (ht : RepA w t cs) (hwf : wfT t)
  (hbig : (zdk (zkm fl v) v fs t).length < 549755813888) (hQ : ∀ (σ' : Env) (w' : World), Gave w (fixB v 2 ++ zdk (zkm fl v) v fs t) (σ' 5) w' → Q .normal σ' w') : W P loc N' (.draw (dKept N M)) Q σ w := by
 have md : Mod w w.drew zp := Mod.drew _ _
 obtain ⟨fsM, htM, _⟩ := S.msg.out
 have hlv : ∀ (f : Array Field) (x : List Value), ldv (.struct f) x = .agg x.toArray := fun _ _ => rfl
 refine zfx B.mixed [true, false, true, true, true, false, false, false] (by kernel_rfl) (fun w' => Mod w w' zp) md fun τ => ?_
 unfold dKept
 refine zc (.int .i64 v) (fun w' hw => by
  rw [zat, ev_tmp]
  simp +decide only [bE, Nat.reduceAdd, s1]) rfl ?_
 simp only []
 refine zc (.agg [fv, .int .i64 fl].toArray) (fun w' hw => zn (by
  simp +decide only [bE, Nat.reduceBeqDiff, Nat.reduceAdd, ev_tmp, s3]
  have := htM.run_load (w := w') (b := b3) (o := 0) (zv hw r3) rfl (fun h => by cases h)
  rw [this]; rfl)) rfl ?_
 refine zc (.int .i64 v) (fun w' hw => by
  rw [zat, ev_tmp]
  simp +decide only [bE, Nat.reduceBeqDiff, Nat.reduceAdd, s1]) rfl ?_
 refine zc (.agg cs.toArray) (fun w' hw => zn (by
  simp +decide only [bE, Nat.reduceBeqDiff, Nat.reduceAdd, ev_tmp, s4]
  exact zfz S.tr (zv hw r4) ht.len)) rfl ?_
 simp only [zde, zdd, List.zip_cons_cons, List.zip_nil_right, List.zipWith_cons_cons, List.zipWith_nil_right, List.filter, Bool.not_true, Bool.not_false, List.map, zdn]
 rw [zcs hW.Fixed.has]
 simp +decide only [bK, bE, Nat.reduceBeqDiff, BEq.rfl]
 refine (zqh B hW.Fixed w.drew v 2 (by decide)).mono ?_
 rintro r1 w2 ⟨o2, m2⟩
 have m02 := md.trans' m2
 refine ⟨m02, ?_⟩
 rw [zjr hW.Write.has]
 simp +decide only [bK, bE, Nat.reduceBeqDiff, BEq.rfl]
 refine (sp_Write B S hW h1 hok (hf.stay m02) (RepA.stay m02 _ ht) hwf hbig).mono ?_
 rintro r5 w3 ⟨o3, m3⟩
 have m03 := m02.trans' m3
 refine ⟨m03, ?_⟩
 have hs := md.size
 have hs2 := m2.size
 have hs3 := m3.size
 obtain ⟨v6, w4, h6, o6, m6, _⟩ := zft (ty := N.za) B (Own.stay m3 (fun _ _ _ h => h) o2 : OwnB w3 w.drew.heap.size r1 (fixB v 2)) o3.octA (by omega) (by rw [zdf]; omega)
 simp +decide only [bK, h6]
 have m04 : Mod w w4 zp := m03.fresh m6 fun k o h => by have := (o2.blk h).1; omega
 refine ⟨m04, ?_⟩
 try simp +decide only [bK, bE, zfa, Nat.reduceBeqDiff, decide_true, decide_false, BEq.rfl, beq_self_eq_true, reduceIte, Nat.reduceAdd, Nat.reduceSub, Nat.reduceLT, Nat.reduceEqDiff, Nat.reduceLeDiff, Nat.reduceMul, Nat.add_sub_cancel, Int.reduceToNat, Nat.add_zero, Nat.zero_add, Nat.mul_one, Nat.reduceBEq, reduceCtorEq, Nat.zero_ne_one, Nat.one_ne_zero, Nat.lt_irrefl, if_false, if_true, List.take_succ_cons, List.take_zero, List.drop_succ_cons, List.drop_zero, true_and, Option.map_some, Option.map_none]
 refine zf fun σ' hσ => hQ σ' w4 ?_
 have g5 := hσ 5
 simp +decide only [bE, BEq.rfl, Nat.reduceAdd] at g5
 rw [g5]
 exact ⟨o6, m04⟩
theorem sp_Kept (B : Base P N) (S : SpT P N M) (hW : SW P N M) {kp : FuncId} (hF : FOk P kp 3 (c_Kept N M) [.var 5]) {w : World} {fv : Value} {fl v : Int} {fs : List Fld} {t : Tr} {cs : List Value} (h1 : fs.length < 1000) (hok : zqc fs = true) (hf : zgs w fv fs) (ht : RepA w t cs) (hwf : wfT t)
  (hbig : (zdk (zkm fl v) v fs t).length < 549755813888) : Call P kp #[.agg [fv, .int .i64 fl].toArray, .int .i64 v, .agg cs.toArray] w (Gave w (fixB v 2 ++ zdk (zkm fl v) v fs t)) := by
 refine hF.call rfl fun loc N' hlo => ?_
 unfold c_Kept
 refine zky (by simp) ?_
 refine zbi fun K hK => zaa fun τ => ?_
 simp +decide only [bK, bE, Nat.reduceBeqDiff, Nat.reduceAdd, Nat.zero_add]
 obtain ⟨w1, hw1⟩ : ∃ w1, w1 = w.alloc (.cells (Value.cells (.agg [fv, .int .i64 fl].toArray)) M.zaq) := ⟨_, rfl⟩
 have m1 : Mod w w1 zp := by rw [hw1]; exact Mod.alloc _ _ _
 have r1 : w1.rangeAt w.heap.size 0 [fv, .int .i64 fl] := by rw [hw1]; exact zw w _ _ _
 have s1 : w1.heap.size = w.heap.size + 1 := by rw [hw1]; exact zan _ _
 rw [← hw1]
 clear hw1
 obtain ⟨w2, hw2⟩ : ∃ w2, w2 = w1.alloc (.cells (Value.cells (.agg cs.toArray)) N.zb) := ⟨_, rfl⟩
 have m2 : Mod w1 w2 zp := by rw [hw2]; exact Mod.alloc _ _ _
 have r2 : w2.rangeAt w1.heap.size 0 cs := by rw [hw2]; exact zw w1 _ _ _
 rw [← hw2]
 clear hw2
 have m02 := m1.trans' m2
 refine hK _ _ (zf fun σ1 hσ => ?_)
 have a1 := hσ 1
 have a3 := hσ 3
 have a4 := hσ 4
 simp +decide only [bE, Nat.reduceBeqDiff, BEq.rfl, Nat.reduceAdd, zlv] at a1 a3 a4
 clear hσ hK K
 refine zbi fun K hK => W_kept B S hW h1 hok a1 a3 a4 (zv m2 r1) r2 (hf.stay m02) (RepA.stay m02 _ ht) hwf hbig fun σ' w' hg => hK _ _ (zbi fun K2 hK2 => zbx ⟨.inr rfl, _, rfl, ?_⟩)
 have hs := m02.size
 exact ⟨Own.mono_lo hs hg.1, m02.trans' hg.2⟩
end
def dSameV (N : Nums) : List ROp := [
 ⟨some 0, .move (V 4), 0, none, []⟩,
 ⟨some 1, .move (T 0), 0, none, [0]⟩,
 ⟨some 2, .move (V 6), 0, some (some 1, true), [1]⟩,
 ⟨some 3, .move (V 8), 0, some (some 1, true), [1]⟩,
 ⟨some 4, .binOp .eql N.zah (T 2) (T 3) N.zah, 0, some (some 1, true), [2, 3, 1]⟩,
 ⟨some 5, .pick (T 1) (T 4) (.const (.bool false)), 0, none, [1, 4]⟩,
 ⟨some 6, .move (T 5), 0, none, [5, 1]⟩,
 ⟨some 7, .move (V 6), 0, some (some 6, true), [6]⟩,
 ⟨some 8, .unOp .not N.zah (T 7), 0, some (some 6, true), [7, 6]⟩,
 ⟨some 9, .move (T 8), 0, some (some 6, true), [8, 6, 6]⟩,
 ⟨some 10, .load N.zy (V 5), 0, some (some 9, false), [9]⟩,
 ⟨some 11, .call ⟨.value (.func N.zpe), #[T 10], #[N.zy]⟩, N.zb, some (some 9, false), [10, 9, 9]⟩,
 ⟨some 12, .load N.zy (V 7), 0, some (some 9, false), [9]⟩,
 ⟨some 13, .call ⟨.value (.func N.zpe), #[T 12], #[N.zy]⟩, N.zb, some (some 9, false), [12, 11, 9]⟩,
 ⟨some 14, .call ⟨.value (.func N.zcy), #[T 11, T 13], #[N.zb, N.zb]⟩, N.zah, some (some 9, false), [11, 13, 13, 9]⟩,
 ⟨some 15, .pick (T 9) (.const (.bool true)) (T 14), 0, some (some 6, true), [9, 14, 6]⟩,
 ⟨some 16, .pick (T 6) (T 15) (.const (.bool false)), 0, none, [6, 15]⟩,
 ⟨some 101, .assign (T 16), 0, none, [16, 14, 0, 1, 2, 3, 4, 5, 6, 7, 8, 9, 10, 11, 12, 13, 14, 15, 16]⟩]
def zqj (N : Nums) (tTB f k : Nat) : C := .ops [⟨some 1, .move (V 0), 0, none, []⟩, ⟨some 2, .call ⟨.value (.func f), #[T 1], #[N.za]⟩, tTB, none, []⟩, ⟨some 0, .move (T 2), 0, none, []⟩, ⟨some 3, .extract (T 0) 0, 0, none, []⟩, ⟨some 4, .extract (T 0) 1, 0, none, []⟩,
 ⟨some (k + 100), .alloc N.zy, 0, none, []⟩, ⟨none, .store N.zy (V k) (T 3), 0, none, []⟩, ⟨some (k + 1 + 100), .assign (T 4), 0, none, []⟩]
def c_lawUV (N : Nums) (M : zci) (tTB tellI unsI mk kept : Nat) (bd : Int) : C := seqs [zht 1 (.bool false),
 .seq (.ops [⟨some 0, .move (V 0), 0, none, []⟩, ⟨some 1, .call ⟨.builtin .len, #[T 0], #[N.za]⟩, N.ze, none, []⟩, ⟨some 102, .binOp .gtr N.ze (T 1) (.const (.int .i64 2147483647)) N.ze, 0, none, []⟩]) (.cond 2 (.seq (zht 1 (.bool true)) .ret) .skip),
 .seq (.ops [⟨some 0, .move (V 0), 0, none, []⟩, ⟨some 1, .call ⟨.builtin .len, #[T 0], #[N.za]⟩, N.ze, none, []⟩, ⟨some 103, .binOp .gtr N.ze (T 1) (.const (.int .i64 bd)) N.ze, 0, none, []⟩]) (.cond 3 (.seq (zht 1 (.bool true)) .ret) .skip),
 .ops [⟨some 13, .call ⟨.value (.func mk), #[], #[]⟩, M.zaq, none, []⟩, ⟨some 14, .build N.zb #[], 0, none, []⟩, ⟨some 15, .call ⟨.value (.func kept), #[T 13, .const (.int .i64 0), T 14], #[M.zaq, N.ze, N.zb]⟩, N.za, none, []⟩,
  ⟨some 16, .call ⟨.value (.func tellI), #[T 15], #[N.za]⟩, tTB, none, []⟩, ⟨some 12, .move (T 16), 0, none, []⟩, ⟨some 17, .extract (T 12) 0, 0, none, []⟩, ⟨some 18, .extract (T 12) 1, 0, none, []⟩, ⟨some 0, .alloc N.zy, 0, none, []⟩, ⟨none, .store N.zy (T 0) (T 17), 0, none, []⟩, ⟨some 104, .assign (T 18), 0, none, []⟩],
 zqj N tTB tellI 5, zqj N tTB unsI 7, .draw (dSameV N), .ret]
structure LawUV (P : Program) (N : Nums) (M : zci) (m : Msg) (fx : Bool) (d : zyf) (mk kept : Nat) (sc : List SC) (fl : Int) : Prop where
 D : DoorV P N m fx d
 rf : FOk P d.readF 2 (c_rf N m.pT d.readf false) [.var 2]
 uf : FOk P d.unsF 2 (c_rf N m.pT d.readf true) [.var 2]
 ti : FOk P d.tellI 1 (zus N m.tT m.pT d.newP d.readF d.tell) [.cell 1 N.zy, .var 2]
 ui : FOk P d.unsI 1 (zus N m.tT m.pT d.newP d.unsF d.tell) [.cell 1 N.zy, .var 2]
 mf : FOk P mk 0 (c_msg M sc fl) [.cell 0 M.zaq]
 kf : FOk P kept 3 (c_Kept N M) [.var 5]
 scb : scB sc = true
 sco : scOk P sc
 okf : zqc (SC.flds sc) = true
 ver : verB m fx (SC.flds sc) fl 0 = true
section
variable {P : Program} {N : Nums} {M : zci}
theorem rd_kept {m : Msg} {fx : Bool} {sf : List Fld} {fl : Int} {k : Nat} (hk : k < 32768) (hver : verB m fx sf fl k = true) {v : Nat} (hv : v ≤ k) {t : Tr} (hwf : wfT t) :
  ∃ x, m.doorV fx (fixB v 2 ++ zdk (zkm fl v) v sf t) = (.mk v [] false (m.fs.trs x) (m.fs.tgs x), true) ∧ zvf (zkm fl v) v sf t (m.fs.tr x) := by
 obtain ⟨g1, g2, g3⟩ := verB_at hver hv
 rw [← g3] at g1
 obtain ⟨p1, x, p2, p3⟩ := msg_rd (m := m) (fx := fx) (ver := v) hwf (by rw [← g3]; exact g1)
 rw [← g3] at p1 p2 p3
 refine ⟨x, ?_, p3⟩
 obtain ⟨s, hs⟩ : ∃ s, s = zdk (zkm fl v) v sf t := ⟨_, rfl⟩
 rw [← hs] at p2 ⊢
 have hne : (fixB (v : Int) 2 ++ s).isEmpty = false := by
  cases hc : fixB (v : Int) 2 ++ s with
  | nil =>
   have : (fixB (v : Int) 2 ++ s).length = 0 := by rw [hc]; rfl
   rw [List.length_append, zdf] at this
   omega
  | cons a b => rfl
 have hrs : (⟨fixB (v : Int) 2 ++ s, false, (fixB (v : Int) 2 ++ s).isEmpty⟩ : RS) = rs (fixB v 2 ++ s) := by rw [hne]; rfl
 have h16 : PK.i16.rd (rs (fixB (v : Int) 2 ++ s)) = (.int .i16 v, rs s) := by
  show zdz 2 (fun l => .int .i16 (IntKind.i16.wrap (be l))) (.int .i16 0) (rs (fixB (v : Int) 2 ++ s)) = _
  rw [zkk (c := 2) (zdf (v : Int) 2)]
  have hb := zkr (v : Int) 2
  have e : (be (fixB (v : Int) 2) : Int) = v := by
   rw [hb]
   have : ((256 ^ 2 : Nat) : Int) = 65536 := by decide
   rw [this]; omega
  rw [e, zqo (by omega)]
 unfold Msg.doorV
 rw [hrs, h16]
 simp only [p2]
theorem zxu {m : Msg} {fx : Bool} {d : zyf} (D : DoorV P N m fx d) (l : List UInt8) : okS (m.doorV fx l).1 ∧ okT (m.doorV fx l).1 := by
 unfold Msg.doorV
 split
 ·rename_i ver s h16
  split
  ·exact zdl _ _ _ (by simp)
  ·rename_i x hrd
   have hov : m.fs.okV x := by
    unfold Msg.rd at hrd
    split at hrd
    ·cases hrd
    ·rename_i l' s' h1
     split at hrd
     ·cases hrd
     ·cases hrd; exact Fds.rd_ok _ _ m.fs D.dok _ _ _ h1
   have := tr_short D.cnt D.shB hov
   unfold Fds.tr at this
   simp only [okS, okT] at this ⊢
   exact this
 ·exact zdl _ _ _ (by simp)
theorem W_doorV (hI : zeu P N) {loc : List Nat} {N' tTB f k : Nat} {Q : Exit → Env → World → Prop} {σ : Env} {w : World} {v : Value} (hf : zcx P f) {t : Tr} {ok : Bool}
  (hD : Call P f #[v] w (Doored w t ok)) (h0 : σ 0 = v)
  (hQ : ∀ (σ' : Env) (w' : World), (∀ i, i ≠ k → i ≠ k + 1 → σ' i = σ i) → σ' k = .pointer (some ⟨w'.heap.size - 1, 0, none⟩) → σ' (k + 1) = .bool ok → Mod w w' zp → Put w' (w'.heap.size - 1) t → Q .normal σ' w') :
  W P loc N' (zqj N tTB f k) Q σ w := by
 unfold zqj
 refine zaa fun τ => ?_
 have hn : (k + 1 == k) = false := by simp
 have hn2 : (k == k + 1) = false := by simp
 simp +decide only [bK, bE, Nat.reduceBeqDiff, BEq.rfl, Nat.zero_add, h0]
 rw [zal hf]
 simp +decide only [bK, bE, BEq.rfl]
 refine hD.mono ?_
 rintro _ w1 ⟨cs, rfl, hrep, m1⟩
 obtain ⟨w2, hal, m2, s2, hres⟩ := zgg hI w1
 simp +decide only [bK, hal]
 obtain ⟨w3, hst, m3, s3, r3, t3⟩ := zhh hI hres.r rfl hres.t hrep.len hrep.one
 simp +decide only [bK, hst]
 have s1 := m1.size
 refine zf (K := fun σ' w' => Q .normal σ' w') fun σ' hσ => hQ σ' w3 (fun i hi hi1 => ?_) ?_ ?_ ((m1.trans' m2).fresh m3 fun k o h => by have : k = w1.heap.size := h; omega) ?_
 ·rw [hσ i]
  have e1 : (i + 100 == k + 1 + 100) = false := beq_eq_false_iff_ne.2 (by omega)
  have e2 : (i + 100 == k + 100) = false := beq_eq_false_iff_ne.2 (by omega)
  simp +decide only [bE, Nat.reduceBeqDiff, e1, e2]
 ·have g := hσ k
  have e1 : (k + 100 == k + 1 + 100) = false := beq_eq_false_iff_ne.2 (by omega)
  simp +decide only [bE, BEq.rfl, e1] at g
  rw [g, s3, s2]; rfl
 ·have g := hσ (k + 1)
  simp +decide only [bE, BEq.rfl] at g
  exact g
 ·have e : w3.heap.size - 1 = w1.heap.size := by omega
  rw [e]
  have m13 : Mod w1 w3 zp := m2.fresh m3 fun k o h => by have : k = w1.heap.size := h; omega
  exact ⟨cs, RepT.mod (G := NB w.heap.size w1.heap.size) m13 (fun k hk => ⟨hk.2, fun _ h => h, hk.2⟩) _ hrep, r3, by omega⟩
theorem exec_pick {ρ : Env} {d : Option Nat} {ty : TypeId} {c a b : Operand} {g : Option (Option Nat × Bool)} {af : List Nat} {w : World} {bb : Bool} (h : ev ρ c = .bool bb) : (exec ρ ⟨d, .pick c a b, ty, g, af⟩).run P w = .ok (.value (if bb then ev ρ a else ev ρ b)) w := by
 simp [exec, execOp, h, asBool]
theorem W_sameV (B : Base P N) (F : Fns P N) (hI : zeu P N) (hS : zfi P N N.zb N.zz N.zk N.zh) (hG : N.zpe ≠ 0) (hT : N.zcy ≠ 0) {loc : List Nat} {N' : Nat} {Q : Exit → Env → World → Prop} {σ : Env} {w : World} {b1 b2 : Nat} {t : Tr} {ok : Bool}
  (h4 : σ 4 = .bool true) (h5 : σ 5 = .pointer (some ⟨b1, 0, none⟩)) (h6 : σ 6 = .bool ok) (h7 : σ 7 = .pointer (some ⟨b2, 0, none⟩)) (h8 : σ 8 = .bool ok) (p1 : Put w b1 t) (p2 : Put w b2 t) (ht : okS t ∧ okT t)
  (hQ : ∀ (σ' : Env) (w' : World), σ' 1 = .bool true → Mod w w' zp → Q .normal σ' w') : W P loc N' (.draw (dSameV N)) Q σ w := by
 have md : Mod w w.drew zp := Mod.drew _ _
 obtain ⟨c1, q1, r1, l1⟩ := p1
 obtain ⟨c2, q2, r2, l2⟩ := p2
 refine zfx B.mixed [true, true, true, true, true, true, true, true, true, true, true, false, true, false, false, false, false, false] (by kernel_rfl) (fun w' => Mod w w' zp) md fun τ => ?_
 unfold dSameV
 refine zc (.bool true) (fun w' hw => by
  rw [zat, ev_tmp]
  simp +decide only [bE, Nat.reduceAdd, h4]) rfl ?_
 refine zc (.bool true) (fun w' hw => by
  rw [zat, ev_tmp]
  simp +decide only [bE, BEq.rfl]) rfl ?_
 refine zgb (.bool ok) (by simp +decide only [zcq, bE, BEq.rfl]) (fun w' hw => by
  rw [zat, ev_tmp]
  simp +decide only [bE, Nat.reduceBeqDiff, Nat.reduceAdd, h6]) ?_
 refine zgb (.bool ok) (by simp +decide only [zcq, bE, Nat.reduceBeqDiff, BEq.rfl]) (fun w' hw => by
  rw [zat, ev_tmp]
  simp +decide only [bE, Nat.reduceBeqDiff, Nat.reduceAdd, h8]) ?_
 refine zgb (.bool true) (by simp +decide only [zcq, bE, Nat.reduceBeqDiff, BEq.rfl]) (fun w' hw => zn (by
  simp +decide only [bE, Nat.reduceBeqDiff, BEq.rfl, ev_tmp, run_beql B.bool])) ?_
 refine zc (.bool true) (fun w' hw => by
  rw [exec_pick (bb := true) (by simp +decide only [ev_tmp, bE, Nat.reduceBeqDiff, BEq.rfl])]
  simp +decide only [if_true, ev_tmp, bE, BEq.rfl]) rfl ?_
 refine zc (.bool true) (fun w' hw => by
  rw [zat, ev_tmp]
  simp +decide only [bE, BEq.rfl]) rfl ?_
 refine zgb (.bool ok) (by simp +decide only [zcq, bE, BEq.rfl]) (fun w' hw => by
  rw [zat, ev_tmp]
  simp +decide only [bE, Nat.reduceBeqDiff, Nat.reduceAdd, h6]) ?_
 refine zgb (.bool !ok) (by simp +decide only [zcq, bE, Nat.reduceBeqDiff, BEq.rfl]) (fun w' hw => zn (by
  simp +decide only [bE, BEq.rfl, ev_tmp, zxi])) ?_
 refine zgb (.bool !ok) (by simp +decide only [zcq, bE, Nat.reduceBeqDiff, BEq.rfl]) (fun w' hw => by
  rw [zat, ev_tmp]
  simp +decide only [bE, BEq.rfl]) ?_
 cases ok with
 | false =>
  refine zvs (by simp +decide only [zcq, bE, BEq.rfl, Bool.not_false]) ?_
  simp only []
  refine zvs (by simp +decide only [zcq, bE, Nat.reduceBeqDiff, BEq.rfl, Bool.not_false]) ?_
  simp only [zde, zdd, List.zip_cons_cons, List.zip_nil_right, List.zipWith_cons_cons, List.zipWith_nil_right, List.filter, Bool.not_true, Bool.not_false, List.map, zdn]
  rw [zbs (by simp +decide only [bE, Nat.reduceBeqDiff, BEq.rfl, Bool.not_false])]
  refine ⟨md, ?_⟩
  rw [zbs (by simp +decide only [bE, Nat.reduceBeqDiff, BEq.rfl, Bool.not_false])]
  refine ⟨md, ?_⟩
  rw [zbs (by simp +decide only [bE, Nat.reduceBeqDiff, BEq.rfl, Bool.not_false])]
  refine ⟨md, ?_⟩
  rw [zas (b := true) (by simp +decide only [bE, Nat.reduceBeqDiff, BEq.rfl])]
  simp +decide only [bK, bE, Nat.reduceBeqDiff, BEq.rfl, if_true, zcc]
  refine ⟨md, ?_⟩
  refine ⟨md, ?_⟩
  refine zf fun σ' hσ => hQ σ' _ ?_ md
  have g2 := hσ 1
  simp +decide only [bE, BEq.rfl, Nat.reduceAdd] at g2
  exact g2
 | true =>
  refine zgb (.agg c1.toArray) (by simp +decide only [zcq, bE, BEq.rfl, Bool.not_true]) (fun w' hw => zn (by
   simp +decide only [bE, Nat.reduceBeqDiff, Nat.reduceAdd, ev_tmp, h5]
   exact zrf hI (hw.rangeAt l1 (fun _ _ _ h => h) r1) q1.len)) ?_
  simp only []
  refine zgb (.agg c2.toArray) (by simp +decide only [zcq, bE, Nat.reduceBeqDiff, BEq.rfl, Bool.not_true]) (fun w' hw => zn (by
   simp +decide only [bE, Nat.reduceBeqDiff, Nat.reduceAdd, ev_tmp, h7]
   exact zrf hI (hw.rangeAt l2 (fun _ _ _ h => h) r2) q2.len)) ?_
  simp only [zde, zdd, List.zip_cons_cons, List.zip_nil_right, List.zipWith_cons_cons, List.zipWith_nil_right, List.filter, Bool.not_true, Bool.not_false, List.map, zdn]
  rw [zas (b := false) (by simp +decide only [bE, Nat.reduceBeqDiff, BEq.rfl])]
  rw [zal (F.got hG).has]
  simp +decide only [bK, bE, Nat.reduceBeqDiff, BEq.rfl]
  refine (gotT B F hG hS hI t ht.1 w.drew (fun k => k < b1) c1 (fun k hk => Nat.lt_trans hk l1) (RepT.stay md t q1)).mono ?_
  rintro _ w3 ⟨d1, rfl, q3, m3⟩
  have m03 : Mod w w3 zp := md.trans' m3
  refine ⟨m03, ?_⟩
  rw [zas (b := false) (by simp +decide only [bE, Nat.reduceBeqDiff, BEq.rfl])]
  rw [zal (F.got hG).has]
  simp +decide only [bK, bE, Nat.reduceBeqDiff, BEq.rfl]
  refine (gotT B F hG hS hI t ht.1 w3 (fun k => k < b2) c2 (fun k hk => Nat.lt_of_lt_of_le (Nat.lt_trans hk l2) m03.size) (RepT.stay m03 t q2)).mono ?_
  rintro _ w4 ⟨d2, rfl, q4, m4⟩
  have m04 : Mod w w4 zp := m03.trans' m4
  refine ⟨m04, ?_⟩
  rw [zas (b := false) (by simp +decide only [bE, Nat.reduceBeqDiff, BEq.rfl])]
  rw [zcs (F.spec_SameTree hT).1.has]
  simp +decide only [bK, bE, Nat.reduceBeqDiff, BEq.rfl]
  refine (sameTree B F hT hS t ht.2 w4 _ _ d1 d2 (RepT.stay m4 t q3) q4).mono ?_
  rintro _ w5 ⟨rfl, m5⟩
  have m05 : Mod w w5 zp := m04.trans' m5
  refine ⟨m05, ?_⟩
  rw [zas (b := true) (by simp +decide only [bE, Nat.reduceBeqDiff, BEq.rfl])]
  simp +decide only [bK, bE, Nat.reduceBeqDiff, BEq.rfl, if_false, if_true, zcc]
  refine ⟨m05, ?_⟩
  refine ⟨m05, ?_⟩
  refine zf fun σ' hσ => hQ σ' _ ?_ m05
  have g2 := hσ 1
  simp +decide only [bE, BEq.rfl, Nat.reduceAdd] at g2
  exact g2
theorem repA0 (w : World) : RepA w tr0 zT := ⟨_, _, _, rfl, .inl ⟨none, 0, rfl, rfl⟩, .inl ⟨none, 0, rfl, rfl⟩, .inl ⟨none, 0, rfl, rfl⟩⟩
theorem call_lawUV (B : Base P N) (F : Fns P N) (hI : zeu P N) (S : SpT P N M) (hW : SW P N M) (hG : N.zpe ≠ 0) (hT : N.zcy ≠ 0) {m : Msg} {fx : Bool} {d : zyf} {mk kept : Nat} {sc : List SC} {fl : Int} (L : LawUV P N M m fx d mk kept sc fl) {f tTB : Nat} {bd : Int}
  (hf : FOk P f 1 (c_lawUV N M tTB d.tellI d.unsI mk kept bd) [.var 1]) {w : World} {v : Value} {l : List UInt8} {te : TypeId} {ve : Value} (ha : zkc w v l) (he : w.cell? ⟨N.zad, 0, none⟩ = some (.iface te ve)) :
  Call P f #[v] w fun v' w' => v' = .bool true ∧ Mod w w' zp := by
 refine hf.call rfl fun loc N' hlo => ?_
 unfold c_lawUV
 refine zky (by simp) ?_
 refine zbi fun K hK => zav (hK _ _ ?_)
 clear hK K
 obtain ⟨σ, hσ⟩ : ∃ σ, σ = upd (zda #[v]) 1 (.bool false) := ⟨_, rfl⟩
 have f0 : σ 0 = v := by rw [hσ, zi (by decide)]; rfl
 rw [← hσ]
 clear hσ
 refine zbi fun K hK => zd fun K1 hK1 => zaa fun τ => ?_
 simp +decide only [bK, bE, BEq.rfl, Nat.zero_add, f0, ha.run_len B]
 refine hK1 _ _ (zf fun σ1 hσ => ?_)
 have a0 := hσ 0
 have a2 := hσ 2
 simp +decide only [bE, Nat.reduceBeqDiff, BEq.rfl, Nat.reduceAdd, Nat.zero_add, f0] at a0 a2
 clear hσ hK1 K1 f0
 refine W_if hlo a2 ?_
 by_cases hlen : (l.length : Int) > 2147483647
 ·simp only [hlen, decide_true, if_true]
  exact zd fun K1 hK1 => zav (hK1 _ _ (zbx ⟨.inr rfl, _, rfl, upd_same _ _ _, .refl _ _⟩))
 simp only [hlen, decide_false, Bool.false_eq_true, if_false]
 refine zbw (hK _ _ ?_)
 clear hK K
 have hl : l.length < 1099511627776 := by omega
 refine zbi fun K hK => zd fun K1 hK1 => zaa fun τ => ?_
 simp +decide only [bK, bE, BEq.rfl, Nat.zero_add, a0, ha.run_len B]
 refine hK1 _ _ (zf fun σ2 hσ => ?_)
 have b0 := hσ 0
 have b3 := hσ 3
 simp +decide only [bE, Nat.reduceBeqDiff, BEq.rfl, Nat.reduceAdd, Nat.zero_add, a0] at b0 b3
 clear hσ hK1 K1 a0 a2
 refine W_if hlo b3 ?_
 by_cases hbd : (l.length : Int) > bd
 ·simp only [hbd, decide_true, if_true]
  exact zd fun K1 hK1 => zav (hK1 _ _ (zbx ⟨.inr rfl, _, rfl, upd_same _ _ _, .refl _ _⟩))
 simp only [hbd, decide_false, Bool.false_eq_true, if_false]
 refine zbw (hK _ _ ?_)
 clear hK K
 have hgl : N.zad < w.heap.size := zax (by rw [he]; rfl)
 have hwf0 : wfT tr0 := by simp only [tr0, wfT, wfTs]; exact ⟨by decide, (fun x hx => by cases hx), trivial⟩
 have hbl : (zdk (zkm fl (0 : Nat)) (0 : Nat) (SC.flds sc) tr0).length ≤ K0 * szT tr0 := partB_len L.okf (by rw [SC.flds_len]; exact (zub L.scb).2.2.2) hwf0
 have hsz0 : szT tr0 = 1 := by simp [tr0, szT, szTs, szU]
 have hK0 : K0 = 40000 := rfl
 have hbl2 : (zdk (zkm fl (0 : Nat)) (0 : Nat) (SC.flds sc) tr0).length < 549755813888 := by rw [hsz0, hK0] at hbl; omega
 obtain ⟨x0, hx0, _⟩ := rd_kept (by decide) L.ver (Nat.le_refl 0) hwf0
 refine zbi fun K hK => zaa fun τ => ?_
 have e0 : ∀ ρ : Env, (#[] : Array (Nat × Operand)).map (fun p => (p.1, ev ρ p.2)) = #[] := fun ρ => by simp
 simp +decide only [bK, bE, Nat.reduceBeqDiff, BEq.rfl]
 rw [zow L.mf.has]
 refine (mk_msg S L.scb L.sco L.mf w).mono ?_
 rintro _ w1 ⟨fv, rfl, hfv, m1⟩
 simp +decide only [bK, e0, build0 S.tr]
 rw [zjr L.kf.has]
 simp +decide only [bK, bE, Nat.reduceBeqDiff, BEq.rfl]
 refine (sp_Kept B S hW L.kf (v := ((0 : Nat) : Int)) (by rw [SC.flds_len]; exact (zub L.scb).2.2.2) L.okf hfv (repA0 w1) hwf0 hbl2).mono ?_
 rintro r w2 ⟨ho2, m2⟩
 have m02 := m1.trans' m2
 rw [zal L.ti.has]
 simp +decide only [bK, bE, BEq.rfl]
 refine (zpg B F hI L.D L.ti L.rf (te := te) (ve := ve) ho2.octA.argOct (by rw [List.length_append, zdf]; omega) (by rw [m02.cell _ _ hgl fun h => h]; exact he)).mono ?_
 rw [hx0]
 rintro _ w3 ⟨cs3, rfl, hrep3, m3⟩
 obtain ⟨w4, hal4, m4, s4, hres4⟩ := zgg hI w3
 obtain ⟨w5, hst5, m5, s5, r5, t5⟩ := zhh hI hres4.r rfl hres4.t hrep3.len hrep3.one
 simp +decide only [bK, hal4, hst5]
 have m05 : Mod w w5 zp := (m02.trans' m3).trans' (m4.fresh m5 fun k o h => by have : k = w3.heap.size := h; omega)
 refine hK _ _ (zf fun σ3 hσ => ?_)
 have c0 := hσ 0
 have c4 := hσ 4
 simp +decide only [bE, Nat.reduceBeqDiff, BEq.rfl, Nat.reduceAdd, Nat.zero_add, b0] at c0 c4
 clear hσ hK K b0 b3
 have ha5 : zkc w5 v l := ha.stay m05 fun a h => World.cell?_of_block (m05.block _ h fun _ h => h)
 have he5 : w5.cell? ⟨N.zad, 0, none⟩ = some (.iface te ve) := by rw [m05.cell _ _ hgl fun h => h]; exact he
 refine zbi fun K hK => W_doorV hI L.ti.has (zpg B F hI L.D L.ti L.rf ha5 hl he5) c0 fun σ4 w6 e0 e5 e6 m6 p6 => hK _ _ ?_
 clear hK K
 have m06 := m05.trans' m6
 have ha6 : zkc w6 v l := ha.stay m06 fun a h => World.cell?_of_block (m06.block _ h fun _ h => h)
 have he6 : w6.cell? ⟨N.zad, 0, none⟩ = some (.iface te ve) := by rw [m06.cell _ _ hgl fun h => h]; exact he
 refine zbi fun K hK => W_doorV hI L.ui.has (zpg B F hI L.D L.ui L.uf ha6 hl he6) ((e0 0 (by decide) (by decide)).trans c0) fun σ5 w7 g0 g7 g8 m7 p7 => hK _ _ ?_
 clear hK K
 refine zbi fun K hK => W_sameV B F hI S.tr hG hT (((g0 4 (by decide) (by decide)).trans (e0 4 (by decide) (by decide))).trans c4) ((g0 5 (by decide) (by decide)).trans e5) ((g0 6 (by decide) (by decide)).trans e6) g7 g8 (p6.stay m7) p7 (zxu L.D l) fun σ6 w8 h1 m8 => hK _ _ ?_
 exact zbi fun K2 hK2 => zbx ⟨.inr rfl, _, rfl, h1, (m06.trans' m7).trans' m8⟩
end
section
variable {P : Program} {N : Nums} {M : zci}
end
end Go.Kf
