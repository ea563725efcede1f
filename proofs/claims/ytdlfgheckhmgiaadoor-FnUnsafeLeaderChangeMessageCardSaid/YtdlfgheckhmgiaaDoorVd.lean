/- A part of the calculus by which the claim's proof goes: over any program and any numbering of its functions; no condition beyond those that each theorem names. -/
import Derived.Shelf.GgSortFunc.Whole
import Derived.Shelf.GgSortFunc.Tiny
import Derived.Sort.LotA
import Derived.Test.YtdlfgheckhmgiaaDoorVc
set_option linter.unusedSimpArgs false
set_option linter.unusedVariables false
namespace Go.Kf
open Go Go.RowKit
def zdr (l : List (Nat × List UInt8)) : List (Nat × List UInt8) := l.mergeSort fun x y => decide (x.1 ≤ y.1)
theorem zef (l : List (Nat × List UInt8)) : (zdr l).Perm l := List.mergeSort_perm l _
theorem zqu (l : List (Nat × List UInt8)) : ((zdr l).map Prod.fst).Pairwise (· ≤ ·) := by
 have := List.pairwise_mergeSort (le := fun x y : Nat × List UInt8 => decide (x.1 ≤ y.1)) (fun a b c h1 h2 => by simp at *; omega) (fun a b => by simp; omega) l
 rw [List.pairwise_map]
 exact this.imp fun h => by simpa using h
theorem zxf {l : List (Nat × List UInt8)} (hn : (l.map Prod.fst).Nodup) : ((zdr l).map Prod.fst).Pairwise (· < ·) := by
 have h1 := zqu l
 have h2 : ((zdr l).map Prod.fst).Nodup := ((zef l).map Prod.fst).nodup_iff.2 hn
 exact (h1.and h2).imp fun ⟨a, b⟩ => by omega
theorem zvn : ∀ {l m : List Nat}, l.Perm m → l.Pairwise (· ≤ ·) → m.Pairwise (· ≤ ·) → l = m
 | [], m, h, _, _ => by rw [List.nil_perm.1 h]
 | x :: l, [], h, _, _ => by simp at h
 | x :: l, y :: m, h, h1, h2 => by
  have a := List.pairwise_cons.1 h1
  have b := List.pairwise_cons.1 h2
  have hxy : x = y := by
   have hx : x ∈ y :: m := h.mem_iff.1 (by simp)
   have hy : y ∈ x :: l := h.mem_iff.2 (by simp)
   rcases List.mem_cons.1 hx with e | hx
   ·exact e
   ·rcases List.mem_cons.1 hy with e | hy
    ·exact e.symm
    ·have := a.1 y hy; have := b.1 x hx; omega
  subst hxy
  rw [zvn (List.perm_cons x |>.1 h) a.2 b.2]
def keyV (k : Nat) : Value := .int .u32 (k : Int)
structure SortOk (P : Program) (N : Nums) : Prop where
 has : zcx P N.zgd
 ok : ∀ (w : World) (bv bs c : Nat) (ks : List Nat), w.cell? ⟨bv, 0, none⟩ = some (.slice (some ⟨bs, 0, none⟩) ks.length c) → bv ≠ bs → bs < w.heap.size → ks ≠ [] → ks.length < 4611686018427387904 → w.rangeAt bs 0 (ks.map keyV) → w.there bs 0 ks.length →
  Call P N.zgd #[.iface N.zbg (.slice (some ⟨bs, 0, none⟩) ks.length c), .func (.func N.zcz) #[] #[.pointer (some ⟨bv, 0, none⟩)]] w fun _ w' =>
   ∃ ks' : List Nat, ks'.Perm ks ∧ ks'.Pairwise (· ≤ ·) ∧ w'.rangeAt bs 0 (ks'.map keyV) ∧ Mod w w' (blk bs)
section
variable {P : Program} {N : Nums}
theorem find_val {w : World} {G : Nat → Prop} {k : Nat} {vl : List UInt8} : ∀ (l : List (Nat × List UInt8)) (es : List MapEntry) (i0 : Nat), zca w G l es → (l.map Prod.fst).Nodup → (k, vl) ∈ l →
  ∃ i val, Instr.findNow (.int .u32) (.int .u32 k) es i0 = some (some (i, val)) ∧ tagV w G val vl
 | [], es, i0, he, _, hm => by simp at hm
 | (k', l') :: l, es, i0, he, hnd, hm => by
  obtain ⟨v', b, rest, rfl, h2, h3⟩ := he
  simp only [List.map_cons, List.nodup_cons] at hnd
  by_cases hk : k' = k
  ·subst hk
   have e : l' = vl := by
    rcases List.mem_cons.1 hm with e | hm
    ·injection e with _ e; exact e.symm
    ·exact absurd (List.mem_map.2 ⟨_, hm, rfl⟩) hnd.1
   subst e
   exact ⟨i0, v', by simp [Instr.findNow, Instr.sameNow], h2⟩
  ·have hk2 : ((k : Int) == (k' : Int)) = false := by
    have : (k : Int) ≠ (k' : Int) := by omega
    simpa using this
   have hm' : (k, vl) ∈ l := by
    rcases List.mem_cons.1 hm with e | hm
    ·injection e with e _; exact absurd e.symm hk
    ·exact hm
   obtain ⟨i, val, g1, g2⟩ := find_val l rest (i0 + 1) h3 hnd.2 hm'
   exact ⟨i, val, by simp only [Instr.findNow, Instr.sameNow, if_true, hk2, g1], g2⟩
theorem zud (B : Base P N) (hT : N.zdi ≠ 0) {w : World} {G : Nat → Prop} {mr k : Nat} {l : List (Nat × List UInt8)} {es : Array MapEntry} {ck : Nat} {vl : List UInt8} (hb : w.heap[mr]? = some (.map es ck)) (h6 : zca w G l es.toList) (h7 : (l.map Prod.fst).Nodup) (hm : (k, vl) ∈ l) :
  ∃ val, (Instr.lookup N.zag (.map (some mr)) (.int .u32 k) false).run P w = .ok val w ∧ tagV w G val vl := by
 obtain ⟨_, _, hmap⟩ := B.tags hT
 obtain ⟨i, val, g1, g2⟩ := find_val (k := k) l es.toList 0 h6 h7 hm
 have hck := MapKept.run_checkKey (P := P) (w := w) (k := .int .u32 k) B.uint32.und rfl es.isEmpty 9999
 have hgo := MapKept.run_getObj_map (P := P) hb
 have hfk := MapKept.run_findKey (P := P) (w := w) (k := .int .u32 k) B.uint32.und g1
 refine ⟨val, ?_, g2⟩
 simp only [Instr.lookup, Sem.run_bind, hmap.run_und, Result.andThen_ok, hgo, Sem.run_pure, hck, hfk]
 rfl
theorem zxj (hL : LU P N) {w : World} {v : Value} : (Instr.makeInterface N.zbg v).run P w = .ok (.iface N.zbg v) w := by
 simp only [Instr.makeInterface, Sem.run_bind, hL.lu.run_und, Result.andThen_ok]
 rfl
theorem zsw {fn : Fn} {a b : Array Value} {w : World} : (Instr.makeFunc fn a b).run P w = .ok (.func fn a b) w := rfl
structure ET (S : List (Nat × List UInt8)) (wS : World) (lo : Nat) (Mo : Nat → Nat → Prop) (I : Nat → List (Nat × List UInt8) → World → Prop) (v0 v1 vr : Value) (j : Nat) (σ : Env) (w : World) : Prop where
 f0 : σ 0 = v0
 f1 : σ 1 = v1
 f7 : σ 7 = vr
 f8 : σ 8 = .int .i64 S.length
 f9 : σ 9 = .int .i64 j
 le : j ≤ S.length
 mod : Mod wS w fun k o => Mo k o ∨ lo ≤ k
 inv : I lo (S.take j) w
def cTellTag (N : Nums) : C :=
 .seq (.ops [⟨some 0, .indexAddr N.zbg (V 7) (V 9), 0, none, []⟩, ⟨some 1, .load N.zj (T 0), 0, none, []⟩, ⟨some (11+100), .assign (T 1), 0, none, []⟩])
  (.ops [⟨some 0, .move (V 1), 0, none, []⟩, ⟨some 1, .move (V 11), 0, none, []⟩, ⟨some 2, .move (V 0), 0, none, []⟩, ⟨some 3, .nilCheck (T 2), 0, none, []⟩, ⟨some 4, .fieldAddr N.zdi (T 3) 0, 0, none, []⟩,
   ⟨some 5, .load N.zag (T 4), 0, none, []⟩, ⟨some 6, .move (V 11), 0, none, []⟩, ⟨some 7, .lookup N.zag (T 5) (T 6) false, 0, none, []⟩, ⟨some 8, .call ⟨.value (T 0), #[T 1, T 7], #[N.zj, N.za]⟩, N.t_, none, []⟩])
def CbOk (P : Program) (f : FuncId) (cap : Value) (lo : Nat) (G : Nat → Prop) (Mo : Nat → Nat → Prop) (I : Nat → List (Nat × List UInt8) → World → Prop) (S : List (Nat × List UInt8)) : Prop :=
 ∀ (j : Nat) (x : Nat × List UInt8) (w1 : World) (v : Value), S[j]? = some x → I lo (S.take j) w1 → lo ≤ w1.heap.size → tagV w1 G v x.2 → Call P f #[.int .u32 x.1, v, cap] w1 fun _ w2 => I lo (S.take (j + 1)) w2 ∧ Mod w1 w2 fun k o => Mo k o ∨ lo ≤ k
theorem tell_round (B : Base P N) (hT : N.zdi ≠ 0) (hL : LU P N) {loc : List Nat} {N' : Nat} {Q : Exit → Env → World → Prop} {S l : List (Nat × List UInt8)} {wS w : World} {lo : Nat} {Mo : Nat → Nat → Prop} {I : Nat → List (Nat × List UInt8) → World → Prop} {G : Nat → Prop}
  {b o bs c mr f j : Nat} {es : Array MapEntry} {ck : Nat} {cap : Value} {σ : Env}
  (hS : ∀ x ∈ S, x ∈ l) (hf : zcx P f) (hcb : CbOk P f cap lo G Mo I S) (hloS : lo ≤ wS.heap.size) (hbs : bs < lo) (hMbs : ∀ o, ¬ Mo bs o) (hblt : b < lo) (hMb : ¬ Mo b o) (hmr : mr < lo) (hMm : ∀ o, ¬ Mo mr o) (hMG : ∀ k, G k → k < lo ∧ ∀ o, ¬ Mo k o)
  (hrow : wS.rangeAt bs 0 (S.map fun x => keyV x.1)) (hcell : wS.cell? ⟨b, o, none⟩ = some (.map (some mr))) (hmap : wS.heap[mr]? = some (.map es ck)) (hent : zca wS G l es.toList) (hnd : (l.map Prod.fst).Nodup)
  (hj : j < S.length) (h : ET S wS lo Mo I (.pointer (some ⟨b, o, none⟩)) (.func (.func f) #[] #[cap]) (.slice (some ⟨bs, 0, none⟩) S.length c) j σ w)
  (hQ : ∀ σ' w', σ' 9 = .int .i64 j → ET S wS lo Mo I (.pointer (some ⟨b, o, none⟩)) (.func (.func f) #[] #[cap]) (.slice (some ⟨bs, 0, none⟩) S.length c) (j + 1) (upd σ' 9 (.int .i64 ((j + 1 : Nat) : Int))) w' → Q .normal σ' w') :
  W P loc N' (cTellTag N) Q σ w := by
 obtain ⟨f0, f1, f7, f8, f9, _, mod, inv⟩ := h
 obtain ⟨_, hHF, hmt⟩ := B.tags hT
 have hs := mod.size
 have no : ∀ {k o : Nat}, k < lo → ¬ Mo k o → ¬ (Mo k o ∨ lo ≤ k) := fun h1 h2 h => h.elim h2 fun h => by omega
 have hx : S[j]? = some S[j] := List.getElem?_eq_getElem hj
 have hrow' : w.rangeAt bs 0 (S.map fun x => keyV x.1) := mod.rangeAt (by omega) (fun i _ _ => no hbs (hMbs i)) hrow
 have hk : w.cell? ⟨bs, j, none⟩ = some (.int .u32 ((S[j]).1 : Int)) := by
  have := hrow' j _ (by rw [List.getElem?_map, hx]; rfl)
  simpa [keyV] using this
 have hcell' : w.cell? ⟨b, o, none⟩ = some (.map (some mr)) := by rw [mod.cell _ _ (by omega) (no hblt hMb)]; exact hcell
 have hmap' : w.heap[mr]? = some (.map es ck) := by rw [mod.block _ (by omega) (fun o => no hmr (hMm o))]; exact hmap
 have hent' : zca w G l es.toList := hent.mod mod fun k hk => ⟨by have := (hMG k hk).1; omega, fun o => no (hMG k hk).1 ((hMG k hk).2 o), hk⟩
 obtain ⟨val, hlk, htv⟩ := zud B hT hmap' hent' hnd (show ((S[j]).1, (S[j]).2) ∈ l from hS _ (List.getElem_mem hj))
 unfold cTellTag
 refine zd fun K hK => zaa fun τ => ?_
 simp +decide only [bK, bE, BEq.rfl, Nat.reduceAdd, Nat.zero_add, Nat.mul_one, f7, f9, zab hL.lu B.uint32 hj, B.uint32.run_load1 rfl, hk]
 refine hK _ _ (zf fun σ2 hσ => ?_)
 have g0 := hσ 0
 have g1 := hσ 1
 have g7 := hσ 7
 have g8 := hσ 8
 have g9 := hσ 9
 have g11 := hσ 11
 simp +decide only [bE, Nat.reduceBeqDiff, BEq.rfl, Nat.reduceAdd, Nat.zero_add, f0, f1, f7, f8, f9] at g0 g1 g7 g8 g9 g11
 clear hσ hK K
 refine zaa fun τ => ?_
 simp +decide only [bK, bE, Nat.reduceBeqDiff, BEq.rfl, Nat.reduceAdd, Nat.zero_add, g0, g1, g11]
 rw [zai rfl]
 simp +decide only [bK, bE, Nat.reduceBeqDiff, BEq.rfl, Nat.add_zero, hHF.run, hmt.run_load1 rfl, hcell', g11, zxc, hlk]
 rw [step_callV (f := f) (cap := #[cap]) (by simp +decide only [bE, Nat.reduceBeqDiff, BEq.rfl, ev_tmp]) hf]
 have e2 : ∀ ρ : Env, (#[T 1, T 7] : Array Operand).map (ev ρ) ++ #[cap] = #[ρ 1, ρ 7, cap] := fun ρ => by simp
 rw [e2]
 simp +decide only [bE, Nat.reduceBeqDiff, BEq.rfl]
 have := hcb j S[j] w val hx inv (by omega) htv
 refine Call.mono (Rt' := _) this ?_
 rintro v w2 ⟨hi2, hm2⟩
 refine zf (K := fun σ' w' => Q .normal σ' w') fun σ3 hσ => hQ _ _ ?_ ?_
 ·have := hσ 9
  simp +decide only [bE, Nat.reduceBeqDiff, Nat.reduceAdd, g9] at this
  exact this
 ·have p0 := hσ 0
  have p1 := hσ 1
  have p7 := hσ 7
  have p8 := hσ 8
  simp +decide only [bE, Nat.reduceBeqDiff, Nat.reduceAdd, Nat.zero_add, g0, g1, g7, g8] at p0 p1 p7 p8
  exact ⟨by rw [zi (by decide)]; exact p0, by rw [zi (by decide)]; exact p1, by rw [zi (by decide)]; exact p7, by rw [zi (by decide)]; exact p8, upd_same _ _ _, by omega, mod.trans' hm2, hi2⟩
end
section
variable {P : Program} {N : Nums}
theorem zca.keys {w : World} {G : Nat → Prop} : ∀ {l : List (Nat × List UInt8)} {es : List MapEntry}, zca w G l es → es.map MapEntry.key = l.map (fun x => keyV x.1)
 | [], es, h => by simp only [zca] at h; subst h; rfl
 | (k, x) :: l, es, ⟨v, b, rest, h1, h2, h3⟩ => by subst h1; simp only [List.map_cons, keyV]; rw [zca.keys h3]; rfl
theorem call_Each (B : Base P N) (F : Fns P N) (hN : N.zge ≠ 0) (hT : N.zdi ≠ 0) (hL : LU P N) (hS : SortOk P N) {w : World} {b o f : Nat} {v cap : Value} {G : Nat → Prop} {l : List (Nat × List UInt8)}
  (hc : w.cell? ⟨b, o, none⟩ = some v) (hG : ∀ k, G k → k < w.heap.size) (ht : zsf w G v l) (hf : zcx P f) (hsz : l.length < 1099511627776) (I : Nat → List (Nat × List UInt8) → World → Prop) (Mo : Nat → Nat → Prop)
  (hMo : ∀ k o, Mo k o → k < w.heap.size) (hMb : ¬ Mo b o) (hMG : ∀ k, G k → ∀ o, ¬ Mo k o) (hI0 : ∀ w', Mod w w' zp → I w'.heap.size [] w') (hcb : ∀ lo, w.heap.size ≤ lo → CbOk P f cap lo G Mo I (zdr l)) :
  Call P N.zge #[.pointer (some ⟨b, o, none⟩), .func (.func f) #[] #[cap]] w fun _ w' => ∃ lo, w.heap.size ≤ lo ∧ lo ≤ w'.heap.size ∧ I lo (zdr l) w' ∧ Mod w w' Mo := by
 obtain ⟨_, hHF, hmt⟩ := B.tags hT
 have hb : b < w.heap.size := zax (by rw [hc]; rfl)
 refine (F.PTags_Each hN).1.call rfl fun loc N' hlo => ?_
 unfold zpy
 obtain ⟨σ, hσ⟩ : ∃ σ, σ = zda #[.pointer (some ⟨b, o, none⟩), .func (.func f) #[] #[cap]] := ⟨_, rfl⟩
 have f0 : σ 0 = .pointer (some ⟨b, o, none⟩) := by rw [hσ]; rfl
 have f1 : σ 1 = .func (.func f) #[] #[cap] := by rw [hσ]; rfl
 rw [← hσ]
 clear hσ
 have emptyS : ∀ σ' : Env, l = [] → retQ P [] (fun _ w' => ∃ lo, w.heap.size ≤ lo ∧ lo ≤ w'.heap.size ∧ I lo (zdr l) w' ∧ Mod w w' Mo) .ret σ' w := by
  intro σ' e
  subst e
  exact ⟨.inr rfl, .tuple #[], rfl, w.heap.size, Nat.le_refl _, Nat.le_refl _, by simpa [zdr] using hI0 w (.refl _ _), .refl _ _⟩
 rcases ht with ⟨rfl, hl⟩ | ⟨mr, es, ck, rfl, hGm, hmap, hborn, hbnd, hent, hknd, hkb⟩
 ·refine zd fun K hK => zd fun K1 hK1 => zaa fun τ => ?_
  simp +decide only [bK, bE, BEq.rfl, Nat.reduceAdd, Nat.zero_add, f0]
  rw [zai rfl]
  simp +decide only [bK, bE, BEq.rfl, Nat.add_zero, hHF.run, hmt.run_load1 rfl, hc, zxl hmt.und]
  refine hK1 _ _ (zf fun σ1 hσ => ?_)
  have g2 := hσ 2
  simp +decide only [bE, BEq.rfl, Nat.reduceAdd] at g2
  refine W_if hlo g2 ?_
  rw [if_pos rfl]
  exact zbx (emptyS _ hl)
 have hlen : es.size = l.length := by
  have := congrArg List.length hent.keys
  simpa using this
 refine zd fun K hK => zd fun K1 hK1 => zaa fun τ => ?_
 simp +decide only [bK, bE, BEq.rfl, Nat.reduceAdd, Nat.zero_add, f0]
 rw [zai rfl]
 simp +decide only [bK, bE, BEq.rfl, Nat.add_zero, hHF.run, hmt.run_load1 rfl, hc, zsx hmt.und hmap]
 refine hK1 _ _ (zf fun σ1 hσ => ?_)
 have g0 := hσ 0
 have g1 := hσ 1
 have g2 := hσ 2
 simp +decide only [bE, Nat.reduceBeqDiff, BEq.rfl, Nat.reduceAdd, Nat.zero_add, f0, f1] at g0 g1 g2
 clear hσ hK1 K1
 refine W_if hlo g2 ?_
 by_cases h0 : l = []
 ·have : (((es.size : Nat) : Int) == 0) = true := by rw [hlen, h0]; rfl
  rw [if_pos this]
  exact zbx (emptyS _ h0)
 have hpos : 0 < l.length := List.length_pos_iff.2 h0
 have : (((es.size : Nat) : Int) == 0) = false := by rw [hlen]; simp; omega
 rw [if_neg (by rw [this]; simp)]
 refine zbw (hK _ _ ?_)
 clear hK K emptyS
 obtain ⟨w1, hmk, ho1, m1, s1⟩ := zvp (w := w) (n := es.size) hL.lu B.uint32 rfl (by omega) (by omega)
 obtain ⟨w2, hw2⟩ : ∃ w2, w2 = w1.alloc (.cells (Value.cells (.slice none 0 0)) N.zbg) := ⟨_, rfl⟩
 have m2 : Mod w1 w2 zp := by rw [hw2]; exact Mod.alloc _ _ _
 have s2 : w2.heap.size = w1.heap.size + 1 := by rw [hw2]; exact zan _ _
 have r2 : w2.rangeAt w1.heap.size 0 [.slice none 0 0] := by rw [hw2]; exact zw w1 _ _ _
 have t2 : w2.there w1.heap.size 0 1 := by rw [hw2]; exact zbj w1 _ _
 have hst := hL.lu.run_store1 (w := w2) (b := w1.heap.size) (o := 0) (v := .slice (some ⟨w.heap.size, 0, none⟩) 0 es.size) rfl t2
 obtain ⟨w3, hw3⟩ : ∃ w3, w3 = w2.setCell ⟨w1.heap.size, 0, none⟩ (.slice (some ⟨w.heap.size, 0, none⟩) 0 es.size) := ⟨_, rfl⟩
 have m3 : Mod w2 w3 (blk w1.heap.size) := by rw [hw3]; exact Mod.setCell fun _ => rfl
 have s3 : w3.heap.size = w2.heap.size := by rw [hw3]; simp [World.setCell]
 have c3 : w3.cell? ⟨w1.heap.size, 0, none⟩ = some (.slice (some ⟨w.heap.size, 0, none⟩) 0 es.size) := by rw [hw3]; exact World.cell?_setCell_same _ _ _ (r2 0 _ rfl)
 have hal := hL.lu.run_alloc (w := w1) (.tuple #[])
 refine zd fun K hK => zaa fun τ => ?_
 simp +decide only [bK, bE, Nat.reduceBeqDiff, BEq.rfl, Nat.reduceAdd, Nat.zero_add, g0]
 rw [zai rfl]
 simp +decide only [bK, bE, BEq.rfl, Nat.add_zero, hHF.run, hmt.run_load1 rfl, hc, zsx hmt.und hmap, zjn, hmk, hal, ← hw2, hst, ← hw3]
 obtain ⟨b3, hb3⟩ : ∃ b3, b3 = w1.heap.size := ⟨_, rfl⟩
 rw [← hb3] at c3 m3 t2 ⊢
 refine hK _ _ (zf fun σ2 hσ => ?_)
 have p0 := hσ 0
 have p1 := hσ 1
 have p3 := hσ 3
 simp +decide only [bE, Nat.reduceBeqDiff, BEq.rfl, Nat.reduceAdd, Nat.zero_add, g0, g1] at p0 p1 p3
 clear hσ hK K hmk hal hst hw3 hw2 r2
 have m03 : Mod w w3 zp := (m1.trans' m2).fresh m3 fun k o e => by have : k = b3 := e; omega
 have hc3 : w3.cell? ⟨b, o, none⟩ = some (.map (some mr)) := by rw [m03.cell _ _ hb (fun h => h)]; exact hc
 have hmrlt := hG mr hGm
 have hmap3 : w3.heap[mr]? = some (.map es ck) := by rw [m03.block _ hmrlt (fun o h => h)]; exact hmap
 refine zd fun K hK => zd fun K1 hK1 => zaa fun τ => ?_
 simp +decide only [bK, bE, BEq.rfl, Nat.reduceAdd, Nat.zero_add, p0]
 rw [zai rfl]
 simp +decide only [bK, bE, BEq.rfl, Nat.add_zero, hHF.run, hmt.run_load1 rfl, hc3, step_range, run_range_map w3 _ _ _ mr es ck hmt.und hmap3]
 obtain ⟨w4, hw4⟩ : ∃ w4, w4 = w3.alloc (.mapIter (some mr) ck #[] ck) := ⟨_, rfl⟩
 have m4 : Mod w3 w4 zp := by rw [hw4]; exact Mod.alloc _ _ _
 have s4 : w4.heap.size = w3.heap.size + 1 := by rw [hw4]; exact zan _ _
 have i4 : w4.heap[w3.heap.size]? = some (.mapIter (some mr) ck #[] ck) := by rw [hw4]; exact zlw _ _
 rw [← hw4]
 clear hw4
 refine hK1 _ _ (zf fun σ4 hσ => ?_)
 have q0 := hσ 0
 have q1 := hσ 1
 have q3 := hσ 3
 have q4 := hσ 4
 simp +decide only [bE, Nat.reduceBeqDiff, BEq.rfl, Nat.reduceAdd, Nat.zero_add, p0, p1, p3] at q0 q1 q3 q4
 clear hσ hK1 K1
 have m04 : Mod w w4 zp := m03.trans' m4
 have m14 : Mod w1 w4 zp := (m2.fresh m3 fun k o e => by have : k = b3 := e; omega).trans' m4
 have hEC : EC es.toList ck mr w w.heap.size b3 w3.heap.size (.pointer (some ⟨b, o, none⟩)) (.func (.func f) #[] #[cap]) [] σ4 w4 := by
  refine ⟨q0, q1, q3, q4, m04, by rw [m04.block _ hmrlt (fun o h => h)]; simpa using hmap, ⟨#[], i4, rfl⟩, fun e he => by simp at he, by simp, ⟨.slice (some ⟨w.heap.size, 0, none⟩) 0 es.size, ?_, m4.there (by omega) (m3.there (by omega) t2), ho1.stay m14 fun _ _ _ h => h, ?_, ?_⟩, by omega, by omega, by omega, by omega, by omega, by omega, by omega, by omega⟩
  ·rw [m4.cell _ _ (by omega) (fun h => h)]; exact c3
  ·intro b' o' s' n' c' e; injection e with e1 _ _; injection e1 with e2; injection e2 with e3; omega
  ·intro b' o' s' n' c' e; injection e with e1 _ _; injection e1 with e2; injection e2 with e3; omega
 have hkey1 : ∀ e ∈ es.toList, e.key.oneCell' = true := fun e he => by
  have : e.key ∈ es.toList.map MapEntry.key := List.mem_map.2 ⟨e, he, rfl⟩
  rw [hent.keys] at this
  obtain ⟨x, _, hx⟩ := List.mem_map.1 this
  rw [← hx]; rfl
 refine zeb (zna (fun n σ w' => ∃ picked, n = es.toList.length - picked.length ∧ EC es.toList ck mr w w.heap.size b3 w3.heap.size (.pointer (some ⟨b, o, none⟩)) (.func (.func f) #[] #[cap]) picked σ w') (n := es.toList.length - [].length) ⟨[], rfl, hEC⟩ ?_)
 rintro n σ5 w5 ⟨picked, rfl, h5⟩
 refine zun B hL hlo hborn hbnd hkey1 (by simp; omega) h5 (fun σ6 w6 h6 hperm => ?_) fun σ6 w6 e hlt h6 => ⟨_, by simp at hlt ⊢; omega, picked ++ [e], rfl, h6⟩
 simp only [zdy, inB, if_true]
 refine hK _ _ ?_
 clear hK K h5 hEC i4 ho1
 obtain ⟨r0, r1, r3, _, m06, map6, _, _, _, ⟨v6, hc6, ht6, ho6, nb3, _⟩, _, _, _, _, _, _, _, _⟩ := h6
 obtain ⟨ks, hks, hkp⟩ : ∃ ks : List Nat, picked.map MapEntry.key = ks.map keyV ∧ ks.Perm (l.map Prod.fst) := by
  have hp2 : (picked.map MapEntry.key).Perm ((l.map Prod.fst).map keyV) := by
   have := hperm.map MapEntry.key
   rw [hent.keys] at this
   simpa [Function.comp_def] using this
  refine ⟨picked.map fun e => match e.key with | .int _ k => k.toNat | _ => 0, ?_, ?_⟩
  ·rw [List.map_map]
   refine List.map_congr_left fun e he => ?_
   have : e.key ∈ (l.map Prod.fst).map keyV := hp2.mem_iff.1 (List.mem_map.2 ⟨e, he, rfl⟩)
   obtain ⟨k, _, hk⟩ := List.mem_map.1 this
   simp only [Function.comp, ← hk, keyV]
   simp
  ·have := hp2.map fun v : Value => match v with | .int _ k => k.toNat | _ => 0
   simpa [Function.comp_def, keyV] using this
 have hpl : picked.length = l.length := by have := hperm.length_eq; simpa [hlen] using this
 have hkl : ks.length = l.length := by have := hkp.length_eq; simpa using this
 rw [hks, hpl] at ho6
 obtain ⟨bs, cs, rfl, hb1, hb2, hnc, hth, hrg, _⟩ : ∃ bs c, v6 = .slice (some ⟨bs, 0, none⟩) l.length c ∧ w.heap.size ≤ bs ∧ bs < w6.heap.size ∧ l.length ≤ c ∧ w6.there bs 0 (c * 1) ∧ w6.rangeAt bs 0 (ks.map keyV) ∧ (ks.map keyV).length = l.length * 1 := by
  rcases ho6 with ⟨_, h, _⟩ | h
  ·omega
  ·exact h
 have hb3s : b3 ≠ bs := nb3 bs 0 none _ _ rfl
 have s6 := m06.size
 have hso := hS.ok w6 b3 bs cs ks (by rw [hkl]; exact hc6) hb3s hb2 (fun e => by rw [e] at hkl; simp at hkl; omega) (by omega) hrg (fun i hi => hth i (by omega))
 rw [hkl] at hso
 refine zd fun K hK => zaa fun τ => ?_
 simp +decide only [bK, bE, BEq.rfl, Nat.reduceAdd, r3, hL.lu.run_load1 rfl, hc6, znz, zxj hL, zoa, zsw]
 have e3 : ∀ ρ : Env, ρ 103 = .pointer (some ⟨b3, 0, none⟩) → (#[V 3] : Array Operand).map (ev ρ) = #[.pointer (some ⟨b3, 0, none⟩)] := fun ρ h => by simp [h]
 have e4 : ∀ ρ : Env, (#[] : Array Operand).map (ev ρ) = #[] := fun ρ => by simp
 rw [zcs hS.has]
 simp +decide only [bK, bE, Nat.reduceBeqDiff, BEq.rfl, e4]
 rw [e3 _ (by simp +decide only [bE, Nat.reduceBeqDiff, r3])]
 refine Call.mono (Rt' := _) hso ?_
 rintro _ w7 ⟨ks', hkp', hks', hrg7, m7⟩
 refine zf (K := fun σ' w' => zdy K _ .normal σ' w') fun σ7 hσ => hK _ _ ?_
 have u0 := hσ 0
 have u1 := hσ 1
 have u3 := hσ 3
 simp +decide only [bE, Nat.reduceBeqDiff, Nat.reduceAdd, Nat.zero_add, r0, r1, r3] at u0 u1 u3
 clear hσ hK K hso
 have s7 := m7.size
 have m07 : Mod w w7 zp := m06.fresh m7 fun k o e => by have : k = bs := e; omega
 have hc7 : w7.cell? ⟨b3, 0, none⟩ = some (.slice (some ⟨bs, 0, none⟩) l.length cs) := by
  rw [m7.cell _ _ (zax (by rw [hc6]; rfl)) (fun h => hb3s h)]; exact hc6
 have hkeq : ks' = (zdr l).map Prod.fst := zvn (hkp'.trans (hkp.trans ((zef l).map Prod.fst).symm)) hks' (zqu l)
 have hSl : (zdr l).length = l.length := (zef l).length_eq
 refine zd fun K hK => zaa fun τ => ?_
 simp +decide only [bK, bE, BEq.rfl, Nat.reduceAdd, u3, hL.lu.run_load1 rfl, hc7, hL.lu.run_len]
 refine hK _ _ (zf fun σ8 hσ => ?_)
 have k0 := hσ 0
 have k1 := hσ 1
 have k7 := hσ 7
 have k8 := hσ 8
 have k9 := hσ 9
 simp +decide only [bE, Nat.reduceBeqDiff, BEq.rfl, Nat.reduceAdd, Nat.zero_add, u0, u1] at k0 k1 k7 k8 k9
 clear hσ hK K
 have no : ∀ {k : Nat} {o : Nat}, Mo k o → w.heap.size ≤ k → False := fun h1 h2 => by have := hMo _ _ h1; omega
 rw [← hSl] at k7 k8
 refine zjm (i := 9) (l := 8) (c := 10) (k := 2) hlo (L := (zdr l).length) (by omega) (ET (zdr l) w7 w7.heap.size Mo I (.pointer (some ⟨b, o, none⟩)) (.func (.func f) #[] #[cap]) (.slice (some ⟨bs, 0, none⟩) (zdr l).length cs)) (fun j σ w h => ⟨h.f9, h.f8, h.le⟩) (fun j σ w b h => ?_) ?_ (fun σ9 w9 h => ?_) (fun j σ' w' hj h => ?_)
 ·exact ⟨by rw [zi (by decide)]; exact h.f0, by rw [zi (by decide)]; exact h.f1, by rw [zi (by decide)]; exact h.f7, by rw [zi (by decide)]; exact h.f8, by rw [zi (by decide)]; exact h.f9, h.le, h.mod, h.inv⟩
 ·exact ⟨k0, k1, k7, k8, k9, Nat.zero_le _, .refl _ _, hI0 w7 m07⟩
 ·have hinv := h.inv
  rw [List.take_length] at hinv
  exact ⟨.inl rfl, .tuple #[], rfl, w7.heap.size, m07.size, h.mod.size, hinv, m07.trans h.mod fun k o hk h => h.elim False.elim fun h => h.elim id fun h => by have := m07.size; omega⟩
 ·refine tell_round B hT hL (l := l) (G := G) (mr := mr) (es := es) (ck := ck) (fun x hx => (zef l).mem_iff.1 hx) hf (hcb w7.heap.size m07.size) (Nat.le_refl _) (by omega) (fun o h => no h (by omega)) (by omega) hMb (by omega) (hMG mr hGm) (fun k hk => ⟨by have := hG k hk; omega, hMG k hk⟩) ?_ ?_ ?_ ?_ hknd hj h fun σ' w' h1 h2 => ⟨h1, h2⟩
  ·rw [hkeq] at hrg7
   simpa [Function.comp_def] using hrg7
  ·rw [m07.cell _ _ hb (fun h => h)]; exact hc
  ·rw [m07.block _ hmrlt (fun o h => h)]; exact hmap
  ·exact hent.mod m07 fun k hk => ⟨hG k hk, fun _ h => h, hk⟩
end
structure SortT (P : Program) (N : Nums) : Prop where
 has : zcx P N.zgd
 out : ∃ (ρ : Go.Shelf.Ren) (i ie : TypeInfo) (f6 f2 : Nat), Go.Proofs.LaysGg.n6 P ρ ∧ ρ.f 6 = N.zgd ∧ P.info? N.zbg = some i ∧ i.desc = .slice N.zj ∧ P.packed N.zbg = false ∧ P.info? N.zj = some ie ∧
  (∀ w, (Extern.Rtype.kind N.zj).run P w = .ok 10 w) ∧ ie.hasPointers = false ∧ ie.bytes = 4 ∧ ie.size = 1 ∧
  P.funcs.findIdx? (·.name == "internal/reflectlite" ++ ".Swapper$" ++ toString 6) = some f6 ∧ P.funcs.findIdx? (·.name == "internal/reflectlite" ++ ".Swapper$" ++ toString 2) = some f2 ∧
  ∀ args W, (callFunc f6 args).run P W = ((Extern.ReflectliteSwapper.swap true args).run P W).andThen fun v w' => .ok (.value v) w'
section
variable {P : Program} {N : Nums}
theorem Mod.grow (w : World) (os : Array Obj) (M : Nat → Nat → Prop) : Mod w (Go.Sort.grow w os) M :=
 .of_blocks rfl rfl rfl (by rw [Go.Sort.size_grow]; omega) fun k hk => Go.Sort.heap_grow_old w os hk
theorem Mod.ahead (w : World) (n : Nat) (M : Nat → Nat → Prop) : Mod w (Go.Sort.ahead w n) M := .of_blocks rfl rfl rfl (Nat.le_refl _) fun _ _ => rfl
theorem zri (enc : Int → Value) (w : World) (bs : Nat) (d : Array Int) (k : Nat) : (Go.Sort.putRow enc w bs 0 d).heap[k]? = if bs = k then (w.heap[k]?).map (Go.Sort.onCells (Go.Sort.putCells enc 0 d)) else w.heap[k]? := by
 simp only [Go.Sort.putRow, Go.Sort.mapBlock, Array.getElem?_modify]
theorem Mod.putRow (enc : Int → Value) (w : World) (bs : Nat) (d : Array Int) : Mod w (Go.Sort.putRow enc w bs 0 d) (blk bs) := by
 have hne : ∀ k, k ≠ bs → (Go.Sort.putRow enc w bs 0 d).heap[k]? = w.heap[k]? := fun k hk => by rw [zri, if_neg (fun e => hk e.symm)]
 have hsame : (Go.Sort.putRow enc w bs 0 d).heap[bs]? = (w.heap[bs]?).map (Go.Sort.onCells (Go.Sort.putCells enc 0 d)) := by rw [zri, if_pos rfl]
 refine ⟨rfl, rfl, rfl, by rw [Go.Sort.size_putRow]; exact Nat.le_refl _, fun k hk hn => hne k fun e => hn 0 e, fun k o hk hn => World.cell?_of_block (hne k fun e => hn e), fun k o hk => ?_, fun k o hk => Go.Sort.frozen?_putRow enc w bs 0 d _, fun k hk => ?_⟩
 ·by_cases e : k = bs
  ·subst e
   simp only [World.cell?, hsame]
   cases w.heap[k]? with
   | none => rfl
   | some ob =>
    cases ob <;> simp [Go.Sort.onCells, Go.Sort.putCells]
  ·rw [World.cell?_of_block (hne k e)]
 ·by_cases e : k = bs
  ·subst e
   simp only [World.shape?, hsame]
   cases w.heap[k]? with
   | none => rfl
   | some ob =>
    cases ob <;> simp [Go.Sort.onCells, Go.Sort.putCells]
  ·simp only [World.shape?, hne k e]
theorem sortOk (B : Base P N) (F : Fns P N) (hN : N.zcz ≠ 0) (hL : LU P N) (hT : SortT P N) : SortOk P N := by
 refine ⟨hT.has, fun w bv bs c ks hv hne hbs hks0 hkl hrg hth => ?_⟩
 obtain ⟨ρ, i, ie, f6, f2, L, hρ, hi, hd, hpk, hie, hke, hp, hby, hs1, hf6, hf2, hx⟩ := hT.out
 have hless1 := (F.PTags_Each_1 hN).has
 obtain ⟨ks0, hks⟩ : ∃ d : Array Int, d = (ks.map fun k : Nat => (k : Int)).toArray := ⟨_, rfl⟩
 have hsz : ks0.size = ks.length := by rw [hks]; simp
 have hget : ∀ t, t < ks.length → ks0[t]! = ((ks.getD t 0 : Nat) : Int) := fun t ht => by
  rw [hks, getElem!_pos _ t (by simpa using ht)]
  simp [List.getD, ht]
 unfold Call
 rw [← hρ]
 by_cases h2 : 2 ≤ ks.length
 ·have hH : Go.Sort.Holds (Value.int .u32) w bs 0 ks0 := by
   intro j hj
   rw [hsz] at hj
   refine ⟨?_, by have := (hth j hj).2; simpa using this⟩
   have := hrg j (keyV (ks.getD j 0)) (by rw [List.getElem?_map, List.getElem?_eq_getElem hj]; simp [List.getD, hj])
   rw [hget j hj]
   exact this
  have hless : Go.Proofs.LessReads P N.zcz #[.pointer (some ⟨bv, 0, none⟩)] (Value.int .u32) Go.Sort.ltInt bs 0 ks0.size w := by
   intro m os dk hdk a b ha hb
   have e : Go.Proofs.sortWorld (Value.int .u32) w bs 0 m dk os = Go.Sort.putRow (Value.int .u32) (Go.Sort.grow (Go.Sort.ahead w m) os) bs 0 dk := by
    unfold Go.Proofs.sortWorld; rw [Go.Sort.putRow_grow _ (Go.Sort.ahead w m) _ bs 0 _ hbs]
   have hHg : Go.Sort.Holds (Value.int .u32) (Go.Sort.grow (Go.Sort.ahead w m) os) bs 0 ks0 := Go.Sort.holds_grow _ _ _ bs 0 ks0 hbs (Go.Sort.holds_ahead _ _ _ _ _ _ hH)
   have hvl : bv < w.heap.size := zax (by rw [hv]; rfl)
   have hc := call_less (st := hL.lu) (w := Go.Proofs.sortWorld (Value.int .u32) w bs 0 m dk os) (bv := bv) (blk := bs) (n := ks.length) (c := c) B F hN (by
    rw [e, Go.Sort.cell?_putRow_other _ _ bs 0 dk _ (.inl hne), Go.Sort.cell?_grow _ _ _ hvl]; exact hv) (g := fun t => dk[t]!) (fun t ht => by
    rw [e]
    have := Go.Sort.cell?_putRow (Value.int .u32) _ bs 0 ks0 dk hHg hdk t (by rw [hdk, hsz]; exact ht)
    simpa using this) (show a < ks.length by rw [← hsz]; exact ha) (show b < ks.length by rw [← hsz]; exact hb)
   refine Calls.mono hc ?_
   rintro ex w' ⟨v, rfl, rfl, rfl⟩
   exact ⟨rfl, 1, rfl⟩
  have hsw : Go.Lib.swapperK ks0.size ie 10 = 6 := by
   have a : (ks0.size == 0) = false := beq_eq_false_iff_ne.2 (by omega)
   have b : (ks0.size == 1) = false := beq_eq_false_iff_ne.2 (by omega)
   simp [Go.Lib.swapperK, hp, hby, a, b]
  have hS := Go.Proofs.Any.sort_Slice_sorted L N.zbg N.zj i ie hi hd hpk hie 10 hke hs1 (fun w => B.uint32.run_isAgg) (Value.int .u32) (fun _ => rfl) Go.Sort.ltInt Go.Sort.swo_ltInt N.zcz #[.pointer (some ⟨bv, 0, none⟩)]
   (fun args w => zlc hless1) bs 0 c ks0 (by omega) (by omega) f6 (by rw [hsw]; exact hf6) true hx w hless hH hbs
  rw [hsz] at hS
  refine Calls.mono hS ?_
  rintro e w' ⟨rfl, d', n, os, hperm, hso, rfl⟩
  obtain ⟨hd's, _, hpm⟩ := hperm
  rw [show d'.extract 0 ks.length = d' by rw [← hsz, ← hd's]; simp, show ks0.extract 0 ks.length = ks0 by rw [← hsz]; simp] at hpm
  refine ⟨_, rfl, d'.toList.map Int.toNat, ?_, ?_, ?_, ?_⟩
  ·have := hpm.map Int.toNat
   rw [hks] at this
   simpa [Function.comp_def] using this
  ·have hnn : ∀ x ∈ d'.toList, 0 ≤ x := fun x hx => by
    have := hpm.mem_iff.1 hx
    rw [hks] at this
    simp at this
    obtain ⟨k, _, rfl⟩ := this
    omega
   rw [List.pairwise_map, List.pairwise_iff_getElem]
   intro a b ha hb hab
   have h3 := hso a b (Nat.zero_le _) hab (by rw [← hsz, ← hd's]; simpa using hb)
   rw [getElem!_pos d' a (by simpa using ha), getElem!_pos d' b (by simpa using hb)] at h3
   simp only [Go.Sort.ltInt, decide_eq_false_iff_not] at h3
   simp only [Array.getElem_toList]
   omega
  ·have hds : d'.size = ks.length := by omega
   intro j v hj
   have hjl : j < d'.size := by
    have := (List.getElem?_eq_some_iff.1 hj).1
    simpa using this
   have hH2 : Go.Sort.Holds (Value.int .u32) (Go.Sort.ahead w n) bs 0 ks0 := Go.Sort.holds_ahead _ _ _ _ _ _ hH
   have hc := Go.Sort.cell?_putRow (Value.int .u32) (Go.Sort.ahead w n) bs 0 ks0 d' hH2 hd's j hjl
   rw [Go.Sort.cell?_grow _ _ _ (by rw [Go.Sort.size_putRow]; exact hbs), hc]
   rw [List.getElem?_map, List.getElem?_map] at hj
   have hnn : 0 ≤ d'[j] := by
    have := hpm.mem_iff.1 (show d'[j] ∈ d'.toList by simp)
    rw [hks] at this
    simp at this
    obtain ⟨k, _, h⟩ := this
    omega
   rw [getElem!_pos d' j hjl]
   have : d'.toList[j]? = some d'[j] := by simp [hjl]
   rw [this] at hj
   simp [keyV] at hj
   rw [← hj, Int.max_eq_left hnn]
  ·exact (((Mod.ahead w n _).trans' (Mod.putRow _ _ bs d')).trans' (Mod.grow _ os _))
 ·obtain ⟨k, rfl⟩ : ∃ k, ks = [k] := by
   match ks, hks0, h2 with
   | [k], _, _ => exact ⟨k, rfl⟩
   | a :: b :: l, _, h => simp at h
  have hS := Go.Proofs.Any.sort_Slice_tiny L N.zbg N.zj i ie hi hd hpk hie 10 hke (some ⟨bs, 0, none⟩) 1 c (Nat.le_refl _) f2 (by simpa [Go.Lib.swapperK] using hf2) (.func N.zcz) #[] #[.pointer (some ⟨bv, 0, none⟩)] w
  refine Calls.mono hS ?_
  rintro e w' ⟨rfl, os, rfl⟩
  exact ⟨_, rfl, [k], List.Perm.refl _, by simp, (Mod.grow w os zp).rangeAt hbs (fun _ _ _ h => h) hrg, Mod.grow _ _ _⟩
end
section
variable {P : Program} {N : Nums}
def cTagFn (N : Nums) : C := .draw [
 ⟨some 0, .fieldAddr N.zy (V 2) 4, 0, none, []⟩, ⟨some 1, .load N.zel (T 0), 0, none, [0]⟩, ⟨some 2, .move (V 0), 0, none, []⟩, ⟨some 3, .move (V 1), 0, none, []⟩,
 ⟨some 4, .call ⟨.builtin .append, #[.const (.slice none 0 0), T 3], #[N.za, N.za]⟩, N.za, none, [3]⟩,
 ⟨some 5, .build N.zhm #[(0, T 2), (1, T 4)], 0, none, [2, 4]⟩, ⟨some 6, .buildSlice N.zel 1 #[(0, T 5)], 0, none, [5]⟩,
 ⟨some 7, .call ⟨.builtin .append, #[T 1, T 6], #[N.zel, N.zel]⟩, N.zel, none, [1, 6, 4]⟩,
 ⟨some 8, .fieldAddr N.zy (V 2) 4, 0, none, [0, 1, 2, 3, 4, 5, 6, 7]⟩, ⟨none, .store N.zel (T 8) (T 7), 0, none, [8, 7, 7, 0, 1, 2, 3, 4, 5, 6, 7]⟩]
def UI (bT lo : Nat) (l : List (Nat × List UInt8)) (w : World) : Prop :=
 ∃ v cs, w.cell? ⟨bT, 4, none⟩ = some v ∧ w.there bT 4 1 ∧ Own w lo 2 v l.length cs ∧ UsG w (GX (fun _ => False) lo w v) l cs
theorem tag_cb (B : Base P N) (hI : zeu P N) {f : FuncId} (hF : FOk P f 3 (cTagFn N) []) {bT lo : Nat} {G : Nat → Prop} {S : List (Nat × List UInt8)} (hb : bT < lo) (hS : S.length < 1099511627776) (hSl : ∀ x ∈ S, x.2.length < 1099511627776) :
  CbOk P f (.pointer (some ⟨bT, 0, none⟩)) lo G (fun k o => k = bT ∧ o = 4) (UI bT) S := by
 intro j x w v hx hui hlo htv
 obtain ⟨vu, cs, hc, ht, ho, hus⟩ := hui
 obtain ⟨fs', hI1⟩ := hI.tu
 have hjS := (List.getElem?_eq_some_iff.1 hx).1
 have htl : (S.take j).length = j := by rw [List.length_take]; omega
 rw [htl] at ho
 have hxl := hSl x (List.mem_of_getElem? hx)
 have hv : ∀ k, ¬ zao vu k → lo ≤ k ∧ k < w.heap.size := fun k hk => ho.blk hk
 refine hF.call rfl fun loc N' hloc => ?_
 unfold cTagFn
 obtain ⟨σ, hσ⟩ : ∃ σ, σ = zda #[.int .u32 x.1, v, .pointer (some ⟨bT, 0, none⟩)] := ⟨_, rfl⟩
 have f0 : σ 0 = .int .u32 x.1 := by rw [hσ]; rfl
 have f1 : σ 1 = v := by rw [hσ]; rfl
 have f2 : σ 2 = .pointer (some ⟨bT, 0, none⟩) := by rw [hσ]; rfl
 rw [← hσ]
 clear hσ
 refine zfx B.mixed [true, true, true, true, false, false, false, false, false, false] (by kernel_rfl) (fun w' => w'.cell? ⟨bT, 4, none⟩ = some vu) hc fun τ => ?_
 have e0 : zdm σ τ 100 = .int .u32 x.1 := by rw [← f0]; exact envOf_var σ τ 0
 have e1 : zdm σ τ 101 = v := by rw [← f1]; exact envOf_var σ τ 1
 have e2 : zdm σ τ 102 = .pointer (some ⟨bT, 0, none⟩) := by rw [← f2]; exact envOf_var σ τ 2
 refine zc (.pointer (some ⟨bT, 4, none⟩)) (fun w' _ => zn (by
  simp +decide only [ev_tmp, e2, hI.h4.run])) rfl ?_
 refine zc vu (fun w' hw => zn (by
  simp +decide only [bE, BEq.rfl, ev_tmp, hI.lg.run_load1 rfl, hw, ldc_some])) rfl ?_
 refine zc (.int .u32 x.1) (fun w' hw => by
  rw [zat, ev_tmp]
  simp +decide only [bE, Nat.reduceBeqDiff, Nat.zero_add, f0]) rfl ?_
 refine zc v (fun w' hw => by
  rw [zat, ev_tmp]
  simp +decide only [bE, Nat.reduceBeqDiff, Nat.reduceAdd, f1]) rfl ?_
 simp only [zde, zdd, List.zip_cons_cons, List.zip_nil_right, List.zipWith_cons_cons, List.zipWith_nil_right, List.filter, Bool.not_true, Bool.not_false, List.map, zdn]
 have htvd : tagV w.drew G v x.2 := htv
 obtain ⟨v4, w6, hcp, htv6, m6d⟩ := zgz (ty := N.za) B htvd hxl
 have m6 : Mod w w6 zp := (Mod.drew w zp).trans' m6d
 have s6 := m6.size
 simp +decide only [bK, bE, Nat.reduceBeqDiff, BEq.rfl, Nat.reduceAdd, hcp]
 have c6 : w6.cell? ⟨bT, 4, none⟩ = some vu := by rw [m6.cell _ _ (by omega) (fun h => h)]; exact hc
 refine ⟨c6, ?_⟩
 have hone2 : ∀ c ∈ [Value.int .u32 x.1, v4], c.oneCell' = true := fun c hc => by
  simp at hc; rcases hc with rfl | rfl
  ·rfl
  ·exact htv6.one
 have hbu := tagBuild hI w6 x.1 htv6.one
 have e6 : ∀ ρ : Env, (#[(0, T 2), (1, T 4)] : Array (Nat × Operand)).map (fun p => (p.1, ev ρ p.2)) = #[(0, ρ 2), (1, ρ 4)] := fun ρ => by simp
 have e7 : ∀ ρ : Env, (#[(0, T 5)] : Array (Nat × Operand)).map (fun p => (p.1, ev ρ p.2)) = #[(0, ρ 5)] := fun ρ => by simp
 simp +decide only [bK, bE, Nat.reduceBeqDiff, BEq.rfl, e6, hbu]
 refine ⟨c6, ?_⟩
 have hbs := zfl (w := w6) (v := .agg #[.int .u32 x.1, v4]) (cs := [.int .u32 x.1, v4]) hI.lg hI1 rfl rfl (by decide) (by decide)
 simp +decide only [bK, bE, BEq.rfl, e7, hbs]
 obtain ⟨w7, hw7⟩ : ∃ w7, w7 = w6.alloc (.cells [Value.int .u32 x.1, v4].toArray N.zhm) := ⟨_, rfl⟩
 have m7 : Mod w6 w7 zp := by rw [hw7]; exact Mod.alloc _ _ _
 have s7 : w7.heap.size = w6.heap.size + 1 := by rw [hw7]; exact zan _ _
 have r7 : w7.rangeAt w6.heap.size 0 [.int .u32 x.1, v4] := by rw [hw7]; exact zw w6 _ _ _
 rw [← hw7]
 clear hw7 hbs
 have m07 : Mod w w7 zp := m6.trans' m7
 have c7 : w7.cell? ⟨bT, 4, none⟩ = some vu := by rw [m07.cell _ _ (by omega) (fun h => h)]; exact hc
 refine ⟨c7, ?_⟩
 have ho7 : Own w7 lo 2 vu j cs := ho.stay m07 fun _ _ _ h => h
 obtain ⟨v', w8, happ, ho8, m8, hone', hnb⟩ := zfv (P := P) (ty := N.zel) (m := 1) (cb := 1) hI.lg hI1 ho7 r7 rfl hone2 (by omega) rfl hus.ones (by omega) (by decide) (by decide)
 simp +decide only [bK, happ]
 clear happ
 have s8 := m8.size
 have nb3 : ¬ ¬ zao vu bT := fun h => by have := (hv bT h).1; omega
 have c8 : w8.cell? ⟨bT, 4, none⟩ = some vu := by rw [m8.cell _ _ (by omega) nb3]; exact c7
 refine ⟨c8, ?_⟩
 simp +decide only [bK, Nat.zero_add, f2, hI.h4.run]
 refine ⟨c8, ?_⟩
 have t8 : w8.there bT 4 1 := m8.there (by omega) (m07.there (by omega) ht)
 have hsto := hI.lg.run_store1 (w := w8) (b := bT) (o := 4) (v := v') hone' t8
 simp +decide only [bK, hsto]
 obtain ⟨w9, hw9⟩ : ∃ w9, w9 = w8.setCell ⟨bT, 4, none⟩ v' := ⟨_, rfl⟩
 have m9' : Mod w8 w9 fun k o => k = bT ∧ o = 4 := by rw [hw9]; exact Mod.setCell fun _ => ⟨rfl, rfl⟩
 have m9 : Mod w8 w9 fun k _ => k = bT := m9'.mono fun _ _ _ h => h.1
 have s9 : w9.heap.size = w8.heap.size := by rw [hw9]; simp [World.setCell]
 have c9 : w9.cell? ⟨bT, 4, none⟩ = some v' := by rw [hw9]; exact World.cell?_setCell_same _ _ _ c8
 rw [← hw9]
 clear hw9 hsto
 obtain ⟨q1, q2, q3, q4⟩ := zol (w := w) (w6 := w6) (w7 := w7) (w8 := w8) (w9 := w9) (G := fun _ => False) (lo := lo) (v := vu) (v' := v') (b3 := bT) (a := w.heap.size) (fun _ h => h.elim) hb hlo m6 (Nat.le_refl _) m7 m8 m9 hv hnb
 have hfin : UI bT lo (S.take (j + 1)) w9 := by
  refine ⟨v', cs ++ [.int .u32 x.1, v4], c9, m9.there (by omega) t8, ?_, ?_⟩
  ·have htl2 : (S.take (j + 1)).length = j + 1 := by rw [List.length_take]; omega
   rw [htl2]
   exact ho8.stay m9 (fun k o h e => by have : k = bT := e; have := ho8.blk h; omega)
  ·rw [List.take_add_one, hx]
   have htv6' : tagV w6 (GN (fun _ => False) w.heap.size w6.heap.size) v4 x.2 := htv6.imp (fun h => ⟨h.1, h.2⟩) fun h => h.mono fun k hk => .inr hk
   exact (UsG.mod q1 q2 hus).append ⟨v4, [], rfl, htv6'.mod q3 q4, rfl⟩
 refine ⟨.inl rfl, .tuple #[], rfl, hfin, ?_⟩
 refine ((m07.mono fun _ _ _ h => h.elim).trans' (m8.mono fun k o hk h => ?_)).trans' (m9'.mono fun k o _ h => .inl h)
 exact .inr (hv k h).1
end
def zlf : Value → List UInt8
 | .agg a => a.toList.map fun v => match v with
  | .int _ n => UInt8.ofNat n.toNat
  | _ => 0
 | .string s => s.data.toList
 | _ => []
def PK.tr : PK → Value → Tr
 | .bool, v => zdq (match v with | .bool true => 1 | _ => 0) [] false
 | .uuid, v => zdq 0 (zlf v) false
 | _, v => zdq (match v with | .int _ n => n | _ => 0) [] false
mutual
def Ty.tr : Ty → Val → Tr
 | .pr k _, .num v => k.tr v
 | .txt _, .num v => zdq 0 (zlf v) false
 | .txt _, .nstr o => zdq 0 (o.getD []) o.isNone
 | .txt _, .oct o => zdq 0 (o.getD []) o.isNone
 | .arr .., .nilA => .mk 0 [] true [] []
 | .arr _ _ e, .arr _ l => .mk 0 [] false (l.map e.tr) []
 | .row _ _ _ fs, .row l => .mk 0 [] false (fs.trs l) (fs.tgs l)
 | .tv _, .nstr o => zdq 0 (o.getD []) o.isNone
 | _, _ => zdq 0 [] false
def El.tr : El → Val → Tr
 | .pr k, .num v => k.tr v
 | .txt _, .num v => zdq 0 (zlf v) false
 | .txt _, .nstr o => zdq 0 (o.getD []) o.isNone
 | .txt _, .oct o => zdq 0 (o.getD []) o.isNone
 | .row _ _ _ fs, .row l => .mk 0 [] false (fs.trs l) (fs.tgs l)
 | _, _ => zdq 0 [] false
def Fds.trs : Fds → List Val → List Tr
 | .cons _ ty r, v :: l => ty.tr v :: r.trs l
 | _, _ => []
def Fds.tgs : Fds → List Val → List (Nat × List UInt8)
 | .tags, [.tags l] => zdr l
 | .cons _ _ r, _ :: l => r.tgs l
 | _, _ => []
end
def Fds.tr (fs : Fds) (l : List Val) : Tr := .mk 0 [] false (fs.trs l) (fs.tgs l)
def big : Nat := 1099511627776
def PK.okV : PK → Value → Prop
 | .bool, v => ∃ b, v = .bool b
 | .i8, v => ∃ n, v = .int .i8 n ∧ IntKind.i64.wrap n = n
 | .i16, v => ∃ n, v = .int .i16 n ∧ IntKind.i64.wrap n = n
 | .u16, v => ∃ n, v = .int .u16 n ∧ IntKind.i64.wrap n = n
 | .i32, v => ∃ n, v = .int .i32 n ∧ IntKind.i64.wrap n = n
 | .i64, v => ∃ n, v = .int .i64 n ∧ IntKind.i64.wrap n = n
 | .uuid, v => ∃ l : List UInt8, v = .agg (l.map zbf).toArray ∧ l.length = 16
 | .en _, v => ∃ n, v = .int .i8 n ∧ IntKind.i64.wrap n = n
def Txt.okV : Txt → Val → Prop
 | .str, .num v => ∃ l, v = strV l ∧ l.length < big
 | .nstr, .nstr o => (o.getD []).length < big
 | .byt, .oct o => (o.getD []).length < big
 | .nbyt, .oct o => (o.getD []).length < big
 | _, _ => False
mutual
def Ty.okV : Ty → Val → Prop
 | .pr k _, .num v => k.okV v
 | .txt k, v => k.okV v
 | .arr .., .nilA => True
 | .arr _ _ e, .arr sz l => sz = e.sz ∧ l.length < big ∧ ∀ v ∈ l, e.okV v
 | .row _ _ _ fs, .row l => fs.okV l
 | .tv _, v => Txt.nstr.okV v
 | _, _ => False
def El.okV : El → Val → Prop
 | .pr k, .num v => k.okV v
 | .txt k, v => k.okV v
 | .row _ _ _ fs, .row l => fs.okV l
 | _, _ => False
def Fds.okV : Fds → List Val → Prop
 | .nil, l => l = []
 | .tags, [.tags l] => l.length < big ∧ ∀ x ∈ l, x.2.length < big
 | .cons _ ty r, v :: l => ty.okV v ∧ r.okV l
 | _, _ => False
end
theorem znu (l : List UInt8) : zlf (.agg (l.map zbf).toArray) = l := by
 simp only [zlf, List.map_map]
 conv => rhs; rw [← List.map_id l]
 refine List.map_congr_left fun x _ => ?_
 simp [zbf]
theorem zmd (l : List UInt8) : zlf (strV l) = l := by simp [zlf, strV]
section
variable {P : Program} {N : Nums}
def NBx (a b bT bL bR : Nat) : Nat → Prop := fun k => NB a b k ∧ k ≠ bT ∧ k ≠ bL ∧ k ≠ bR
structure TF (w0 : World) (src : Value) (bT bL bR n i : Nat) (trs : List Tr) (σ : Env) (w : World) : Prop where
 f0 : σ 0 = src
 f1 : σ 1 = .pointer (some ⟨bR, 0, none⟩)
 f2 : σ 2 = .pointer (some ⟨bT, 0, none⟩)
 mod : Mod w0 w zp
 tc : w.rangeAt bT 0 [.int .i64 0, .slice none 0 0, .bool false, .slice (some ⟨bL, 0, none⟩) n n, .slice none 0 0]
 tt : w.there bT 0 5
 tl : w.there bL 0 (n * 5)
 res : ResAt w bR
 len : trs.length = i
 le : i ≤ n
 ex : ∃ css, w.rangeAt bL 0 (css.flatten ++ zs zT (n - i)) ∧ zcm w (NBx w0.heap.size w.heap.size bT bL bR) trs css
 lt : (w0.heap.size ≤ bT ∧ bT < w.heap.size) ∧ (w0.heap.size ≤ bL ∧ bL < w.heap.size) ∧ (w0.heap.size ≤ bR ∧ bR < w.heap.size) ∧ bT ≠ bL ∧ bT ≠ bR ∧ bL ≠ bR
theorem TF.env {w0 w : World} {src : Value} {bT bL bR n i : Nat} {trs : List Tr} {σ σ' : Env} (h : TF w0 src bT bL bR n i trs σ w) (e0 : σ' 0 = σ 0) (e1 : σ' 1 = σ 1) (e2 : σ' 2 = σ 2) : TF w0 src bT bL bR n i trs σ' w :=
 ⟨by rw [e0]; exact h.f0, by rw [e1]; exact h.f1, by rw [e2]; exact h.f2, h.mod, h.tc, h.tt, h.tl, h.res, h.len, h.le, h.ex, h.lt⟩
theorem TF.stay {w0 w w' : World} {src : Value} {bT bL bR n i : Nat} {trs : List Tr} {σ : Env} (h : TF w0 src bT bL bR n i trs σ w) (m : Mod w w' zp) : TF w0 src bT bL bR n i trs σ w' := by
 obtain ⟨f0, f1, f2, mod, tc, tt, tl, res, len, le, ⟨css, hr, hrep⟩, l1, l2, l3, l4⟩ := h
 have := m.size
 exact ⟨f0, f1, f2, mod.trans' m, zv m tc, m.there (by omega) tt, m.there (by omega) tl, ⟨zv m res.r, m.there (by omega) res.t⟩, len, le,
  ⟨css, zv m hr, zcm.mod m (fun k hk => ⟨hk.1.2, fun _ h => h, ⟨hk.1.1, by have := hk.1.2; omega⟩, hk.2⟩) trs hrep⟩, ⟨l1.1, by omega⟩, ⟨l2.1, by omega⟩, ⟨l3.1, by omega⟩, l4⟩
theorem zs_pos (z : List Value) (n : Nat) (h : 0 < n) : zs z n = z ++ zs z (n - 1) := by
 obtain ⟨m, rfl⟩ : ∃ m, n = m + 1 := ⟨n - 1, by omega⟩
 exact zs_succ z m
theorem flatten_n {l : List (List Value)} {n : Nat} (h : ∀ x ∈ l, x.length = n) : l.flatten.length = l.length * n := by
 induction l with
 | nil => simp
 | cons x l ih =>
  rw [List.flatten_cons, List.length_append, h x (by simp), ih fun y hy => h y (by simp [hy]), List.length_cons, Nat.add_mul]
  omega
theorem ziy (hI : zeu P N) {w0 w w7 : World} {src : Value} {bT bL bR n i : Nat} {trs : List Tr} {σ σ' : Env} {t : Tr} {cs : List Value} (h : TF w0 src bT bL bR n i trs σ w) (hi : i < n) (m : Mod w w7 zp) (hrep : RepT w7 (NB w.heap.size w7.heap.size) t cs)
  (e0 : σ' 0 = σ 0) (e1 : σ' 1 = σ 1) (e2 : σ' 2 = σ 2) :
  ∃ w8, (Instr.storeAt N.zy (.pointer (some ⟨bL, i * 5, none⟩)) (.agg cs.toArray)).run P w7 = .ok () w8 ∧ TF w0 src bT bL bR n (i + 1) (trs ++ [t]) σ' w8 := by
 obtain ⟨fs, hI1⟩ := hI.ti
 have hcl := hrep.len
 have h7 := (h.stay m).env e0 e1 e2
 obtain ⟨f0, f1, f2, mod, tc, tt, tl, res, len, le, ⟨css, hr, hreps⟩, l1, l2, l3, l4, l5, l6⟩ := h7
 have lw := h.lt
 have hcss : css.flatten.length = i * 5 := by rw [flatten_n hreps.len5, hreps.length, len]
 have h5 : w7.there bL (i * 5) 5 := fun j hj => by
  have := tl (i * 5 + j) (by have : (i + 1) * 5 ≤ n * 5 := Nat.mul_le_mul_right _ hi; omega)
  rwa [Nat.zero_add] at this
 have m8 : Mod w7 (w7.setCells bL (i * 5) cs) (rng bL (i * 5) 5) := Mod.setCells cs _ w7 fun _ k h1 h2 => ⟨rfl, h1, by omega⟩
 have s8 : (w7.setCells bL (i * 5) cs).heap.size = w7.heap.size := zdo _ _ _
 have s7 := m.size
 obtain ⟨w8, hw8⟩ : ∃ w8, w8 = w7.setCells bL (i * 5) cs := ⟨_, rfl⟩
 refine ⟨w8, by rw [hw8]; exact hI1.run_store (w := w7) (b := bL) (o := i * 5) (v := .agg cs.toArray) (cs := cs) rfl hcl h5 hrep.one, ?_⟩
 have q := zq.1 hr
 rw [hcss, Nat.zero_add, zs_pos _ _ (by omega)] at q
 have q2 := zak cs (i * 5) w7 _ q.2 (by simp [zT, hcl])
 rw [← hw8] at m8 s8 q2
 have hd : (zT ++ zs zT (n - i - 1)).drop cs.length = zs zT (n - (i + 1)) := by
  rw [hcl]
  show (zT ++ zs zT (n - i - 1)).drop zT.length = _
  rw [List.drop_left]; congr 1
 rw [hd] at q2
 refine ⟨f0, f1, f2, mod.fresh m8 fun k o e => by have := e.1; omega, m8.rangeAt (by omega) (fun i _ _ e => l4 e.1) tc, m8.there (by omega) tt, m8.there (by omega) tl, ⟨m8.rangeAt (by omega) (fun i _ _ e => l6 e.1.symm) res.r, m8.there (by omega) res.t⟩,
  by rw [List.length_append, len]; rfl, hi, ⟨css ++ [cs], ?_, ?_⟩, ⟨by omega, by omega⟩, ⟨by omega, by omega⟩, ⟨by omega, by omega⟩, l4, l5, l6⟩
 ·rw [List.flatten_append, List.append_assoc, zq]
  refine ⟨m8.rangeAt (by omega) (fun j h1 h2 e => by have := e.2.1; omega) q.1, ?_⟩
  rw [hcss, Nat.zero_add]
  simpa using q2
 ·refine (zcm.mod m8 (fun k hk => ⟨hk.1.2, fun o e => hk.2.2.1 e.1, ⟨hk.1.1, by have := hk.1.2; omega⟩, hk.2⟩) trs hreps).append ⟨cs, [], rfl, RepT.mod m8 (fun k hk => ⟨hk.2, fun o e => by have := e.1; have := hk.1; omega, ⟨by have := hk.1; omega, by have := hk.2; omega⟩, ?_⟩) t hrep, rfl⟩
  have := hk.1
  omega
end
section
variable {P : Program} {N : Nums}
def cTNum (N : Nums) (Tt idx ft i : Nat) : C := .draw [
 ⟨some 0, .fieldAddr N.zy (V 2) 3, 0, none, []⟩, ⟨some 1, .load N.zr (T 0), 0, none, [0]⟩, ⟨some 2, .move (V 0), 0, none, []⟩, ⟨some 3, .nilCheck (T 2), 0, none, [2]⟩, ⟨some 4, .fieldAddr Tt (T 3) idx, 0, none, [3]⟩, ⟨some 5, .load ft (T 4), 0, none, [4]⟩,
 ⟨some 6, .convert ft N.zbe (T 5), 0, none, [5]⟩, ⟨some 7, .build N.zy #[(0, T 6)], 0, none, [6]⟩,
 ⟨some 8, .indexAddr N.zr (T 1) (.const (.int .i64 i)), 0, none, [1, 0, 1, 2, 3, 4, 5, 6, 7]⟩, ⟨none, .store N.zy (T 8) (T 7), 0, none, [8, 7, 0, 1, 2, 3, 4, 5, 6, 7]⟩]
theorem zwv (B : Base P N) (F : Fns P N) (hI : zeu P N) {loc : List Nat} {N' : Nat} {Q : Exit → Env → World → Prop} {w0 w : World} {b oo off Tt idx bT bL bR n i : Nat} {trs : List Tr} {σ : Env} {ft : TypeId} {k : IntKind} {by' : Nat} {z : Value} {x : Int} (hft : TI P ft (.int k) 1 by' z) (hx : IntKind.i64.wrap x = x)
  (h : TF w0 (.pointer (some ⟨b, oo, none⟩)) bT bL bR n i trs σ w) (hi : i < n) (hT : HF P Tt idx off) (hc : w0.cell? ⟨b, oo + off, none⟩ = some (.int k x))
  (hQ : ∀ σ' w', TF w0 (.pointer (some ⟨b, oo, none⟩)) bT bL bR n (i + 1) (trs ++ [zdq x [] false]) σ' w' → Q .normal σ' w') : W P loc N' (cTNum N Tt idx ft i) Q σ w := by
 obtain ⟨fs, hI1⟩ := hI.ti
 have f0 := h.f0
 have f1 := h.f1
 have f2 := h.f2
 have cT : w.cell? ⟨bT, 3, none⟩ = some (.slice (some ⟨bL, 0, none⟩) n n) := h.tc 3 _ rfl
 have cF : w.cell? ⟨b, oo + off, none⟩ = some (.int k x) := by rw [h.mod.cell _ _ (zax (by rw [hc]; rfl)) (fun h => h)]; exact hc
 have st : ∀ {w' : World} {k o : Nat} {v : Value}, Mod w w' zp → w.cell? ⟨k, o, none⟩ = some v → w'.cell? ⟨k, o, none⟩ = some v := fun m hc => by rw [m.cell _ _ (zax (by rw [hc]; rfl)) (fun h => h)]; exact hc
 have md : Mod w w.drew zp := Mod.drew _ _
 refine zfx B.mixed [true, true, true, true, true, true, false, false, false, false] (by kernel_rfl) (fun w' => Mod w w' zp) md fun τ => ?_
 have e2 : zdm σ τ 102 = .pointer (some ⟨bT, 0, none⟩) := by rw [← f2]; exact envOf_var σ τ 2
 refine zc (.pointer (some ⟨bT, 3, none⟩)) (fun w' _ => zn (by
  simp +decide only [ev_tmp, e2, hI.h3.run])) rfl ?_
 refine zc (.slice (some ⟨bL, 0, none⟩) n n) (fun w' hw => zn (by
  simp +decide only [bE, BEq.rfl, ev_tmp, hI.lt.run_load1 rfl, st hw cT, ldc_some])) rfl ?_
 refine zc (.pointer (some ⟨b, oo, none⟩)) (fun w' hw => by
  rw [zat, ev_tmp]
  simp +decide only [bE, Nat.reduceBeqDiff, Nat.zero_add, f0]) rfl ?_
 refine zc (.pointer (some ⟨b, oo, none⟩)) (fun w' hw => rfl) rfl ?_
 refine zc (.pointer (some ⟨b, oo + off, none⟩)) (fun w' hw => zn (by
  simp +decide only [bE, BEq.rfl, ev_tmp, hT.run])) rfl ?_
 refine zc (.int k x) (fun w' hw => zn (by
  simp +decide only [bE, BEq.rfl, ev_tmp, hft.run_load1 rfl, st hw cF, ldc_some])) rfl ?_
 simp only [zde, zdd, List.zip_cons_cons, List.zip_nil_right, List.zipWith_cons_cons, List.zipWith_nil_right, List.filter, Bool.not_true, Bool.not_false, List.map, zdn]
 simp +decide only [bK, bE, Nat.reduceBeqDiff, BEq.rfl, zck hft B.int64 ⟨_, rfl⟩, hx]
 refine ⟨md, ?_⟩
 have e6 : ∀ ρ : Env, (#[(0, T 6)] : Array (Nat × Operand)).map (fun p => (p.1, ev ρ p.2)) = #[(0, ρ 6)] := fun ρ => by simp
 simp +decide only [bK, bE, BEq.rfl, e6, zwp hI]
 refine ⟨md, ?_⟩
 simp +decide only [bK, Nat.zero_add, zab hI.lt hI1 hi]
 refine ⟨md, ?_⟩
 obtain ⟨w8, hst, htf⟩ := ziy hI (w7 := w.drew) (σ' := σ) h hi md (zfk (n := x) (s := []) (nl := false) zhz) rfl rfl rfl
 simp +decide only [bK, hst]
 refine zf (K := fun σ' w' => Q .normal σ' w') fun σ9 hσ => hQ _ _ (htf.env ?_ ?_ ?_)
 ·rw [hσ 0]; simp +decide only [bE, Nat.reduceBeqDiff, Nat.zero_add]
 ·rw [hσ 1]; simp +decide only [bE, Nat.reduceBeqDiff, Nat.reduceAdd]
 ·rw [hσ 2]; simp +decide only [bE, Nat.reduceBeqDiff, Nat.reduceAdd]
def cTNum64 (N : Nums) (Tt idx ft i : Nat) : C := .draw [
 ⟨some 0, .fieldAddr N.zy (V 2) 3, 0, none, []⟩, ⟨some 1, .load N.zr (T 0), 0, none, [0]⟩, ⟨some 2, .move (V 0), 0, none, []⟩, ⟨some 3, .nilCheck (T 2), 0, none, [2]⟩, ⟨some 4, .fieldAddr Tt (T 3) idx, 0, none, [3]⟩, ⟨some 5, .load ft (T 4), 0, none, [4]⟩,
 ⟨some 6, .build N.zy #[(0, T 5)], 0, none, [5]⟩,
 ⟨some 7, .indexAddr N.zr (T 1) (.const (.int .i64 i)), 0, none, [1, 0, 1, 2, 3, 4, 5, 6]⟩, ⟨none, .store N.zy (T 7) (T 6), 0, none, [7, 6, 0, 1, 2, 3, 4, 5, 6]⟩]
theorem W_tNum64 (B : Base P N) (F : Fns P N) (hI : zeu P N) {loc : List Nat} {N' : Nat} {Q : Exit → Env → World → Prop} {w0 w : World} {b oo off Tt idx bT bL bR n i : Nat} {trs : List Tr} {σ : Env} {ft : TypeId} {by' : Nat} {z : Value} {x : Int} (hft : TI P ft (.int .i64) 1 by' z)
  (h : TF w0 (.pointer (some ⟨b, oo, none⟩)) bT bL bR n i trs σ w) (hi : i < n) (hT : HF P Tt idx off) (hc : w0.cell? ⟨b, oo + off, none⟩ = some (.int .i64 x))
  (hQ : ∀ σ' w', TF w0 (.pointer (some ⟨b, oo, none⟩)) bT bL bR n (i + 1) (trs ++ [zdq x [] false]) σ' w' → Q .normal σ' w') : W P loc N' (cTNum64 N Tt idx ft i) Q σ w := by
 obtain ⟨fs, hI1⟩ := hI.ti
 have f0 := h.f0
 have f1 := h.f1
 have f2 := h.f2
 have cT : w.cell? ⟨bT, 3, none⟩ = some (.slice (some ⟨bL, 0, none⟩) n n) := h.tc 3 _ rfl
 have cF : w.cell? ⟨b, oo + off, none⟩ = some (.int .i64 x) := by rw [h.mod.cell _ _ (zax (by rw [hc]; rfl)) (fun h => h)]; exact hc
 have st : ∀ {w' : World} {k o : Nat} {v : Value}, Mod w w' zp → w.cell? ⟨k, o, none⟩ = some v → w'.cell? ⟨k, o, none⟩ = some v := fun m hc => by rw [m.cell _ _ (zax (by rw [hc]; rfl)) (fun h => h)]; exact hc
 have md : Mod w w.drew zp := Mod.drew _ _
 refine zfx B.mixed [true, true, true, true, true, true, false, false, false] (by kernel_rfl) (fun w' => Mod w w' zp) md fun τ => ?_
 have e2 : zdm σ τ 102 = .pointer (some ⟨bT, 0, none⟩) := by rw [← f2]; exact envOf_var σ τ 2
 refine zc (.pointer (some ⟨bT, 3, none⟩)) (fun w' _ => zn (by
  simp +decide only [ev_tmp, e2, hI.h3.run])) rfl ?_
 refine zc (.slice (some ⟨bL, 0, none⟩) n n) (fun w' hw => zn (by
  simp +decide only [bE, BEq.rfl, ev_tmp, hI.lt.run_load1 rfl, st hw cT, ldc_some])) rfl ?_
 refine zc (.pointer (some ⟨b, oo, none⟩)) (fun w' hw => by
  rw [zat, ev_tmp]
  simp +decide only [bE, Nat.reduceBeqDiff, Nat.zero_add, f0]) rfl ?_
 refine zc (.pointer (some ⟨b, oo, none⟩)) (fun w' hw => rfl) rfl ?_
 refine zc (.pointer (some ⟨b, oo + off, none⟩)) (fun w' hw => zn (by
  simp +decide only [bE, BEq.rfl, ev_tmp, hT.run])) rfl ?_
 refine zc (.int .i64 x) (fun w' hw => zn (by
  simp +decide only [bE, BEq.rfl, ev_tmp, hft.run_load1 rfl, st hw cF, ldc_some])) rfl ?_
 simp only [zde, zdd, List.zip_cons_cons, List.zip_nil_right, List.zipWith_cons_cons, List.zipWith_nil_right, List.filter, Bool.not_true, Bool.not_false, List.map, zdn]
 have e6 : ∀ ρ : Env, (#[(0, T 5)] : Array (Nat × Operand)).map (fun p => (p.1, ev ρ p.2)) = #[(0, ρ 5)] := fun ρ => by simp
 simp +decide only [bK, bE, Nat.reduceBeqDiff, BEq.rfl, e6, zwp hI]
 refine ⟨md, ?_⟩
 simp +decide only [bK, Nat.zero_add, zab hI.lt hI1 hi]
 refine ⟨md, ?_⟩
 obtain ⟨w8, hst, htf⟩ := ziy hI (w7 := w.drew) (σ' := σ) h hi md (zfk (n := x) (s := []) (nl := false) zhz) rfl rfl rfl
 simp +decide only [bK, hst]
 refine zf (K := fun σ' w' => Q .normal σ' w') fun σ9 hσ => hQ _ _ (htf.env ?_ ?_ ?_)
 ·rw [hσ 0]; simp +decide only [bE, Nat.reduceBeqDiff, Nat.zero_add]
 ·rw [hσ 1]; simp +decide only [bE, Nat.reduceBeqDiff, Nat.reduceAdd]
 ·rw [hσ 2]; simp +decide only [bE, Nat.reduceBeqDiff, Nat.reduceAdd]
def cTStr (N : Nums) (Tt idx i : Nat) : C := .draw [
 ⟨some 0, .fieldAddr N.zy (V 2) 3, 0, none, []⟩, ⟨some 1, .load N.zr (T 0), 0, none, [0]⟩, ⟨some 2, .move (V 0), 0, none, []⟩, ⟨some 3, .nilCheck (T 2), 0, none, [2]⟩, ⟨some 4, .fieldAddr Tt (T 3) idx, 0, none, [3]⟩, ⟨some 5, .load N.zau (T 4), 0, none, [4]⟩,
 ⟨some 6, .convert N.zau N.za (T 5), 0, none, [5]⟩, ⟨some 7, .build N.zy #[(1, T 6)], 0, none, [6]⟩,
 ⟨some 8, .indexAddr N.zr (T 1) (.const (.int .i64 i)), 0, none, [1, 0, 1, 2, 3, 4, 5, 6, 7]⟩, ⟨none, .store N.zy (T 8) (T 7), 0, none, [8, 7, 0, 1, 2, 3, 4, 5, 6, 7]⟩]
theorem W_tStr (B : Base P N) (F : Fns P N) (hI : zeu P N) {loc : List Nat} {N' : Nat} {Q : Exit → Env → World → Prop} {w0 w : World} {b oo off Tt idx bT bL bR n i : Nat} {trs : List Tr} {σ : Env} {s : List UInt8}
  (h : TF w0 (.pointer (some ⟨b, oo, none⟩)) bT bL bR n i trs σ w) (hi : i < n) (hT : HF P Tt idx off) (hc : w0.cell? ⟨b, oo + off, none⟩ = some (strV s))
  (hQ : ∀ σ' w', TF w0 (.pointer (some ⟨b, oo, none⟩)) bT bL bR n (i + 1) (trs ++ [zdq 0 s false]) σ' w' → Q .normal σ' w') : W P loc N' (cTStr N Tt idx i) Q σ w := by
 obtain ⟨fs, hI1⟩ := hI.ti
 have f0 := h.f0
 have f1 := h.f1
 have f2 := h.f2
 have cT : w.cell? ⟨bT, 3, none⟩ = some (.slice (some ⟨bL, 0, none⟩) n n) := h.tc 3 _ rfl
 have cF : w.cell? ⟨b, oo + off, none⟩ = some (strV s) := by rw [h.mod.cell _ _ (zax (by rw [hc]; rfl)) (fun h => h)]; exact hc
 have st : ∀ {w' : World} {k o : Nat} {v : Value}, Mod w w' zp → w.cell? ⟨k, o, none⟩ = some v → w'.cell? ⟨k, o, none⟩ = some v := fun m hc => by rw [m.cell _ _ (zax (by rw [hc]; rfl)) (fun h => h)]; exact hc
 have md : Mod w w.drew zp := Mod.drew _ _
 refine zfx B.mixed [true, true, true, true, true, true, false, false, false, false] (by kernel_rfl) (fun w' => Mod w w' zp) md fun τ => ?_
 have e2 : zdm σ τ 102 = .pointer (some ⟨bT, 0, none⟩) := by rw [← f2]; exact envOf_var σ τ 2
 refine zc (.pointer (some ⟨bT, 3, none⟩)) (fun w' _ => zn (by
  simp +decide only [ev_tmp, e2, hI.h3.run])) rfl ?_
 refine zc (.slice (some ⟨bL, 0, none⟩) n n) (fun w' hw => zn (by
  simp +decide only [bE, BEq.rfl, ev_tmp, hI.lt.run_load1 rfl, st hw cT, ldc_some])) rfl ?_
 refine zc (.pointer (some ⟨b, oo, none⟩)) (fun w' hw => by
  rw [zat, ev_tmp]
  simp +decide only [bE, Nat.reduceBeqDiff, Nat.zero_add, f0]) rfl ?_
 refine zc (.pointer (some ⟨b, oo, none⟩)) (fun w' hw => rfl) rfl ?_
 refine zc (.pointer (some ⟨b, oo + off, none⟩)) (fun w' hw => zn (by
  simp +decide only [bE, BEq.rfl, ev_tmp, hT.run])) rfl ?_
 refine zc (strV s) (fun w' hw => zn (by
  simp +decide only [bE, BEq.rfl, ev_tmp, B.string.run_load1 rfl, st hw cF, ldc_some])) rfl ?_
 simp only [zde, zdd, List.zip_cons_cons, List.zip_nil_right, List.zipWith_cons_cons, List.zipWith_nil_right, List.filter, Bool.not_true, Bool.not_false, List.map, zdn]
 obtain ⟨v', w6, hconv, htv, m6⟩ := zjs B w.drew s
 have mw := md.trans' m6
 have nbw : ∀ k, NB w.drew.heap.size w6.heap.size k → NB w.heap.size w6.heap.size k := fun k h => h
 simp +decide only [bK, bE, Nat.reduceBeqDiff, BEq.rfl, hconv]
 refine ⟨mw, ?_⟩
 have e6 : ∀ ρ : Env, (#[(1, T 6)] : Array (Nat × Operand)).map (fun p => (p.1, ev ρ p.2)) = #[(1, ρ 6)] := fun ρ => by simp
 simp +decide only [bK, bE, BEq.rfl, e6, zlu hI _ htv.one]
 refine ⟨mw, ?_⟩
 simp +decide only [bK, Nat.zero_add, zab hI.lt hI1 hi]
 refine ⟨mw, ?_⟩
 obtain ⟨w8, hst, htf⟩ := ziy hI (w7 := w6) (σ' := σ) h hi mw (zfk (n := 0) (nl := false) (htv.imp (fun h => ⟨h.1, h.2⟩) fun h => h.mono nbw)) rfl rfl rfl
 simp +decide only [bK, hst]
 refine zf (K := fun σ' w' => Q .normal σ' w') fun σ9 hσ => hQ _ _ (htf.env ?_ ?_ ?_)
 ·rw [hσ 0]; simp +decide only [bE, Nat.reduceBeqDiff, Nat.zero_add]
 ·rw [hσ 1]; simp +decide only [bE, Nat.reduceBeqDiff, Nat.reduceAdd]
 ·rw [hσ 2]; simp +decide only [bE, Nat.reduceBeqDiff, Nat.reduceAdd]
def cTBool (N : Nums) (Tt idx i : Nat) : C := .draw [
 ⟨some 0, .fieldAddr N.zy (V 2) 3, 0, none, []⟩, ⟨some 1, .load N.zr (T 0), 0, none, [0]⟩, ⟨some 2, .move (V 0), 0, none, []⟩, ⟨some 3, .nilCheck (T 2), 0, none, [2]⟩, ⟨some 4, .fieldAddr Tt (T 3) idx, 0, none, [3]⟩, ⟨some 5, .load N.zah (T 4), 0, none, [4]⟩,
 ⟨some 6, .call ⟨.value (.func N.zhd), #[T 5], #[N.zah]⟩, N.zy, none, [5]⟩,
 ⟨some 7, .indexAddr N.zr (T 1) (.const (.int .i64 i)), 0, none, [1, 0, 1, 2, 3, 4, 5, 6]⟩, ⟨none, .store N.zy (T 7) (T 6), 0, none, [7, 6, 6, 0, 1, 2, 3, 4, 5, 6]⟩]
theorem W_tBool (B : Base P N) (F : Fns P N) (hI : zeu P N) {loc : List Nat} {N' : Nat} {Q : Exit → Env → World → Prop} {w0 w : World} {b oo off Tt idx bT bL bR n i : Nat} {trs : List Tr} {σ : Env} {x : Bool} (hN : N.zhd ≠ 0)
  (h : TF w0 (.pointer (some ⟨b, oo, none⟩)) bT bL bR n i trs σ w) (hi : i < n) (hT : HF P Tt idx off) (hc : w0.cell? ⟨b, oo + off, none⟩ = some (.bool x))
  (hQ : ∀ σ' w', TF w0 (.pointer (some ⟨b, oo, none⟩)) bT bL bR n (i + 1) (trs ++ [zdq (if x then 1 else 0) [] false]) σ' w' → Q .normal σ' w') : W P loc N' (cTBool N Tt idx i) Q σ w := by
 obtain ⟨fs, hI1⟩ := hI.ti
 have f0 := h.f0
 have f1 := h.f1
 have f2 := h.f2
 have cT : w.cell? ⟨bT, 3, none⟩ = some (.slice (some ⟨bL, 0, none⟩) n n) := h.tc 3 _ rfl
 have cF : w.cell? ⟨b, oo + off, none⟩ = some (.bool x) := by rw [h.mod.cell _ _ (zax (by rw [hc]; rfl)) (fun h => h)]; exact hc
 have st : ∀ {w' : World} {k o : Nat} {v : Value}, Mod w w' zp → w.cell? ⟨k, o, none⟩ = some v → w'.cell? ⟨k, o, none⟩ = some v := fun m hc => by rw [m.cell _ _ (zax (by rw [hc]; rfl)) (fun h => h)]; exact hc
 have md : Mod w w.drew zp := Mod.drew _ _
 refine zfx B.mixed [true, true, true, true, true, true, false, false, false] (by kernel_rfl) (fun w' => Mod w w' zp) md fun τ => ?_
 have e2 : zdm σ τ 102 = .pointer (some ⟨bT, 0, none⟩) := by rw [← f2]; exact envOf_var σ τ 2
 refine zc (.pointer (some ⟨bT, 3, none⟩)) (fun w' _ => zn (by
  simp +decide only [ev_tmp, e2, hI.h3.run])) rfl ?_
 refine zc (.slice (some ⟨bL, 0, none⟩) n n) (fun w' hw => zn (by
  simp +decide only [bE, BEq.rfl, ev_tmp, hI.lt.run_load1 rfl, st hw cT, ldc_some])) rfl ?_
 refine zc (.pointer (some ⟨b, oo, none⟩)) (fun w' hw => by
  rw [zat, ev_tmp]
  simp +decide only [bE, Nat.reduceBeqDiff, Nat.zero_add, f0]) rfl ?_
 refine zc (.pointer (some ⟨b, oo, none⟩)) (fun w' hw => rfl) rfl ?_
 refine zc (.pointer (some ⟨b, oo + off, none⟩)) (fun w' hw => zn (by
  simp +decide only [bE, BEq.rfl, ev_tmp, hT.run])) rfl ?_
 refine zc (.bool x) (fun w' hw => zn (by
  simp +decide only [bE, BEq.rfl, ev_tmp, B.bool.run_load1 rfl, st hw cF, ldc_some])) rfl ?_
 simp only [zde, zdd, List.zip_cons_cons, List.zip_nil_right, List.zipWith_cons_cons, List.zipWith_nil_right, List.filter, Bool.not_true, Bool.not_false, List.map, zdn]
 rw [zal (F.boolTree hN).has]
 simp +decide only [bK, bE, Nat.reduceBeqDiff, BEq.rfl]
 refine Call.mono (zuq B F hI hN w.drew x) ?_
 rintro _ w6 ⟨cs, rfl, hrep, m6⟩
 have mw := md.trans' m6
 refine ⟨mw, ?_⟩
 simp +decide only [bK, Nat.zero_add, zab hI.lt hI1 hi]
 refine ⟨mw, ?_⟩
 obtain ⟨w8, hst, htf⟩ := ziy hI (w7 := w6) (σ' := σ) h hi mw hrep rfl rfl rfl
 simp +decide only [bK, hst]
 refine zf (K := fun σ' w' => Q .normal σ' w') fun σ9 hσ => hQ _ _ (htf.env ?_ ?_ ?_)
 ·rw [hσ 0]; simp +decide only [bE, Nat.reduceBeqDiff, Nat.zero_add]
 ·rw [hσ 1]; simp +decide only [bE, Nat.reduceBeqDiff, Nat.reduceAdd]
 ·rw [hσ 2]; simp +decide only [bE, Nat.reduceBeqDiff, Nat.reduceAdd]
def cTOct (N : Nums) (Tt idx i : Nat) : C := .draw [
 ⟨some 0, .fieldAddr N.zy (V 2) 3, 0, none, []⟩, ⟨some 1, .load N.zr (T 0), 0, none, [0]⟩, ⟨some 2, .move (V 0), 0, none, []⟩, ⟨some 3, .nilCheck (T 2), 0, none, [2]⟩, ⟨some 4, .fieldAddr Tt (T 3) idx, 0, none, [3]⟩, ⟨some 5, .load N.za (T 4), 0, none, [4]⟩,
 ⟨some 6, .call ⟨.value (.func N.zfg), #[T 5], #[N.za]⟩, N.zy, none, [5]⟩,
 ⟨some 7, .indexAddr N.zr (T 1) (.const (.int .i64 i)), 0, none, [1, 0, 1, 2, 3, 4, 5, 6]⟩, ⟨none, .store N.zy (T 7) (T 6), 0, none, [7, 6, 6, 0, 1, 2, 3, 4, 5, 6]⟩]
theorem W_tOct (B : Base P N) (F : Fns P N) (hI : zeu P N) {loc : List Nat} {N' : Nat} {Q : Exit → Env → World → Prop} {w0 w : World} {b oo off Tt idx bT bL bR n i : Nat} {trs : List Tr} {σ : Env} {x : Option (List UInt8)} {v : Value} {G : Nat → Prop} (hN : N.zfg ≠ 0) (hG : ∀ k, G k → k < w0.heap.size) (hx : OctG w0 G v x) (hl : (x.getD []).length < 1099511627776)
  (h : TF w0 (.pointer (some ⟨b, oo, none⟩)) bT bL bR n i trs σ w) (hi : i < n) (hT : HF P Tt idx off) (hc : w0.cell? ⟨b, oo + off, none⟩ = some (v))
  (hQ : ∀ σ' w', TF w0 (.pointer (some ⟨b, oo, none⟩)) bT bL bR n (i + 1) (trs ++ [zdq 0 (x.getD []) x.isNone]) σ' w' → Q .normal σ' w') : W P loc N' (cTOct N Tt idx i) Q σ w := by
 obtain ⟨fs, hI1⟩ := hI.ti
 have f0 := h.f0
 have f1 := h.f1
 have f2 := h.f2
 have cT : w.cell? ⟨bT, 3, none⟩ = some (.slice (some ⟨bL, 0, none⟩) n n) := h.tc 3 _ rfl
 have cF : w.cell? ⟨b, oo + off, none⟩ = some (v) := by rw [h.mod.cell _ _ (zax (by rw [hc]; rfl)) (fun h => h)]; exact hc
 have st : ∀ {w' : World} {k o : Nat} {v : Value}, Mod w w' zp → w.cell? ⟨k, o, none⟩ = some v → w'.cell? ⟨k, o, none⟩ = some v := fun m hc => by rw [m.cell _ _ (zax (by rw [hc]; rfl)) (fun h => h)]; exact hc
 have md : Mod w w.drew zp := Mod.drew _ _
 refine zfx B.mixed [true, true, true, true, true, true, false, false, false] (by kernel_rfl) (fun w' => Mod w w' zp) md fun τ => ?_
 have e2 : zdm σ τ 102 = .pointer (some ⟨bT, 0, none⟩) := by rw [← f2]; exact envOf_var σ τ 2
 refine zc (.pointer (some ⟨bT, 3, none⟩)) (fun w' _ => zn (by
  simp +decide only [ev_tmp, e2, hI.h3.run])) rfl ?_
 refine zc (.slice (some ⟨bL, 0, none⟩) n n) (fun w' hw => zn (by
  simp +decide only [bE, BEq.rfl, ev_tmp, hI.lt.run_load1 rfl, st hw cT, ldc_some])) rfl ?_
 refine zc (.pointer (some ⟨b, oo, none⟩)) (fun w' hw => by
  rw [zat, ev_tmp]
  simp +decide only [bE, Nat.reduceBeqDiff, Nat.zero_add, f0]) rfl ?_
 refine zc (.pointer (some ⟨b, oo, none⟩)) (fun w' hw => rfl) rfl ?_
 refine zc (.pointer (some ⟨b, oo + off, none⟩)) (fun w' hw => zn (by
  simp +decide only [bE, BEq.rfl, ev_tmp, hT.run])) rfl ?_
 refine zc (v) (fun w' hw => zn (by
  simp +decide only [bE, BEq.rfl, ev_tmp, B.Lu8.run_load1 rfl, st hw cF, ldc_some])) rfl ?_
 simp only [zde, zdd, List.zip_cons_cons, List.zip_nil_right, List.zipWith_cons_cons, List.zipWith_nil_right, List.filter, Bool.not_true, Bool.not_false, List.map, zdn]
 rw [zal (F.octetsTree hN).has]
 simp +decide only [bK, bE, Nat.reduceBeqDiff, BEq.rfl]
 have m0 : Mod w0 w.drew zp := h.mod.trans' md
 have hG' : ∀ k, G k → k < w.drew.heap.size := fun k hk => by have := hG k hk; have := m0.size; omega
 refine Call.mono (zrn B F hI hN hG' (hx.stay m0) hl) ?_
 rintro _ w6 ⟨cs, rfl, hrep, m6⟩
 have mw := md.trans' m6
 refine ⟨mw, ?_⟩
 simp +decide only [bK, Nat.zero_add, zab hI.lt hI1 hi]
 refine ⟨mw, ?_⟩
 obtain ⟨w8, hst, htf⟩ := ziy hI (w7 := w6) (σ' := σ) h hi mw hrep rfl rfl rfl
 simp +decide only [bK, hst]
 refine zf (K := fun σ' w' => Q .normal σ' w') fun σ9 hσ => hQ _ _ (htf.env ?_ ?_ ?_)
 ·rw [hσ 0]; simp +decide only [bE, Nat.reduceBeqDiff, Nat.zero_add]
 ·rw [hσ 1]; simp +decide only [bE, Nat.reduceBeqDiff, Nat.reduceAdd]
 ·rw [hσ 2]; simp +decide only [bE, Nat.reduceBeqDiff, Nat.reduceAdd]
def cTNstr (N : Nums) (Tt idx i : Nat) : C := .draw [
 ⟨some 0, .fieldAddr N.zy (V 2) 3, 0, none, []⟩, ⟨some 1, .load N.zr (T 0), 0, none, [0]⟩, ⟨some 2, .move (V 0), 0, none, []⟩, ⟨some 3, .nilCheck (T 2), 0, none, [2]⟩, ⟨some 4, .fieldAddr Tt (T 3) idx, 0, none, [3]⟩, ⟨some 5, .load N.zcb (T 4), 0, none, [4]⟩,
 ⟨some 6, .call ⟨.value (.func N.zgc), #[T 5], #[N.zcb]⟩, N.zy, none, [5]⟩,
 ⟨some 7, .indexAddr N.zr (T 1) (.const (.int .i64 i)), 0, none, [1, 0, 1, 2, 3, 4, 5, 6]⟩, ⟨none, .store N.zy (T 7) (T 6), 0, none, [7, 6, 6, 0, 1, 2, 3, 4, 5, 6]⟩]
theorem W_tNstr (B : Base P N) (F : Fns P N) (hI : zeu P N) {loc : List Nat} {N' : Nat} {Q : Exit → Env → World → Prop} {w0 w : World} {b oo off Tt idx bT bL bR n i : Nat} {trs : List Tr} {σ : Env} {x : Option (List UInt8)} {v : Value} {G : Nat → Prop} (hN : N.zgc ≠ 0) (hp : N.zcb ≠ 0) (hG : ∀ k, G k → k < w0.heap.size) (hx : Rep w0 G (.nstr x) [v])
  (h : TF w0 (.pointer (some ⟨b, oo, none⟩)) bT bL bR n i trs σ w) (hi : i < n) (hT : HF P Tt idx off) (hc : w0.cell? ⟨b, oo + off, none⟩ = some (v))
  (hQ : ∀ σ' w', TF w0 (.pointer (some ⟨b, oo, none⟩)) bT bL bR n (i + 1) (trs ++ [zdq 0 (x.getD []) x.isNone]) σ' w' → Q .normal σ' w') : W P loc N' (cTNstr N Tt idx i) Q σ w := by
 obtain ⟨fs, hI1⟩ := hI.ti
 have f0 := h.f0
 have f1 := h.f1
 have f2 := h.f2
 have cT : w.cell? ⟨bT, 3, none⟩ = some (.slice (some ⟨bL, 0, none⟩) n n) := h.tc 3 _ rfl
 have cF : w.cell? ⟨b, oo + off, none⟩ = some (v) := by rw [h.mod.cell _ _ (zax (by rw [hc]; rfl)) (fun h => h)]; exact hc
 have st : ∀ {w' : World} {k o : Nat} {v : Value}, Mod w w' zp → w.cell? ⟨k, o, none⟩ = some v → w'.cell? ⟨k, o, none⟩ = some v := fun m hc => by rw [m.cell _ _ (zax (by rw [hc]; rfl)) (fun h => h)]; exact hc
 have md : Mod w w.drew zp := Mod.drew _ _
 refine zfx B.mixed [true, true, true, true, true, true, false, false, false] (by kernel_rfl) (fun w' => Mod w w' zp) md fun τ => ?_
 have e2 : zdm σ τ 102 = .pointer (some ⟨bT, 0, none⟩) := by rw [← f2]; exact envOf_var σ τ 2
 refine zc (.pointer (some ⟨bT, 3, none⟩)) (fun w' _ => zn (by
  simp +decide only [ev_tmp, e2, hI.h3.run])) rfl ?_
 refine zc (.slice (some ⟨bL, 0, none⟩) n n) (fun w' hw => zn (by
  simp +decide only [bE, BEq.rfl, ev_tmp, hI.lt.run_load1 rfl, st hw cT, ldc_some])) rfl ?_
 refine zc (.pointer (some ⟨b, oo, none⟩)) (fun w' hw => by
  rw [zat, ev_tmp]
  simp +decide only [bE, Nat.reduceBeqDiff, Nat.zero_add, f0]) rfl ?_
 refine zc (.pointer (some ⟨b, oo, none⟩)) (fun w' hw => rfl) rfl ?_
 refine zc (.pointer (some ⟨b, oo + off, none⟩)) (fun w' hw => zn (by
  simp +decide only [bE, BEq.rfl, ev_tmp, hT.run])) rfl ?_
 refine zc (v) (fun w' hw => zn (by
  simp +decide only [bE, BEq.rfl, ev_tmp, (B.pstring hp).run_load1 rfl, st hw cF, ldc_some])) rfl ?_
 simp only [zde, zdd, List.zip_cons_cons, List.zip_nil_right, List.zipWith_cons_cons, List.zipWith_nil_right, List.filter, Bool.not_true, Bool.not_false, List.map, zdn]
 rw [zal (F.textTree hN).has]
 simp +decide only [bK, bE, Nat.reduceBeqDiff, BEq.rfl]
 have m0 : Mod w0 w.drew zp := h.mod.trans' md
 have hG' : ∀ k, G k → k < w.drew.heap.size := fun k hk => by have := hG k hk; have := m0.size; omega
 obtain ⟨v', hv', hcall⟩ := zup B F hI hN hp hG' (Rep.mod m0 (fun k hk => ⟨hG k hk, fun _ h => h, hk⟩) _ hx)
 have hvv : v' = v := by injection hv' with e _; exact e.symm
 subst hvv
 refine Call.mono hcall ?_
 rintro _ w6 ⟨cs, rfl, hrep, m6⟩
 have mw := md.trans' m6
 refine ⟨mw, ?_⟩
 simp +decide only [bK, Nat.zero_add, zab hI.lt hI1 hi]
 refine ⟨mw, ?_⟩
 obtain ⟨w8, hst, htf⟩ := ziy hI (w7 := w6) (σ' := σ) h hi mw hrep rfl rfl rfl
 simp +decide only [bK, hst]
 refine zf (K := fun σ' w' => Q .normal σ' w') fun σ9 hσ => hQ _ _ (htf.env ?_ ?_ ?_)
 ·rw [hσ 0]; simp +decide only [bE, Nat.reduceBeqDiff, Nat.zero_add]
 ·rw [hσ 1]; simp +decide only [bE, Nat.reduceBeqDiff, Nat.reduceAdd]
 ·rw [hσ 2]; simp +decide only [bE, Nat.reduceBeqDiff, Nat.reduceAdd]
end
section
variable {P : Program} {N : Nums}
structure TL (w0 : World) (src : Value) (bT bL bR n i : Nat) (trs : List Tr) (lo : Nat) (nl : Bool) (v : Value) (ts : List Tr) (σ : Env) (w : World) : Prop where
 f0 : σ 0 = src
 f1 : σ 1 = .pointer (some ⟨bR, 0, none⟩)
 f2 : σ 2 = .pointer (some ⟨bT, 0, none⟩)
 mod : Mod w0 w zp
 tc : w.rangeAt bT 0 [.int .i64 0, .slice none 0 0, .bool false, .slice (some ⟨bL, 0, none⟩) n n, .slice none 0 0]
 tt : w.there bT 0 5
 tl : w.there bL 0 (n * 5)
 res : ResAt w bR
 len : trs.length = i
 le : i < n
 ex : ∃ css csl, w.rangeAt bL 0 (css.flatten ++ ([.int .i64 0, .slice none 0 0, .bool nl, v, .slice none 0 0] ++ zs zT (n - (i + 1)))) ∧ zcm w (NBx w0.heap.size lo bT bL bR) trs css ∧
  Own w lo 5 v ts.length csl.flatten ∧ zcm w (GX (fun _ => False) lo w v) ts csl
 lt : (w0.heap.size ≤ bT ∧ bT < lo) ∧ (w0.heap.size ≤ bL ∧ bL < lo) ∧ (w0.heap.size ≤ bR ∧ bR < lo) ∧ lo ≤ w.heap.size ∧ bT ≠ bL ∧ bT ≠ bR ∧ bL ≠ bR
theorem TL.env {w0 w : World} {src v : Value} {bT bL bR n i lo : Nat} {nl : Bool} {trs ts : List Tr} {σ σ' : Env} (h : TL w0 src bT bL bR n i trs lo nl v ts σ w) (e0 : σ' 0 = σ 0) (e1 : σ' 1 = σ 1) (e2 : σ' 2 = σ 2) : TL w0 src bT bL bR n i trs lo nl v ts σ' w :=
 ⟨by rw [e0]; exact h.f0, by rw [e1]; exact h.f1, by rw [e2]; exact h.f2, h.mod, h.tc, h.tt, h.tl, h.res, h.len, h.le, h.ex, h.lt⟩
theorem TL.blk {w0 w : World} {src v : Value} {bT bL bR n i lo : Nat} {nl : Bool} {trs ts : List Tr} {σ : Env} (h : TL w0 src bT bL bR n i trs lo nl v ts σ w) {k : Nat} (hk : ¬ zao v k) : lo ≤ k ∧ k < w.heap.size := by
 obtain ⟨css, csl, _, _, ho, _⟩ := h.ex
 exact ho.blk hk
theorem TL.cellT {w0 w : World} {src v : Value} {bT bL bR n i lo : Nat} {nl : Bool} {trs ts : List Tr} {σ : Env} (h : TL w0 src bT bL bR n i trs lo nl v ts σ w) : w.cell? ⟨bT, 3, none⟩ = some (.slice (some ⟨bL, 0, none⟩) n n) := h.tc 3 _ rfl
theorem TL.cellL {w0 w : World} {src v : Value} {bT bL bR n i lo : Nat} {nl : Bool} {trs ts : List Tr} {σ : Env} (h : TL w0 src bT bL bR n i trs lo nl v ts σ w) : w.cell? ⟨bL, i * 5 + 3, none⟩ = some v := by
 obtain ⟨css, csl, hr, hrep, _, _⟩ := h.ex
 have hl : css.flatten.length = i * 5 := by rw [zio hrep.len5, hrep.length, h.len]
 have := (zq.1 hr).2
 rw [hl, Nat.zero_add] at this
 exact this 3 v rfl
theorem TL.move {w0 w w' : World} {src v v' : Value} {bT bL bR n i lo : Nat} {nl : Bool} {trs ts ts' : List Tr} {σ : Env} (h : TL w0 src bT bL bR n i trs lo nl v ts σ w) (m : Mod w w' fun k o => lo ≤ k ∨ (k = bL ∧ o = i * 5 + 3)) (hc : w'.cell? ⟨bL, i * 5 + 3, none⟩ = some v')
  (hex : ∃ csl, Own w' lo 5 v' ts'.length csl.flatten ∧ zcm w' (GX (fun _ => False) lo w' v') ts' csl) : TL w0 src bT bL bR n i trs lo nl v' ts' σ w' := by
 obtain ⟨f0, f1, f2, mod, tc, tt, tl, res, len, le, ⟨css, csl, hr, hrep, ho, hts⟩, l1, l2, l3, l4, l5, l6, l7⟩ := h
 have hs := m.size
 obtain ⟨csl', ho', hts'⟩ := hex
 have hl : css.flatten.length = i * 5 := by rw [zio hrep.len5, hrep.length, len]
 have noT : ∀ o, ¬ (lo ≤ bT ∨ (bT = bL ∧ o = i * 5 + 3)) := fun o h => by omega
 have noR : ∀ o, ¬ (lo ≤ bR ∨ (bR = bL ∧ o = i * 5 + 3)) := fun o h => by omega
 refine ⟨f0, f1, f2, ?_, m.rangeAt (by omega) (fun _ _ _ => noT _) tc, m.there (by omega) tt, m.there (by omega) tl, ⟨m.rangeAt (by omega) (fun _ _ _ => noR _) res.r, m.there (by omega) res.t⟩, len, le, ⟨css, csl', ?_, ?_, ho', hts'⟩, l1, l2, l3, by omega, l5, l6, l7⟩
 ·exact mod.trans m fun k o hk h => h.elim id fun h => h.elim (fun h => by omega) fun h => by omega
 ·have q := zq.1 hr
  rw [hl, Nat.zero_add] at q
  have q2 := (zq (cs := [.int .i64 0, .slice none 0 0, .bool nl]) (ds := v :: .slice none 0 0 :: zs zT (n - (i + 1)))).1 q.2
  have q3 := (zq (cs := [v]) (ds := .slice none 0 0 :: zs zT (n - (i + 1)))).1 q2.2
  rw [zq, hl, Nat.zero_add]
  refine ⟨m.rangeAt (by omega) (fun j h1 h2 h => by rcases h with h | h <;> omega) q.1, ?_⟩
  refine (zq (cs := [.int .i64 0, .slice none 0 0, .bool nl]) (ds := v' :: .slice none 0 0 :: zs zT (n - (i + 1)))).2 ⟨m.rangeAt (by omega) (fun j h1 h2 h => by simp at h2; rcases h with h | h <;> omega) q2.1, ?_⟩
  refine (zq (cs := [v']) (ds := .slice none 0 0 :: zs zT (n - (i + 1)))).2 ⟨zfw.2 hc, m.rangeAt (by omega) (fun j h1 h2 h => by simp at h1; rcases h with h | h <;> omega) q3.2⟩
 ·exact zcm.mod m (fun k hk => ⟨by have := hk.1.2; omega, fun o e => by
   have a := hk.1.2
   have b := hk.2.2.1
   rcases e with e | e
   ·omega
   ·exact b e.1, hk⟩) trs hrep
theorem TF.list {w0 w : World} {src : Value} {bT bL bR n i : Nat} {trs : List Tr} {σ : Env} (h : TF w0 src bT bL bR n i trs σ w) (hi : i < n) (nl : Bool) :
  w.there bL (i * 5 + 2) 1 ∧ TL w0 src bT bL bR n i trs w.heap.size nl (.slice none 0 0) [] σ (w.setCell ⟨bL, i * 5 + 2, none⟩ (.bool nl)) := by
 obtain ⟨f0, f1, f2, mod, tc, tt, tl, res, len, le, ⟨css, hr, hrep⟩, l1, l2, l3, l4⟩ := h
 have m : Mod w (w.setCell ⟨bL, i * 5 + 2, none⟩ (.bool nl)) (rng bL (i * 5 + 2) 1) := Mod.setCell fun _ => ⟨rfl, Nat.le_refl _, by omega⟩
 have hs : (w.setCell ⟨bL, i * 5 + 2, none⟩ (.bool nl)).heap.size = w.heap.size := by simp [World.setCell]
 have hl : css.flatten.length = i * 5 := by rw [zio hrep.len5, hrep.length, len]
 have q := zq.1 hr
 rw [hl, Nat.zero_add, zs_pos _ _ (by omega)] at q
 have q2 := (zq (cs := [.int .i64 0, .slice none 0 0]) (ds := .bool false :: .slice none 0 0 :: .slice none 0 0 :: zs zT (n - i - 1))).1 q.2
 have q3 := zak [.bool nl] (i * 5 + 2) w _ q2.2 (by simp)
 refine ⟨fun j hj => ?_, f0, f1, f2, mod.fresh m fun k o e => by have := e.1; omega, m.rangeAt (by omega) (fun _ _ _ e => l4.1 e.1) tc, m.there (by omega) tt, m.there (by omega) tl, ⟨m.rangeAt (by omega) (fun _ _ _ e => l4.2.2 e.1.symm) res.r, m.there (by omega) res.t⟩, len, hi,
  ⟨css, [], ?_, ?_, .inl ⟨rfl, rfl, rfl⟩, by simp only [zcm]⟩, l1, l2, l3, by rw [hs]; exact Nat.le_refl _, l4⟩
 ·have := tl (i * 5 + 2 + j) (by have : (i + 1) * 5 ≤ n * 5 := Nat.mul_le_mul_right _ hi; omega)
  rwa [Nat.zero_add] at this
 ·rw [zq, hl, Nat.zero_add]
  refine ⟨m.rangeAt (by omega) (fun j h1 h2 e => by have := e.2.1; omega) q.1, ?_⟩
  have q4 : (w.setCell ⟨bL, i * 5 + 2, none⟩ (.bool nl)).rangeAt bL (i * 5 + 2) (.bool nl :: .slice none 0 0 :: .slice none 0 0 :: zs zT (n - (i + 1))) := by
   have e : n - i - 1 = n - (i + 1) := by omega
   rw [e] at q3
   exact q3
  refine (zq (cs := [.int .i64 0, .slice none 0 0]) (ds := .bool nl :: .slice none 0 0 :: .slice none 0 0 :: zs zT (n - (i + 1)))).2 ⟨m.rangeAt (by omega) (fun j h1 h2 e => by have := e.2.1; simp at h2; omega) q2.1, ?_⟩
  exact q4
 ·exact zcm.mod m (fun k hk => ⟨hk.1.2, fun o e => hk.2.2.1 e.1, hk⟩) trs hrep
theorem TL.done {w0 w : World} {src v : Value} {bT bL bR n i lo : Nat} {nl : Bool} {trs ts : List Tr} {σ : Env} (h : TL w0 src bT bL bR n i trs lo nl v ts σ w) : TF w0 src bT bL bR n (i + 1) (trs ++ [.mk 0 [] nl ts []]) σ w := by
 obtain ⟨f0, f1, f2, mod, tc, tt, tl, res, len, le, ⟨css, csl, hr, hrep, ho, hts⟩, l1, l2, l3, l4, l5⟩ := h
 have hms := mod.size
 refine ⟨f0, f1, f2, mod, tc, tt, tl, res, by rw [List.length_append, len]; rfl, le, ⟨css ++ [[.int .i64 0, .slice none 0 0, .bool nl, v, .slice none 0 0]], ?_, ?_⟩, ⟨l1.1, by omega⟩, ⟨l2.1, by omega⟩, ⟨l3.1, by omega⟩, l5⟩
 ·rw [List.flatten_append, List.append_assoc]
  simpa using hr
 ·refine (zcm.mono (fun k hk => ⟨⟨hk.1.1, by have := hk.1.2; omega⟩, hk.2⟩) trs hrep).append ⟨_, [], rfl, ?_, rfl⟩
  have key : ∀ k, lo ≤ k → k < w.heap.size → NBx w0.heap.size w.heap.size bT bL bR k := fun k h1 h2 => ⟨⟨by omega, h2⟩, by omega, by omega, by omega⟩
  simp only [RepT]
  refine ⟨_, v, _, rfl, zhz, ?_, .inl ⟨rfl, rfl⟩⟩
  rcases ho with ⟨e1, e2, _⟩ | ⟨b, c, e1, g1, g2, g3, _, g5, _⟩
  ·exact .inl ⟨e1, List.length_eq_zero_iff.1 e2⟩
  ·exact .inr ⟨b, c, csl, e1, g3, fun _ => key b g1 g2, zcm.mono (fun k hk => hk.elim False.elim fun hk => key k hk.1 hk.2.1) ts hts, g5⟩
end
section
variable {P : Program} {N : Nums}
theorem TL.cellStore (hI : zeu P N) {w0 w w8 : World} {src v v' : Value} {bT bL bR n i lo : Nat} {nl : Bool} {trs ts : List Tr} {σ : Env} (h : TL w0 src bT bL bR n i trs lo nl v ts σ w) (m : Mod w w8 fun k _ => ¬ zao v k) (hone : v'.oneCell' = true) :
  ∃ w9, (Instr.storeAt N.zr (.pointer (some ⟨bL, i * 5 + 3, none⟩)) v').run P w8 = .ok () w9 ∧ Mod w8 w9 (fun k o => k = bL ∧ o = i * 5 + 3) ∧ w9.cell? ⟨bL, i * 5 + 3, none⟩ = some v' ∧ w9.heap.size = w8.heap.size := by
 have lt := h.lt
 have hi := h.le
 have nb : ¬ ¬ zao v bL := fun hk => by have := (h.blk hk).1; omega
 have t8 : w8.there bL (i * 5 + 3) 1 := fun j hj => by
  have := (m.there (by omega) h.tl : w8.there bL 0 (n * 5)) (i * 5 + 3 + j) (by have : (i + 1) * 5 ≤ n * 5 := Nat.mul_le_mul_right _ hi; omega)
  rwa [Nat.zero_add] at this
 have c8 : w8.cell? ⟨bL, i * 5 + 3, none⟩ = some v := by rw [m.cell _ _ (by omega) nb]; exact h.cellL
 exact ⟨_, hI.lt.run_store1 (w := w8) (b := bL) (o := i * 5 + 3) (v := v') hone t8, Mod.setCell fun _ => ⟨rfl, rfl⟩, World.cell?_setCell_same _ _ _ c8, by simp [World.setCell]⟩
theorem TL.push {w0 w w6 w7 w8 w9 : World} {src v v' : Value} {bT bL bR n i lo a : Nat} {nl : Bool} {trs ts : List Tr} {σ : Env} {t : Tr} {cs : List Value} (h : TL w0 src bT bL bR n i trs lo nl v ts σ w)
  (m6 : Mod w w6 zp) (ha : w.heap.size ≤ a) (hrep : RepT w6 (NB a w6.heap.size) t cs) (m7 : Mod w6 w7 zp) (m8 : Mod w7 w8 fun k _ => ¬ zao v k) (hnb : ∀ k, k < w7.heap.size → zao v k → zao v' k) (m9 : Mod w8 w9 fun k o => k = bL ∧ o = i * 5 + 3)
  (hc : w9.cell? ⟨bL, i * 5 + 3, none⟩ = some v') {csl : List (List Value)} (hts : zcm w (GX (fun _ => False) lo w v) ts csl) (ho : Own w9 lo 5 v' (ts ++ [t]).length (csl ++ [cs]).flatten) :
  TL w0 src bT bL bR n i trs lo nl v' (ts ++ [t]) σ w9 := by
 have lt := h.lt
 have m9' : Mod w8 w9 fun k _ => k = bL := m9.mono fun _ _ _ h => h.1
 obtain ⟨q1, q2, q3, q4⟩ := zol (w := w) (w6 := w6) (w7 := w7) (w8 := w8) (w9 := w9) (G := fun _ => False) (lo := lo) (v := v) (v' := v') (b3 := bL) (a := a) (fun _ h => h.elim) (by omega) (by omega) m6 ha m7 m8 m9' (fun k hk => h.blk hk) hnb
 refine h.move ?_ hc ?_
 ·exact (((m6.mono fun _ _ _ h => h.elim).trans' (m7.mono fun _ _ _ h => h.elim)).trans' (m8.mono fun k o _ hk => .inl (h.blk hk).1)).trans' (m9.mono fun _ _ _ h => .inr h)
 ·exact ⟨csl ++ [cs], ho, (zcm.mod q1 q2 ts hts).append ⟨cs, [], rfl, RepT.mod q3 (fun k hk => q4 k (.inr hk)) t hrep, rfl⟩⟩
theorem znv (hI : zeu P N) {w0 w w6 : World} {src v : Value} {bT bL bR n i lo a : Nat} {nl : Bool} {trs ts : List Tr} {σ : Env} {t : Tr} {cs : List Value} (h : TL w0 src bT bL bR n i trs lo nl v ts σ w) (hlen : ts.length + 1 < 1099511627776)
  (m6 : Mod w w6 zp) (ha : w.heap.size ≤ a) (hrep : RepT w6 (NB a w6.heap.size) t cs) :
  ∃ w7 v' w8 w9, (Instr.buildSlice N.zr 1 #[(0, .agg cs.toArray)]).run P w6 = .ok (.slice (some ⟨w6.heap.size, 0, none⟩) 1 1) w7 ∧
   (Builtin.append_ #[N.zr, N.zr] N.zr #[v, .slice (some ⟨w6.heap.size, 0, none⟩) 1 1]).run P w7 = .ok v' w8 ∧ (Instr.storeAt N.zr (.pointer (some ⟨bL, i * 5 + 3, none⟩)) v').run P w8 = .ok () w9 ∧
   Mod w w7 (fun k _ => ¬ zao v k) ∧ Mod w w8 (fun k _ => ¬ zao v k) ∧ TL w0 src bT bL bR n i trs lo nl v' (ts ++ [t]) σ w9 := by
 obtain ⟨fs, hI1⟩ := hI.ti
 have hcl := hrep.len
 have lt := h.lt
 have s6 := m6.size
 have hbs := zfl (w := w6) (v := .agg cs.toArray) (cs := cs) hI.lt hI1 rfl hcl (by decide) (by decide)
 obtain ⟨w7, hw7⟩ : ∃ w7, w7 = w6.alloc (.cells cs.toArray N.zy) := ⟨_, rfl⟩
 have m7 : Mod w6 w7 zp := by rw [hw7]; exact Mod.alloc _ _ _
 have s7 : w7.heap.size = w6.heap.size + 1 := by rw [hw7]; exact zan _ _
 have r7 : w7.rangeAt w6.heap.size 0 cs := by rw [hw7]; exact zw w6 _ _ _
 rw [← hw7] at hbs
 clear hw7
 have m07 : Mod w w7 zp := m6.trans' m7
 obtain ⟨css, csl, _, _, hown, hts⟩ := h.ex
 have ho7 : Own w7 lo 5 v ts.length csl.flatten := hown.stay m07 fun _ _ _ h => h
 obtain ⟨v', w8, happ, ho8, m8, hone', hnb⟩ := zfv (P := P) (ty := N.zr) (m := 1) (cb := 1) hI.lt hI1 ho7 r7 (by rw [hcl]) hrep.one (by omega) rfl (zcm.ones hts) (by omega) (by decide) (by decide)
 have m08 : Mod w w8 (fun k _ => ¬ zao v k) := (m07.mono fun _ _ _ h => h.elim).trans' m8
 obtain ⟨w9, hst, m9, c9, s9⟩ := h.cellStore hI m08 hone'
 refine ⟨w7, v', w8, w9, hbs, happ, hst, m07.mono fun _ _ _ h => h.elim, m08, h.push m6 ha hrep m7 m8 hnb m9 c9 hts ?_⟩
 rw [List.flatten_append, List.length_append]
 have := ho8.stay m9 fun k o hk e => by have := (ho8.blk hk).1; have := e.1; omega
 simpa using this
theorem zmc (hI : zeu P N) {w0 w w6 : World} {src v : Value} {bT bL bR n i lo a bz : Nat} {nl : Bool} {trs ts : List Tr} {σ : Env} {t : Tr} {cs : List Value} (h : TL w0 src bT bL bR n i trs lo nl v ts σ w) (hlen : ts.length + 1 < 1099511627776)
  (m6 : Mod w w6 zp) (ha : w.heap.size ≤ a) (hrep : RepT w6 (NB a w6.heap.size) t cs) (hz : w6.rangeAt bz 0 zT) :
  ∃ bv c w8 w9 w10, (Builtin.append_ #[N.zr, N.zr] N.zr #[v, .slice (some ⟨bz, 0, none⟩) 1 1]).run P w6 = .ok (.slice (some ⟨bv, 0, none⟩) (ts.length + 1) c) w8 ∧ (Instr.storeAt N.zr (.pointer (some ⟨bL, i * 5 + 3, none⟩)) (.slice (some ⟨bv, 0, none⟩) (ts.length + 1) c)).run P w8 = .ok () w9 ∧
   Mod w w8 (fun k _ => ¬ zao v k) ∧ (Instr.storeAt N.zy (.pointer (some ⟨bv, ts.length * 5, none⟩)) (.agg cs.toArray)).run P w9 = .ok () w10 ∧ TL w0 src bT bL bR n i trs lo nl (.slice (some ⟨bv, 0, none⟩) (ts.length + 1) c) (ts ++ [t]) σ w10 := by
 obtain ⟨fs, hI1⟩ := hI.ti
 have hcl := hrep.len
 have lt := h.lt
 have s6 := m6.size
 obtain ⟨css, csl, _, _, hown, hts⟩ := h.ex
 have ho7 : Own w6 lo 5 v ts.length csl.flatten := hown.stay m6 fun _ _ _ h => h
 obtain ⟨v', w8, happ, ho8, m8, hone', hnb⟩ := zfv (P := P) (ty := N.zr) (m := 1) (cb := 1) hI.lt hI1 ho7 hz rfl (fun c hc => by
  simp [zT] at hc; rcases hc with rfl | rfl | rfl | rfl <;> rfl) (by omega) rfl (zcm.ones hts) (by omega) (by decide) (by decide)
 have m08 : Mod w w8 (fun k _ => ¬ zao v k) := (m6.mono fun _ _ _ h => h.elim).trans' m8
 obtain ⟨w9, hst, m9, c9, s9⟩ := h.cellStore hI m08 hone'
 have ho9 : Own w9 lo 5 v' (ts.length + 1) (csl.flatten ++ zT) := ho8.stay m9 fun k o hk e => by have := (ho8.blk hk).1; have := e.1; omega
 obtain ⟨bv, c, rfl, g1, g2, g3, g4, g5, g6⟩ : ∃ bv c, v' = .slice (some ⟨bv, 0, none⟩) (ts.length + 1) c ∧ lo ≤ bv ∧ bv < w9.heap.size ∧ ts.length + 1 ≤ c ∧ w9.there bv 0 (c * 5) ∧ w9.rangeAt bv 0 (csl.flatten ++ zT) ∧ (csl.flatten ++ zT).length = (ts.length + 1) * 5 := by
  rcases ho9 with ⟨_, e, _⟩ | h
  ·omega
  ·exact h
 have hfl : csl.flatten.length = ts.length * 5 := by rw [zio hts.len5, hts.length]
 have t5 : w9.there bv (ts.length * 5) 5 := fun j hj => by
  have := g4 (ts.length * 5 + j) (by have : (ts.length + 1) * 5 ≤ c * 5 := Nat.mul_le_mul_right _ g3; omega)
  rwa [Nat.zero_add] at this
 have m10 : Mod w9 (w9.setCells bv (ts.length * 5) cs) (rng bv (ts.length * 5) 5) := Mod.setCells cs _ w9 fun _ k h1 h2 => ⟨rfl, h1, by omega⟩
 have s10 : (w9.setCells bv (ts.length * 5) cs).heap.size = w9.heap.size := zdo _ _ _
 have hst10 := hI1.run_store (w := w9) (b := bv) (o := ts.length * 5) (v := .agg cs.toArray) (cs := cs) rfl hcl t5 hrep.one
 have q := zq.1 g5
 rw [hfl, Nat.zero_add] at q
 have q2 := zak cs (ts.length * 5) w9 _ q.2 (by rw [hcl]; exact Nat.le_refl _)
 rw [List.drop_of_length_le (by rw [hcl]; exact Nat.le_refl _), List.append_nil] at q2
 obtain ⟨w10, hw10⟩ : ∃ w10, w10 = w9.setCells bv (ts.length * 5) cs := ⟨_, rfl⟩
 rw [← hw10] at m10 s10 hst10 q2
 clear hw10
 refine ⟨bv, c, w8, w9, w10, happ, hst, m08, hst10, ?_⟩
 have s8 := m8.size
 have hbv : ∀ k, k = bv → ¬ zao (.slice (some ⟨bv, 0, none⟩) (ts.length + 1) c) k := fun k e hn => hn bv 0 none _ _ rfl e
 have m9' : Mod w8 w9 fun k _ => k = bL := m9.mono fun _ _ _ h => h.1
 obtain ⟨r1, r2, r3, r4⟩ := zol (w := w) (w6 := w6) (w7 := w6) (w8 := w8) (w9 := w9) (G := fun _ => False) (lo := lo) (v := v) (v' := .slice (some ⟨bv, 0, none⟩) (ts.length + 1) c) (b3 := bL) (a := a) (fun _ h => h.elim) (by omega) (by omega) m6 ha (.refl _ _) m8 m9' (fun k hk => h.blk hk) hnb
 have fin : ∀ k, GX (fun _ => False) lo w9 (.slice (some ⟨bv, 0, none⟩) (ts.length + 1) c) k → k < w9.heap.size ∧ (∀ o, ¬ rng bv (ts.length * 5) 5 k o) ∧ GX (fun _ => False) lo w10 (.slice (some ⟨bv, 0, none⟩) (ts.length + 1) c) k := fun k hk => by
  rcases hk with hk | hk
  ·exact hk.elim
  ·exact ⟨hk.2.1, fun o e => hbv k e.1 hk.2.2, .inr ⟨hk.1, by have := hk.2.1; omega, hk.2.2⟩⟩
 refine h.move ?_ ?_ ⟨csl ++ [cs], ?_, (zcm.mod m10 fin ts (zcm.mod r1 r2 ts hts)).append ⟨cs, [], rfl, RepT.mod m10 fin t (RepT.mod r3 (fun k hk => r4 k (.inr hk)) t hrep), rfl⟩⟩
 ·exact (((m6.mono fun _ _ _ h => h.elim).trans' (m8.mono fun k o _ hk => .inl (h.blk hk).1)).trans' (m9.mono fun _ _ _ h => .inr h)).trans' (m10.mono fun k o _ e => .inl (by have := e.1; omega))
 ·rw [m10.cell _ _ (by omega) (fun e => by have := e.1; omega)]; exact c9
 ·refine .inr ⟨bv, c, by simp, g1, by omega, by simpa using g3, m10.there g2 g4, ?_, by simp [hfl, hcl]; omega⟩
  rw [List.flatten_append, zq, hfl, Nat.zero_add]
  exact ⟨m10.rangeAt g2 (fun j h1 h2 e => by have := e.2.1; omega) q.1, by simpa using q2⟩
end
structure Rw where
 dst : Option Nat
 tmps : List Nat
 after : List Nat
 sel : Bool
 deriving Inhabited
def rowOf (o : ROp) : Rw := ⟨o.dst, zfm o, o.after, zxr o.op⟩
def Rw.ren (f : Nat → Nat) (r : Rw) : Rw := ⟨r.dst.map f, r.tmps.map f, r.after, r.sel⟩
def pairT (l : List Rw) (rd : Nat → Bool) (i j : Nat) : Bool :=
 match (l.getD i ⟨none, [], [], false⟩).dst with
 | none => true
 | some d =>
  if i == j then !(l.getD j ⟨none, [], [], false⟩).tmps.contains d
  else (match (l.getD j ⟨none, [], [], false⟩).dst with | some d' => !(Nat.beq d' d) | none => true) &&
   (!(l.getD j ⟨none, [], [], false⟩).tmps.contains d || ((l.getD j ⟨none, [], [], false⟩).after.contains i && (!rd j || rd i)))
def planT (l : List Rw) (rd : Nat → Bool) : Bool :=
 (l.zipIdx.all fun (r, i) => r.after.all fun e => Nat.blt e i) && l.all (fun r => !r.sel) && (List.range l.length).all fun i => (List.range l.length).all fun j => pairT l rd i j
theorem getD_row (l : List ROp) {i : Nat} (hi : i < l.length) : rowOf (l.getD i default) = (l.map rowOf).getD i ⟨none, [], [], false⟩ := by
 simp [List.getD, hi]
theorem plan2_of_T {l : List ROp} {rd : Nat → Bool} (h : planT (l.map rowOf) rd = true) : znj l rd = true := by
 unfold planT at h
 unfold znj
 rw [Bool.and_eq_true, Bool.and_eq_true] at h ⊢
 obtain ⟨⟨h1, h2⟩, h3⟩ := h
 refine ⟨⟨?_, ?_⟩, ?_⟩
 ·unfold zry
  rw [List.zipIdx_map, List.all_map] at h1
  exact h1
 ·rw [List.all_map] at h2; exact h2
 ·rw [List.all_eq_true] at h3 ⊢
  intro i hi
  have h4 := h3 i (by simpa using hi)
  rw [List.all_eq_true] at h4 ⊢
  intro j hj
  have h5 := h4 j (by simpa using hj)
  unfold pairT at h5
  rw [← getD_row l (by simpa using hi), ← getD_row l (by simpa using hj)] at h5
  exact h5
theorem zpt {f : Nat → Nat} (hf : ∀ a b, f a = f b → a = b) (d : Nat) : ∀ (l : List Nat), (l.map f).contains (f d) = l.contains d
 | [] => rfl
 | x :: l => by
  rw [List.map_cons, List.contains_cons, List.contains_cons, zpt hf d l]
  congr 1
  rw [Bool.eq_iff_iff, beq_iff_eq, beq_iff_eq]
  exact ⟨hf _ _, fun e => by rw [e]⟩
theorem planT_ren {f : Nat → Nat} (hf : ∀ a b, f a = f b → a = b) (t : List Rw) (rd : Nat → Bool) : planT (t.map (Rw.ren f)) rd = planT t rd := by
 have hg : ∀ i, (t.map (Rw.ren f)).getD i ⟨none, [], [], false⟩ = (t.getD i ⟨none, [], [], false⟩).ren f := fun i => by
  simp only [List.getD, List.getElem?_map]
  cases t[i]? <;> rfl
 have e3 : ∀ i j, pairT (t.map (Rw.ren f)) rd i j = pairT t rd i j := fun i j => by
  unfold pairT
  rw [hg, hg]
  cases hd : (t.getD i ⟨none, [], [], false⟩).dst with
  | none => simp only [Rw.ren, hd, Option.map_none]
  | some d =>
   simp only [Rw.ren, hd, Option.map_some, zpt hf]
   cases hd' : (t.getD j ⟨none, [], [], false⟩).dst with
   | none => rfl
   | some d' =>
    simp only [Option.map_some]
    have : Nat.beq (f d') (f d) = Nat.beq d' d := by
     rw [Bool.eq_iff_iff]
     simp only [Nat.beq_eq]
     exact ⟨hf _ _, fun e => by rw [e]⟩
    rw [this]
 unfold planT
 rw [List.zipIdx_map, List.all_map, List.all_map, List.length_map]
 simp only [e3]
 rfl
def sh (q t : Nat) : Nat := if t < 106 then t else q + t
theorem sh_inj (q : Nat) : ∀ a b, sh q a = sh q b → a = b := fun a b h => by
 unfold sh at h
 split at h <;> split at h <;> omega
theorem zia {l0 l : List ROp} {rd : Nat → Bool} (q : Nat) (h0 : planT (l0.map rowOf) rd = true) (he : l.map rowOf = (l0.map rowOf).map (Rw.ren (sh q))) : znj l rd = true :=
 plan2_of_T (by rw [he, planT_ren (sh_inj q)]; exact h0)
section
variable {P : Program} {N : Nums}
theorem zfr {Cw : World → Prop} {l : List ROp} {rd : Nat → Bool} {K : Env → World → Prop} {f : Nat} {C : List Nat} {ρ : Env} {w : World} (R : List Nat) (hR : C.filter (fun i => (l.getD i default).after.all fun e => !C.contains e) = R)
  (h : ∀ i ∈ R, zbn P (l.getD i default) ρ w fun ρ w => (znl l rd i = true ∨ Cw w) ∧ anyC P Cw l rd K f (C.erase i) ρ w) : anyC P Cw l rd K (f + 1) C ρ w := by
 intro i hi
 refine h i ?_
 rw [← hR, List.mem_filter]
 refine ⟨hi.1, ?_⟩
 rw [List.all_eq_true]
 intro e he
 have := hi.2 e he
 simpa using this
theorem zgm {ρ : Env} {k t : Nat} {v : Value} (h : k < 100) (ht : 100 ≤ t) : put ρ (some k) v t = ρ t := by
 show (if t = k then v else ρ t) = ρ t
 rw [if_neg (by omega)]
def lApp (N : Nums) (Tt idx ft f pT i p : Nat) : List ROp := [
 ⟨some 0, .fieldAddr N.zy (V 2) 3, 0, none, []⟩, ⟨some 1, .load N.zr (T 0), 0, none, [0]⟩, ⟨some 2, .fieldAddr N.zy (V 2) 3, 0, none, []⟩, ⟨some 3, .load N.zr (T 2), 0, none, [2]⟩,
 ⟨some 4, .indexAddr N.zr (T 3) (.const (.int .i64 i)), 0, none, [3]⟩, ⟨some 5, .fieldAddr N.zy (T 4) 3, 0, none, [4]⟩, ⟨some 6, .load N.zr (T 5), 0, none, [5]⟩,
 ⟨some 7, .move (V 0), 0, none, []⟩, ⟨some 8, .nilCheck (T 7), 0, none, [7]⟩, ⟨some 9, .fieldAddr Tt (T 8) idx, 0, none, [8]⟩, ⟨some 10, .load ft (T 9), 0, none, [9]⟩, ⟨some 11, .move (V p), 0, none, []⟩, ⟨some 12, .indexAddr ft (T 10) (T 11), 0, none, [10, 11]⟩,
 ⟨some 13, .call ⟨.value (.func f), #[T 12], #[pT]⟩, N.zy, none, [12]⟩, ⟨some 14, .buildSlice N.zr 1 #[(0, T 13)], 0, none, [13]⟩, ⟨some 15, .call ⟨.builtin .append, #[T 6, T 14], #[N.zr, N.zr]⟩, N.zr, none, [6, 14, 13]⟩,
 ⟨some 16, .indexAddr N.zr (T 1) (.const (.int .i64 i)), 0, none, [1, 0, 1, 2, 3, 4, 5, 6, 7, 8, 9, 10, 11, 12, 13, 14, 15]⟩, ⟨some 17, .fieldAddr N.zy (T 16) 3, 0, none, [16, 0, 1, 2, 3, 4, 5, 6, 7, 8, 9, 10, 11, 12, 13, 14, 15]⟩,
 ⟨none, .store N.zr (T 17) (T 15), 0, none, [17, 15, 15, 0, 1, 2, 3, 4, 5, 6, 7, 8, 9, 10, 11, 12, 13, 14, 15]⟩]
structure LSrc (P : Program) (w0 : World) (b oo off Tt idx ft be L c sz et : Nat) : Prop where
 hT : HF P Tt idx off
 cell : w0.cell? ⟨b, oo + off, none⟩ = some (.slice (some ⟨be, 0, none⟩) L c)
 lt : TI P ft (.slice et) 1 24 (.slice none 0 0)
 et : ∃ d by' z, TI P et d sz by' z
theorem W_appRow (B : Base P N) (hI : zeu P N) {loc : List Nat} {N' : Nat} {Q : Exit → Env → World → Prop} {w0 w : World} {b oo off Tt idx ft be L c sz et bT bL bR n i lo f pT q j : Nat} {nl : Bool} {v : Value} {trs ts : List Tr} {t : Tr} {σ : Env}
  (h : TL w0 (.pointer (some ⟨b, oo, none⟩)) bT bL bR n i trs lo nl v ts σ w) (hs : LSrc P w0 b oo off Tt idx ft be L c sz et) (hlen : ts.length + 1 < 1099511627776) (hp : σ (q + 6) = .int .i64 j) (hj : j < L)
  (hf : zcx P f) (hcall : ∀ w1, Mod w0 w1 zp → Call P f #[.pointer (some ⟨be, j * sz, none⟩)] w1 (Told w1 t))
  (hQ : ∀ v' w', TL w0 (.pointer (some ⟨b, oo, none⟩)) bT bL bR n i trs lo nl v' (ts ++ [t]) σ w' → Q .normal σ w') : W P loc N' (.draw (lApp N Tt idx ft f pT i (q + 6))) Q σ w := by
 obtain ⟨fs, hI1⟩ := hI.ti
 obtain ⟨hT, hc0, hlt, _, _, _, het⟩ := hs
 have f0 := h.f0
 have f1 := h.f1
 have f2 := h.f2
 have lt := h.lt
 have hi := h.le
 have hms := h.mod.size
 have keep : ∀ {w' : World} {k o : Nat} {u : Value}, Mod w w' (fun k _ => ¬ zao v k) → k < lo → w.cell? ⟨k, o, none⟩ = some u → w'.cell? ⟨k, o, none⟩ = some u := fun m hk hc => by
  rw [m.cell _ _ (zax (by rw [hc]; rfl)) (fun hn => by have := (h.blk hn).1; omega)]; exact hc
 have hb0 : b < w0.heap.size := zax (by rw [hc0]; rfl)
 have cF : w.cell? ⟨b, oo + off, none⟩ = some (.slice (some ⟨be, 0, none⟩) L c) := by rw [h.mod.cell _ _ hb0 (fun h => h)]; exact hc0
 have cT := h.cellT
 have cL := h.cellL
 have md : Mod w w.drew zp := Mod.drew _ _
 have md' : Mod w w.drew (fun k _ => ¬ zao v k) := Mod.drew _ _
 refine ziu B.mixed [true, true, true, true, true, true, true, true, true, true, true, true, true, false, false, false, false, false, false] rfl (zia (l0 := lApp N Tt idx ft f pT i 6) q (by kernel_rfl) rfl) (fun w' => Mod w w' (fun k _ => ¬ zao v k)) md' fun τ => ?_
 have e2 : zdm σ τ 102 = .pointer (some ⟨bT, 0, none⟩) := by rw [← f2]; exact envOf_var σ τ 2
 have e0 : zdm σ τ 100 = .pointer (some ⟨b, oo, none⟩) := by rw [← f0]; exact envOf_var σ τ 0
 have ep : zdm σ τ (q + 6 + 100) = .int .i64 j := by rw [← hp]; exact envOf_var σ τ (q + 6)
 refine zc (.pointer (some ⟨bT, 3, none⟩)) (fun w' _ => zn (by simp +decide only [ev_tmp, e2, hI.h3.run])) rfl ?_
 refine zc (.slice (some ⟨bL, 0, none⟩) n n) (fun w' hw => zn (by simp +decide only [bE, BEq.rfl, ev_tmp, hI.lt.run_load1 rfl, keep hw (show bT < lo by omega) cT, ldc_some])) rfl ?_
 refine zc (.pointer (some ⟨bT, 3, none⟩)) (fun w' _ => zn (by simp +decide only [bE, Nat.reduceBeqDiff, Nat.reduceAdd, Nat.zero_add, ev_tmp, f2, hI.h3.run])) rfl ?_
 refine zc (.slice (some ⟨bL, 0, none⟩) n n) (fun w' hw => zn (by simp +decide only [bE, BEq.rfl, ev_tmp, hI.lt.run_load1 rfl, keep hw (show bT < lo by omega) cT, ldc_some])) rfl ?_
 refine zc (.pointer (some ⟨bL, i * 5, none⟩)) (fun w' _ => zn (by simp +decide only [bE, BEq.rfl, Nat.zero_add, ev_tmp, ev_const, zab hI.lt hI1 hi])) rfl ?_
 refine zc (.pointer (some ⟨bL, i * 5 + 3, none⟩)) (fun w' _ => zn (by simp +decide only [bE, BEq.rfl, ev_tmp, hI.h3.run])) rfl ?_
 refine zc v (fun w' hw => zn (by simp +decide only [bE, BEq.rfl, ev_tmp, hI.lt.run_load1 rfl, keep hw (show bL < lo by omega) cL, ldc_some])) rfl ?_
 refine zc (.pointer (some ⟨b, oo, none⟩)) (fun w' _ => by rw [zat, ev_tmp]; simp +decide only [bE, Nat.reduceBeqDiff, Nat.zero_add, f0]) rfl ?_
 refine zc (.pointer (some ⟨b, oo, none⟩)) (fun w' hw => rfl) rfl ?_
 refine zc (.pointer (some ⟨b, oo + off, none⟩)) (fun w' _ => zn (by simp +decide only [bE, BEq.rfl, ev_tmp, hT.run])) rfl ?_
 refine zc (.slice (some ⟨be, 0, none⟩) L c) (fun w' hw => zn (by simp +decide only [bE, BEq.rfl, ev_tmp, hlt.run_load1 rfl, keep hw (show b < lo by omega) cF, ldc_some])) rfl ?_
 refine zc (.int .i64 j) (fun w' _ => by rw [zat, ev_tmp]; simp +decide (disch := omega) only [zgm, ep]) rfl ?_
 refine zc (.pointer (some ⟨be, j * sz, none⟩)) (fun w' _ => zn (by simp +decide only [bE, Nat.reduceBeqDiff, BEq.rfl, Nat.zero_add, ev_tmp, zab hlt het hj])) rfl ?_
 simp only []
 show anyC P _ _ _ _ [13, 14, 15, 16, 17, 18].length [13, 14, 15, 16, 17, 18] _ _
 refine zch _ _ _ (by kernel_rfl) (by decide) (fun k hk => by simp at hk; subst hk; kernel_rfl) ?_
 simp only [lApp, List.map, List.getD_cons_zero, List.getD_cons_succ, zdn]
 rw [zal hf]
 simp +decide only [bK, bE, Nat.reduceBeqDiff, BEq.rfl]
 refine Call.mono (Rt' := _) (hcall w.drew (h.mod.trans' md)) ?_
 rintro _ w6 ⟨cs, rfl, hrep, m6d⟩
 have m6 : Mod w w6 zp := md.trans' m6d
 obtain ⟨w7, v', w8, w9, hbs, happ, hst, m7, m8, hTL⟩ := znv hI h hlen m6 (Nat.le_refl _) hrep
 refine ⟨m6.mono fun _ _ _ h => h.elim, ?_⟩
 have e9 : ∀ ρ : Env, (#[(0, T 13)] : Array (Nat × Operand)).map (fun p => (p.1, ev ρ p.2)) = #[(0, ρ 13)] := fun ρ => by simp
 simp +decide only [bK, bE, BEq.rfl, e9, hbs]
 refine ⟨m7, ?_⟩
 simp +decide only [bK, happ]
 refine ⟨m8, ?_⟩
 simp +decide only [bK, Nat.zero_add, zab hI.lt hI1 hi]
 refine ⟨m8, ?_⟩
 simp +decide only [bK, hI.h3.run]
 refine ⟨m8, ?_⟩
 simp +decide only [bK, hst]
 refine zf (K := fun σ' w' => Q .normal σ' w') fun σ9 hσ => ?_
 have e : σ9 = σ := by
  funext k
  rw [hσ k]
  simp +decide (disch := omega) only [zgm, envOf_var]
 rw [e]
 exact hQ _ _ hTL
end
section
variable {P : Program} {N : Nums}
def zTop : Operand := .const (.agg #[(.int .i64 0), (.slice none 0 0), (.bool false), (.slice none 0 0), (.slice none 0 0)])
def lApp0 (N : Nums) (Tt idx ft f pT i p : Nat) : List ROp := [
 ⟨some 0, .fieldAddr N.zy (V 2) 3, 0, none, []⟩, ⟨some 1, .load N.zr (T 0), 0, none, [0]⟩, ⟨some 2, .indexAddr N.zr (T 1) (.const (.int .i64 i)), 0, none, [1]⟩, ⟨some 3, .fieldAddr N.zy (T 2) 3, 0, none, [2]⟩, ⟨some 4, .load N.zr (T 3), 0, none, [3]⟩,
 ⟨some 5, .move (V 0), 0, none, []⟩, ⟨some 6, .nilCheck (T 5), 0, none, [5]⟩, ⟨some 7, .fieldAddr Tt (T 6) idx, 0, none, [6]⟩, ⟨some 8, .load ft (T 7), 0, none, [7]⟩, ⟨some 9, .move (V p), 0, none, []⟩, ⟨some 10, .indexAddr ft (T 8) (T 9), 0, none, [8, 9]⟩,
 ⟨some (p + 2 + 100), .call ⟨.value (.func f), #[T 10], #[pT]⟩, N.zy, none, [10]⟩, ⟨some (p + 3 + 100), .call ⟨.builtin .len, #[T 4], #[N.zr]⟩, N.ze, none, [4]⟩, ⟨some 13, .buildSlice N.zr 1 #[(0, zTop)], 0, none, []⟩,
 ⟨some (p + 4 + 100), .call ⟨.builtin .append, #[T 4, T 13], #[N.zr, N.zr]⟩, N.zr, none, [4, 13, 11, 0, 1, 2, 3, 4, 5, 6, 7, 8, 9, 10, 11, 12, 13]⟩,
 ⟨some 15, .indexAddr N.zr (T 1) (.const (.int .i64 i)), 0, none, [1, 0, 1, 2, 3, 4, 5, 6, 7, 8, 9, 10, 11, 12, 13, 14]⟩, ⟨some 16, .fieldAddr N.zy (T 15) 3, 0, none, [15, 0, 1, 2, 3, 4, 5, 6, 7, 8, 9, 10, 11, 12, 13, 14]⟩,
 ⟨none, .store N.zr (T 16) (V (p + 4)), 0, none, [16, 14, 14, 0, 1, 2, 3, 4, 5, 6, 7, 8, 9, 10, 11, 12, 13, 14]⟩]
def cPut (N : Nums) (p : Nat) : C := .ops [⟨some 0, .indexAddr N.zr (V (p + 4)) (V (p + 3)), 0, none, []⟩, ⟨none, .store N.zy (T 0) (V (p + 2)), 0, none, []⟩]
theorem zam {ρ : Env} {k t : Nat} {v : Value} (h : t ≠ k) : put ρ (some k) v t = ρ t := by
 show (if t = k then v else ρ t) = ρ t
 rw [if_neg h]
theorem zbc {ρ : Env} {k : Nat} {v : Value} : put ρ (some k) v k = v := by
 show (if k = k then v else ρ k) = v
 rw [if_pos rfl]
theorem TL.lenV (hI : zeu P N) {w0 w : World} {src v : Value} {bT bL bR n i lo : Nat} {nl : Bool} {trs ts : List Tr} {σ : Env} (h : TL w0 src bT bL bR n i trs lo nl v ts σ w) {ty : TypeId} {w' : World} : (Builtin.len_ #[N.zr] ty #[v]).run P w' = .ok (.int .i64 ts.length) w' := by
 obtain ⟨css, csl, _, _, ho, _⟩ := h.ex
 refine zmu hI.lt ?_
 rcases ho with ⟨e, e2, _⟩ | ⟨b, c, e, _⟩
 ·exact .inl ⟨e, e2⟩
 ·exact .inr ⟨b, c, e⟩
theorem W_put (hI : zeu P N) {loc : List Nat} {N' : Nat} {Q : Exit → Env → World → Prop} {w9 w10 : World} {bv L c p : Nat} {cs : List Value} {σ : Env} (h2 : σ (p + 2) = .agg cs.toArray) (h3 : σ (p + 3) = .int .i64 L) (h4 : σ (p + 4) = .slice (some ⟨bv, 0, none⟩) (L + 1) c)
  (hst : (Instr.storeAt N.zy (.pointer (some ⟨bv, L * 5, none⟩)) (.agg cs.toArray)).run P w9 = .ok () w10) (hQ : Q .normal σ w10) : W P loc N' (cPut N p) Q σ w9 := by
 obtain ⟨fs, hI1⟩ := hI.ti
 unfold cPut
 refine zaa fun τ => ?_
 have e2 : ∀ v, put (zdm σ τ) (some 0) v (p + 2 + 100) = .agg cs.toArray := fun v => by rw [zgm (by omega) (by omega), envOf_var, h2]
 simp +decide only [runR, zej, zec, ev_tmp, envOf_var, h3, h4, zab hI.lt hI1 (show L < L + 1 by omega), Nat.zero_add, stepV_ok, zbc, e2, hst, stepU_ok]
 have e : locs (put (zdm σ τ) (some 0) (.pointer (some ⟨bv, L * 5, none⟩))) = σ := by rw [zff (by decide), locs_envOf]
 rw [e]; exact hQ
theorem W_app0Row (B : Base P N) (hI : zeu P N) {loc : List Nat} {N' : Nat} {Q : Exit → Env → World → Prop} {w0 w : World} {b oo off Tt idx ft be L c sz et bT bL bR n i lo f pT q j : Nat} {nl : Bool} {v : Value} {trs ts : List Tr} {t : Tr} {σ : Env}
  (h : TL w0 (.pointer (some ⟨b, oo, none⟩)) bT bL bR n i trs lo nl v ts σ w) (hs : LSrc P w0 b oo off Tt idx ft be L c sz et) (hlen : ts.length + 1 < 1099511627776) (hp : σ (q + 6) = .int .i64 j) (hj : j < L)
  (hf : zcx P f) (hcall : ∀ w1, Mod w0 w1 zp → Call P f #[.pointer (some ⟨be, j * sz, none⟩)] w1 (Told w1 t))
  (hQ : ∀ σ' v' w', (∀ k, k < q + 8 → σ' k = σ k) → TL w0 (.pointer (some ⟨b, oo, none⟩)) bT bL bR n i trs lo nl v' (ts ++ [t]) σ' w' → Q .normal σ' w') : W P loc N' (.seq (.draw (lApp0 N Tt idx ft f pT i (q + 6))) (cPut N (q + 6))) Q σ w := by
 obtain ⟨fs, hI1⟩ := hI.ti
 obtain ⟨hT, hc0, hlt, _, _, _, het⟩ := hs
 have f0 := h.f0
 have f1 := h.f1
 have f2 := h.f2
 have lt := h.lt
 have hi := h.le
 have hms := h.mod.size
 have keep : ∀ {w' : World} {k o : Nat} {u : Value}, Mod w w' (fun k _ => ¬ zao v k) → k < lo → w.cell? ⟨k, o, none⟩ = some u → w'.cell? ⟨k, o, none⟩ = some u := fun m hk hc => by
  rw [m.cell _ _ (zax (by rw [hc]; rfl)) (fun hn => by have := (h.blk hn).1; omega)]; exact hc
 have hb0 : b < w0.heap.size := zax (by rw [hc0]; rfl)
 have cF : w.cell? ⟨b, oo + off, none⟩ = some (.slice (some ⟨be, 0, none⟩) L c) := by rw [h.mod.cell _ _ hb0 (fun h => h)]; exact hc0
 have cT := h.cellT
 have cL := h.cellL
 have md : Mod w w.drew zp := Mod.drew _ _
 have md' : Mod w w.drew (fun k _ => ¬ zao v k) := Mod.drew _ _
 refine zd fun K hK => ziu B.mixed [true, true, true, true, true, true, true, true, true, true, true, false, true, false, false, false, false, false] rfl (zia (l0 := lApp0 N Tt idx ft f pT i 6) q (by kernel_rfl) rfl) (fun w' => Mod w w' (fun k _ => ¬ zao v k)) md' fun τ => ?_
 have e2 : zdm σ τ 102 = .pointer (some ⟨bT, 0, none⟩) := by rw [← f2]; exact envOf_var σ τ 2
 have ep : zdm σ τ (q + 6 + 100) = .int .i64 j := by rw [← hp]; exact envOf_var σ τ (q + 6)
 refine zc (.pointer (some ⟨bT, 3, none⟩)) (fun w' _ => zn (by simp +decide only [ev_tmp, e2, hI.h3.run])) rfl ?_
 refine zc (.slice (some ⟨bL, 0, none⟩) n n) (fun w' hw => zn (by simp +decide only [bE, BEq.rfl, ev_tmp, hI.lt.run_load1 rfl, keep hw (show bT < lo by omega) cT, ldc_some])) rfl ?_
 refine zc (.pointer (some ⟨bL, i * 5, none⟩)) (fun w' _ => zn (by simp +decide only [bE, BEq.rfl, Nat.zero_add, ev_tmp, ev_const, zab hI.lt hI1 hi])) rfl ?_
 refine zc (.pointer (some ⟨bL, i * 5 + 3, none⟩)) (fun w' _ => zn (by simp +decide only [bE, BEq.rfl, ev_tmp, hI.h3.run])) rfl ?_
 refine zc v (fun w' hw => zn (by simp +decide only [bE, BEq.rfl, ev_tmp, hI.lt.run_load1 rfl, keep hw (show bL < lo by omega) cL, ldc_some])) rfl ?_
 refine zc (.pointer (some ⟨b, oo, none⟩)) (fun w' _ => by rw [zat, ev_tmp]; simp +decide only [bE, Nat.reduceBeqDiff, Nat.zero_add, f0]) rfl ?_
 refine zc (.pointer (some ⟨b, oo, none⟩)) (fun w' hw => rfl) rfl ?_
 refine zc (.pointer (some ⟨b, oo + off, none⟩)) (fun w' _ => zn (by simp +decide only [bE, BEq.rfl, ev_tmp, hT.run])) rfl ?_
 refine zc (.slice (some ⟨be, 0, none⟩) L c) (fun w' hw => zn (by simp +decide only [bE, BEq.rfl, ev_tmp, hlt.run_load1 rfl, keep hw (show b < lo by omega) cF, ldc_some])) rfl ?_
 refine zc (.int .i64 j) (fun w' _ => by rw [zat, ev_tmp]; simp +decide (disch := omega) only [zgm, ep]) rfl ?_
 refine zc (.pointer (some ⟨be, j * sz, none⟩)) (fun w' _ => zn (by simp +decide only [bE, Nat.reduceBeqDiff, BEq.rfl, Nat.zero_add, ev_tmp, zab hlt het hj])) rfl ?_
 simp only []
 refine ⟨.int .i64 ts.length, fun w' _ => .inl ⟨rfl, ?_⟩, ?_⟩
 ·have hl := h.lenV (P := P) (N := N) hI (ty := N.ze) (w' := w')
  simp +decide only [exec, execOp, resolve, invoke, builtin, List.map_toArray, List.map, bE, Nat.reduceBeqDiff, BEq.rfl, ev_tmp]
  simp [hl]
 show anyC P _ _ _ _ ([11, 13, 14, 15, 16, 17].length - 1 + 1) [11, 13, 14, 15, 16, 17] _ _
 have fin : ∀ {ρ : Env} {w6 : World} {bz : Nat} {cs : List Value}, RepT w6 (NB w.heap.size w6.heap.size) t cs → Mod w w6 zp → w6.rangeAt bz 0 zT → ρ 1 = .slice (some ⟨bL, 0, none⟩) n n → ρ 4 = v → ρ 13 = .slice (some ⟨bz, 0, none⟩) 1 1 →
   ρ (q + 6 + 2 + 100) = .agg cs.toArray → ρ (q + 6 + 3 + 100) = .int .i64 ts.length → (∀ k, k < q + 8 → ρ (k + 100) = σ k) →
   zdn P (fun w' => Mod w w' (fun k _ => ¬ zao v k)) (fun ρ w => zdy K Q .normal (locs ρ) w) [⟨some (q + 6 + 4 + 100), .call ⟨.builtin .append, #[T 4, T 13], #[N.zr, N.zr]⟩, N.zr, none, [4, 13, 11, 0, 1, 2, 3, 4, 5, 6, 7, 8, 9, 10, 11, 12, 13]⟩,
    ⟨some 15, .indexAddr N.zr (T 1) (.const (.int .i64 i)), 0, none, [1, 0, 1, 2, 3, 4, 5, 6, 7, 8, 9, 10, 11, 12, 13, 14]⟩, ⟨some 16, .fieldAddr N.zy (T 15) 3, 0, none, [15, 0, 1, 2, 3, 4, 5, 6, 7, 8, 9, 10, 11, 12, 13, 14]⟩,
    ⟨none, .store N.zr (T 16) (V (q + 6 + 4)), 0, none, [16, 14, 14, 0, 1, 2, 3, 4, 5, 6, 7, 8, 9, 10, 11, 12, 13, 14]⟩] ρ w6 := by
  intro ρ w6 bz cs hrep m6 hz h1 h4 h13 hv8 hv9 hσ
  obtain ⟨bv, c', w8, w9, w10, happ, hst, m8, hst10, hTL⟩ := zmc hI h hlen m6 (Nat.le_refl _) hrep hz
  simp only [zdn]
  simp +decide only [zfe, ev_tmp, h4, h13, happ, stepV_ok]
  refine ⟨m8, ?_⟩
  simp +decide (disch := omega) only [zej, ev_tmp, ev_const, zam, h1, zab hI.lt hI1 hi, stepV_ok, Nat.zero_add]
  refine ⟨m8, ?_⟩
  simp +decide (disch := omega) only [zez, ev_tmp, zbc, hI.h3.run, stepV_ok]
  refine ⟨m8, ?_⟩
  simp +decide (disch := omega) only [zec, ev_tmp, zam, zbc, hst, stepU_ok]
  refine zf (K := fun σ' w' => zdy K Q .normal σ' w') fun σ9 hσ9 => hK _ _ ?_
  have g : ∀ k, k < q + 8 → σ9 k = σ k := fun k hk => by
   rw [hσ9 k]
   simp +decide (disch := omega) only [zam]
   exact hσ k hk
  refine W_put hI (L := ts.length) (bv := bv) (c := c') (cs := cs) (w10 := w10) ?_ ?_ ?_ hst10 (hQ _ _ _ g (hTL.env (g 0 (by omega)) (g 1 (by omega)) (g 2 (by omega))))
  ·rw [hσ9]; simp +decide (disch := omega) only [zam]; exact hv8
  ·rw [hσ9]; simp +decide (disch := omega) only [zam]; exact hv9
  ·rw [hσ9]; simp +decide (disch := omega) only [zam, zbc]
 have ezz : ∀ ρ : Env, (#[(0, zTop)] : Array (Nat × Operand)).map (fun p => (p.1, ev ρ p.2)) = #[(0, .agg zT.toArray)] := fun ρ => by simp [zTop, zT]
 have hz1 : ∀ c ∈ zT, c.oneCell' = true := fun c hc => by simp [zT] at hc; rcases hc with rfl | rfl | rfl | rfl <;> rfl
 refine zfr [11, 13] (by kernel_rfl) fun k hk => ?_
 simp only [List.mem_cons, List.not_mem_nil, or_false] at hk
 rcases hk with rfl | rfl
 ·
  show zbn P ⟨some (q + 6 + 2 + 100), .call ⟨.value (.func f), #[T 10], #[pT]⟩, N.zy, none, [10]⟩ _ _ _
  rw [zal hf]
  have e10 : ∀ (ρ : Env) (u u' : Value), ev (put (put ρ (some 10) u) (some (q + 6 + 3 + 100)) u') (T 10) = u := fun ρ u u' => by rw [ev_tmp, zam (by omega), zbc]
  rw [e10]
  refine Call.mono (Rt' := _) (hcall w.drew (h.mod.trans' md)) ?_
  rintro _ w6 ⟨cs, rfl, hrep, m6d⟩
  have m6 : Mod w w6 zp := md.trans' m6d
  refine ⟨.inr (m6.mono fun _ _ _ h => h.elim), ?_⟩
  show anyC P _ _ _ _ [13, 14, 15, 16, 17].length [13, 14, 15, 16, 17] _ _
  refine zch _ _ _ (by kernel_rfl) (by decide) (fun k hk => by simp at hk; subst hk; kernel_rfl) ?_
  show zbn P ⟨some 13, .buildSlice N.zr 1 #[(0, zTop)], 0, none, []⟩ _ _ _
  have hbs := zfl (w := w6) (v := .agg zT.toArray) (cs := zT) hI.lt hI1 rfl rfl (by decide) (by decide)
  simp +decide only [zcj, ezz, hbs, stepV_ok]
  have m7 : Mod w6 (w6.alloc (.cells zT.toArray N.zy)) zp := Mod.alloc _ _ _
  have s7 : (w6.alloc (.cells zT.toArray N.zy)).heap.size = w6.heap.size + 1 := zan _ _
  refine ⟨(m6.trans' m7).mono fun _ _ _ h => h.elim, fin (cs := cs) (RepT.mod m7 (fun k hk => ⟨hk.2, fun _ h => h, ⟨hk.1, by have := hk.2; omega⟩⟩) t hrep) (m6.trans' m7) (zw w6 zT.toArray N.zy (0, 0)) ?_ ?_ ?_ ?_ ?_ ?_⟩
  ·simp +decide (disch := omega) only [zam, zbc]
  ·simp +decide (disch := omega) only [zam, zbc]
  ·exact zbc
  ·simp +decide (disch := omega) only [zam, zbc]
  ·simp +decide (disch := omega) only [zam, zbc]
  ·intro k hk
   simp +decide (disch := omega) only [zam, envOf_var]
 ·
  show zbn P ⟨some 13, .buildSlice N.zr 1 #[(0, zTop)], 0, none, []⟩ _ _ _
  have hbs := zfl (w := w.drew) (v := .agg zT.toArray) (cs := zT) hI.lt hI1 rfl rfl (by decide) (by decide)
  simp +decide only [zcj, ezz, hbs, stepV_ok]
  obtain ⟨w1, hw1⟩ : ∃ w1, w1 = w.drew.alloc (.cells zT.toArray N.zy) := ⟨_, rfl⟩
  have m1 : Mod w.drew w1 zp := by rw [hw1]; exact Mod.alloc _ _ _
  have s1 : w1.heap.size = w.heap.size + 1 := by rw [hw1]; exact zan w.drew _
  have r1 : w1.rangeAt w.heap.size 0 zT := by rw [hw1]; exact zw w.drew zT.toArray N.zy (0, 0)
  rw [← hw1]
  clear hw1 hbs
  have m01 : Mod w w1 zp := md.trans' m1
  refine ⟨.inr (m01.mono fun _ _ _ h => h.elim), ?_⟩
  show anyC P _ _ _ _ [11, 14, 15, 16, 17].length [11, 14, 15, 16, 17] _ _
  refine zch _ _ _ (by kernel_rfl) (by decide) (fun k hk => by simp at hk; subst hk; kernel_rfl) ?_
  show zbn P ⟨some (q + 6 + 2 + 100), .call ⟨.value (.func f), #[T 10], #[pT]⟩, N.zy, none, [10]⟩ _ _ _
  rw [zal hf]
  have e10 : ∀ (ρ : Env) (u u' u'' : Value), ev (put (put (put ρ (some 10) u) (some (q + 6 + 3 + 100)) u') (some 13) u'') (T 10) = u := fun ρ u u' u'' => by rw [ev_tmp, zam (by omega), zam (by omega), zbc]
  rw [e10]
  refine Call.mono (Rt' := _) (hcall w1 (h.mod.trans' m01)) ?_
  rintro _ w6 ⟨cs, rfl, hrep, m6d⟩
  have m6 : Mod w w6 zp := m01.trans' m6d
  refine ⟨m6.mono fun _ _ _ h => h.elim, fin (bz := w.heap.size) (cs := cs) (RepT.mono (fun k hk => ⟨by have := hk.1; omega, hk.2⟩) t hrep) m6 (zv m6d r1) ?_ ?_ ?_ ?_ ?_ ?_⟩
  ·simp +decide (disch := omega) only [zam, zbc]
  ·simp +decide (disch := omega) only [zam, zbc]
  ·simp +decide (disch := omega) only [zam, zbc]; rfl
  ·simp +decide (disch := omega) only [zbc]
  ·simp +decide (disch := omega) only [zam, zbc]
  ·intro k hk
   simp +decide (disch := omega) only [zam, envOf_var]
end
section
variable {P : Program} {N : Nums}
def lBool (N : Nums) (p : Nat) : List ROp := [⟨some 0, .alloc N.zah, 0, none, []⟩, ⟨none, .store N.zah (T 0) (.const (.bool true)), 0, none, [0]⟩, ⟨none, .store N.zah (T 0) (.const (.bool false)), 0, none, [0]⟩, ⟨some (p + 1 + 100), .load N.zah (T 0), 0, none, [0, 0, 1, 2]⟩]
theorem W_bool (B : Base P N) {loc : List Nat} {N' : Nat} {Q : Exit → Env → World → Prop} {w : World} {σ : Env} {q : Nat} (hQ : ∀ x w', Mod w w' zp → Q .normal (upd σ (q + 7) (.bool x)) w') : W P loc N' (.draw (lBool N (q + 6))) Q σ w := by
 have md : Mod w w.drew zp := Mod.drew _ _
 refine ziu B.mixed [false, false, false, false] rfl (zia (l0 := lBool N 6) q (by kernel_rfl) rfl) (fun _ => True) trivial fun τ => ?_
 simp only [zde, lBool, List.zip_cons_cons, List.zip_nil_right]
 show anyC P _ _ _ _ (3 + 1) [0, 1, 2, 3] _ _
 refine zfr [0] (by kernel_rfl) fun k hk => ?_
 simp only [List.mem_cons, List.not_mem_nil, or_false] at hk
 subst hk
 show zbn P ⟨some 0, .alloc N.zah, 0, none, []⟩ _ _ _
 obtain ⟨w1, hw1⟩ : ∃ w1, w1 = w.drew.alloc (.cells (Value.cells (.bool false)) N.zah) := ⟨_, rfl⟩
 have m1 : Mod w.drew w1 zp := by rw [hw1]; exact Mod.alloc _ _ _
 have s1 : w1.heap.size = w.heap.size + 1 := by rw [hw1]; exact zan w.drew _
 have r1 : w1.rangeAt w.heap.size 0 [.bool false] := by rw [hw1]; exact zw w.drew _ N.zah (0, 0)
 have t1 : w1.there w.heap.size 0 1 := by rw [hw1]; exact zbj w.drew _ N.zah
 have hal := B.bool.run_alloc (w := w.drew) (.tuple #[])
 rw [← hw1] at hal
 simp +decide only [zme, hal, stepV_ok]
 refine ⟨.inr trivial, ?_⟩
 have m01 : Mod w w1 zp := md.trans' m1
 have st : ∀ {w2 : World} {x : Bool}, Mod w1 w2 (blk w.heap.size) → w2.heap.size = w1.heap.size → ∃ w3, (Instr.storeAt N.zah (.pointer (some ⟨w.heap.size, 0, none⟩)) (.bool x)).run P w2 = .ok () w3 ∧ Mod w1 w3 (blk w.heap.size) ∧ w3.heap.size = w1.heap.size ∧ w3.cell? ⟨w.heap.size, 0, none⟩ = some (.bool x) := by
  intro w2 x m s
  have t2 : w2.there w.heap.size 0 1 := m.there (by omega) t1
  have h2 : ∃ u, w2.cell? ⟨w.heap.size, 0, none⟩ = some u := by
   have := (t2 0 (by decide)).1
   exact Option.isSome_iff_exists.1 (by simpa using this)
  obtain ⟨u, hu⟩ := h2
  exact ⟨_, B.bool.run_store1 (w := w2) (b := w.heap.size) (o := 0) (v := .bool x) rfl t2, m.trans' (Mod.setCell fun _ => rfl), by simpa [World.setCell] using s, World.cell?_setCell_same _ _ _ hu⟩
 have fin : ∀ {ρ : Env} {w3 : World} {x : Bool}, ρ 0 = .pointer (some ⟨w.heap.size, 0, none⟩) → (∀ k, ρ (k + 100) = σ k) → Mod w1 w3 (blk w.heap.size) → w3.cell? ⟨w.heap.size, 0, none⟩ = some (.bool x) →
   anyC P (fun _ => True) (lBool N (q + 6)) (rdOf [false, false, false, false]) (fun ρ w => Q .normal (locs ρ) w) (0 + 1) [3] ρ w3 := by
  intro ρ w3 x h0 hσ m hc
  refine zfr [3] (by kernel_rfl) fun k hk => ?_
  simp only [List.mem_cons, List.not_mem_nil, or_false] at hk
  subst hk
  show zbn P ⟨some (q + 6 + 1 + 100), .load N.zah (T 0), 0, none, [0, 0, 1, 2]⟩ _ _ _
  simp +decide only [zob, ev_tmp, h0, B.bool.run_load1 rfl, hc, ldc_some, stepV_ok]
  refine ⟨.inr trivial, ?_⟩
  show Q .normal _ _
  have e : locs (put ρ (some (q + 6 + 1 + 100)) (.bool x)) = upd σ (q + 7) (.bool x) := by
   rw [zu]
   funext k
   simp only [upd]
   by_cases hk : k = q + 6 + 1
   ·rw [if_pos hk, if_pos (by omega)]
   ·rw [if_neg hk, if_neg (by omega)]; exact hσ k
  rw [e]
  exact hQ x w3 (m01.fresh m fun k o e => by have : k = w.heap.size := e; omega)
 refine zfr [1, 2] (by kernel_rfl) fun k hk => ?_
 simp only [List.mem_cons, List.not_mem_nil, or_false] at hk
 have h0 : ∀ ρ : Env, put ρ (some 0) (.pointer (some ⟨w.heap.size, 0, none⟩)) 0 = .pointer (some ⟨w.heap.size, 0, none⟩) := fun ρ => zbc
 have hσ : ∀ k, put (zdm σ τ) (some 0) (.pointer (some ⟨w.heap.size, 0, none⟩)) (k + 100) = σ k := fun k => by rw [zgm (by decide) (by omega), envOf_var]
 rcases hk with rfl | rfl
 ·show zbn P ⟨none, .store N.zah (T 0) (.const (.bool true)), 0, none, [0]⟩ _ _ _
  obtain ⟨w3, h3, m3, s3, c3⟩ := st (x := true) (.refl w1 _) rfl
  have h3' : ∀ w' : World, w' = w1 → (Instr.storeAt N.zah (.pointer (some ⟨w.heap.size, 0, none⟩)) (.bool true)).run P w' = .ok () w3 := fun w' e => by rw [e]; exact h3
  have hs : (w.drew).heap.size = w.heap.size := rfl
  simp +decide only [zec, ev_tmp, ev_const, hs, h0, h3, stepU_ok]
  refine ⟨.inr trivial, ?_⟩
  show anyC P _ _ _ _ (1 + 1) [2, 3] _ _
  refine zfr [2] (by kernel_rfl) fun k hk => ?_
  simp only [List.mem_cons, List.not_mem_nil, or_false] at hk
  subst hk
  show zbn P ⟨none, .store N.zah (T 0) (.const (.bool false)), 0, none, [0]⟩ _ _ _
  obtain ⟨w4, h4, m4, s4, c4⟩ := st (x := false) m3 s3
  simp +decide only [zec, ev_tmp, ev_const, h0, h4, stepU_ok]
  exact ⟨.inr trivial, fin (h0 _) hσ m4 c4⟩
 ·show zbn P ⟨none, .store N.zah (T 0) (.const (.bool false)), 0, none, [0]⟩ _ _ _
  obtain ⟨w3, h3, m3, s3, c3⟩ := st (x := false) (.refl w1 _) rfl
  have hs : (w.drew).heap.size = w.heap.size := rfl
  simp +decide only [zec, ev_tmp, ev_const, hs, h0, h3, stepU_ok]
  refine ⟨.inr trivial, ?_⟩
  show anyC P _ _ _ _ (1 + 1) [1, 3] _ _
  refine zfr [1] (by kernel_rfl) fun k hk => ?_
  simp only [List.mem_cons, List.not_mem_nil, or_false] at hk
  subst hk
  show zbn P ⟨none, .store N.zah (T 0) (.const (.bool true)), 0, none, [0]⟩ _ _ _
  obtain ⟨w4, h4, m4, s4, c4⟩ := st (x := true) m3 s3
  simp +decide only [zec, ev_tmp, ev_const, h0, h4, stepU_ok]
  exact ⟨.inr trivial, fin (h0 _) hσ m4 c4⟩
theorem TL.stay {w0 w w' : World} {src v : Value} {bT bL bR n i lo : Nat} {nl : Bool} {trs ts : List Tr} {σ : Env} (h : TL w0 src bT bL bR n i trs lo nl v ts σ w) (m : Mod w w' zp) : TL w0 src bT bL bR n i trs lo nl v ts σ w' := by
 have lt := h.lt
 have hs := m.size
 refine h.move (m.mono fun _ _ _ h => h.elim) ?_ ?_
 ·have := h.cellL; rw [m.cell _ _ (by omega) (fun h => h)]; exact this
 ·obtain ⟨css, csl, _, _, ho, hts⟩ := h.ex
  exact ⟨csl, ho.stay m fun _ _ _ h => h, zcm.mod m (fun k hk => hk.elim False.elim fun hk => ⟨hk.2.1, fun _ h => h, .inr ⟨hk.1, by have := hk.2.1; omega, hk.2.2⟩⟩) ts hts⟩
def cTList (N : Nums) (Tt idx ft q k : Nat) (app0 app : C) : C :=
 .seq (.ops [⟨some 0, .move (V 0), 0, none, []⟩, ⟨some 1, .nilCheck (T 0), 0, none, []⟩, ⟨some 2, .fieldAddr Tt (T 1) idx, 0, none, []⟩, ⟨some 3, .load ft (T 2), 0, none, []⟩, ⟨some (q + 3 + 100), .call ⟨.builtin .len, #[T 3], #[ft]⟩, N.ze, none, []⟩, ⟨some (q + 4 + 100), .move (.const (.int .i64 0)), 0, none, []⟩])
  (zru N (q + 4) (q + 3) (q + 5) k (.seq (.ops [⟨some 0, .move (V (q + 4)), 0, none, []⟩, ⟨some (q + 6 + 100), .assign (T 0), 0, none, []⟩])
   (.seq (.draw (lBool N (q + 6))) (.cond (q + 7) app0 app))))
theorem W_tList (B : Base P N) {loc : List Nat} {N' : Nat} (hlo : zfo loc N') {Q : Exit → Env → World → Prop} {w0 w : World} {b oo off Tt idx ft c et bT bL bR n i lo q k : Nat} {a : Option Addr} {nl : Bool} {trs ts : List Tr} {σ : Env} {app0 app : C}
  (hT : HF P Tt idx off) (hcell : w0.cell? ⟨b, oo + off, none⟩ = some (.slice a ts.length c)) (hlt : TI P ft (.slice et) 1 24 (.slice none 0 0)) (hlen : ts.length < 1099511627776)
  (hbody : ∀ (x : Bool) (j : Nat) (σ : Env) (w : World) (v : Value) (Q : Exit → Env → World → Prop), j < ts.length → σ (q + 6) = .int .i64 j → TL w0 (.pointer (some ⟨b, oo, none⟩)) bT bL bR n i trs lo nl v (ts.take j) σ w →
   (∀ σ' v' w', (∀ k, k < q + 8 → σ' k = σ k) → TL w0 (.pointer (some ⟨b, oo, none⟩)) bT bL bR n i trs lo nl v' (ts.take (j + 1)) σ' w' → Q .normal σ' w') → W P loc N' (if x then app0 else app) Q σ w)
  (h : TL w0 (.pointer (some ⟨b, oo, none⟩)) bT bL bR n i trs lo nl (.slice none 0 0) [] σ w)
  (hQ : ∀ σ' w', TF w0 (.pointer (some ⟨b, oo, none⟩)) bT bL bR n (i + 1) (trs ++ [.mk 0 [] nl ts []]) σ' w' → Q .normal σ' w') : W P loc N' (cTList N Tt idx ft q k app0 app) Q σ w := by
 have f0 := h.f0
 have hb0 : b < w0.heap.size := zax (by rw [hcell]; rfl)
 have cF : w.cell? ⟨b, oo + off, none⟩ = some (.slice a ts.length c) := by rw [h.mod.cell _ _ hb0 (fun h => h)]; exact hcell
 unfold cTList
 refine zd fun K hK => zaa fun τ => ?_
 simp +decide only [bK, bE, BEq.rfl, Nat.zero_add, f0]
 rw [zai rfl]
 simp +decide only [bK, bE, BEq.rfl, hT.run, hlt.run_load1 rfl, cF, hlt.run_len]
 refine hK _ _ (zf fun σ1 hσ => ?_)
 have g : ∀ k, k < 3 → σ1 k = σ k := fun k hk => by
  rw [hσ]
  simp +decide (disch := omega) only [zam, envOf_var]
 have g3 : σ1 (q + 3) = .int .i64 ts.length := by
  rw [hσ]; simp +decide (disch := omega) only [zam, zbc]
 have g4 : σ1 (q + 4) = .int .i64 0 := by
  rw [hσ]; simp +decide (disch := omega) only [zbc]
 clear hσ hK K
 have h1 := h.env (σ' := σ1) (g 0 (by decide)) (g 1 (by decide)) (g 2 (by decide))
 refine zjm (i := q + 4) (l := q + 3) (c := q + 5) (k := k) hlo (L := ts.length) (by omega) (fun j σ w => σ (q + 4) = .int .i64 j ∧ σ (q + 3) = .int .i64 ts.length ∧ j ≤ ts.length ∧ ∃ v, TL w0 (.pointer (some ⟨b, oo, none⟩)) bT bL bR n i trs lo nl v (ts.take j) σ w) (fun j σ w h => ⟨h.1, h.2.1, h.2.2.1⟩) (fun j σ w b h => ?_) ⟨g4, g3, Nat.zero_le _, _, h1⟩ (fun σ' w' h => ?_) (fun j σ' w' hj h => ?_)
 ·obtain ⟨a1, a2, a3, v, a4⟩ := h
  exact ⟨by rw [zi (by omega)]; exact a1, by rw [zi (by omega)]; exact a2, a3, v, a4.env (zi (by omega)) (zi (by omega)) (zi (by omega))⟩
 ·obtain ⟨_, _, _, v, a4⟩ := h
  rw [List.take_length] at a4
  exact hQ _ _ a4.done
 ·obtain ⟨a1, a2, a3, v, a4⟩ := h
  refine zd fun K hK => zaa fun τ => ?_
  simp +decide (disch := omega) only [runR, zny, zkf, ev_tmp, zbc, envOf_var, a1, zu, zap, locs_envOf]
  refine hK _ _ (zd fun K2 hK2 => W_bool B fun x w5 m5 => hK2 _ _ ?_)
  clear hK2 K2 hK K
  refine W_cond (t := x) (upd_same _ _ _) (hlo.lt _) ?_
  have up : ∀ k, k < q + 6 → upd (upd σ' (q + 6) (.int .i64 j)) (q + 7) (.bool x) k = σ' k := fun k hk => by rw [zi (by omega), zi (by omega)]
  refine hbody x j _ w5 v _ hj (by rw [zi (by omega)]; exact upd_same _ _ _) ((a4.stay m5).env (up 0 (by omega)) (up 1 (by omega)) (up 2 (by omega))) fun σ6 v6 w6 hag h6 => ?_
  refine ⟨by rw [hag _ (by omega), up _ (by omega)]; exact a1, upd_same _ _ _, by rw [zi (by omega), hag _ (by omega), up _ (by omega)]; exact a2, by omega, v6, h6.env (zi (by omega)) (zi (by omega)) (zi (by omega))⟩
end
section
variable {P : Program} {N : Nums}
def cTNull (N : Nums) (Tt idx ft i : Nat) : C := .draw [
 ⟨some 0, .fieldAddr N.zy (V 2) 3, 0, none, []⟩, ⟨some 1, .load N.zr (T 0), 0, none, [0]⟩, ⟨some 2, .move (V 0), 0, none, []⟩, ⟨some 3, .nilCheck (T 2), 0, none, [2]⟩, ⟨some 4, .fieldAddr Tt (T 3) idx, 0, none, [3]⟩, ⟨some 5, .load ft (T 4), 0, none, [4]⟩,
 ⟨some 6, .binOp .eql ft (T 5) (.const (.slice none 0 0)) ft, 0, none, [5]⟩, ⟨some 7, .indexAddr N.zr (T 1) (.const (.int .i64 i)), 0, none, [1, 0, 1, 2, 3, 4, 5, 6]⟩, ⟨some 8, .fieldAddr N.zy (T 7) 2, 0, none, [7, 0, 1, 2, 3, 4, 5, 6]⟩, ⟨none, .store N.zah (T 8) (T 6), 0, none, [8, 6, 0, 1, 2, 3, 4, 5, 6]⟩]
theorem W_tNull (B : Base P N) (F : Fns P N) (hI : zeu P N) {loc : List Nat} {N' : Nat} {Q : Exit → Env → World → Prop} {w0 w : World} {b oo off Tt idx bT bL bR n i : Nat} {trs : List Tr} {σ : Env} {ft et L c : Nat} {a : Option Addr} (hft : TI P ft (.slice et) 1 24 (.slice none 0 0))
  (h : TF w0 (.pointer (some ⟨b, oo, none⟩)) bT bL bR n i trs σ w) (hi : i < n) (hT : HF P Tt idx off) (hc : w0.cell? ⟨b, oo + off, none⟩ = some (.slice a L c))
  (hQ : ∀ σ' w' lo, TL w0 (.pointer (some ⟨b, oo, none⟩)) bT bL bR n i trs lo a.isNone (.slice none 0 0) [] σ' w' → Q .normal σ' w') : W P loc N' (cTNull N Tt idx ft i) Q σ w := by
 obtain ⟨fs, hI1⟩ := hI.ti
 have f0 := h.f0
 have f1 := h.f1
 have f2 := h.f2
 have cT : w.cell? ⟨bT, 3, none⟩ = some (.slice (some ⟨bL, 0, none⟩) n n) := h.tc 3 _ rfl
 have cF : w.cell? ⟨b, oo + off, none⟩ = some (.slice a L c) := by rw [h.mod.cell _ _ (zax (by rw [hc]; rfl)) (fun h => h)]; exact hc
 have st : ∀ {w' : World} {k o : Nat} {v : Value}, Mod w w' zp → w.cell? ⟨k, o, none⟩ = some v → w'.cell? ⟨k, o, none⟩ = some v := fun m hc => by rw [m.cell _ _ (zax (by rw [hc]; rfl)) (fun h => h)]; exact hc
 have md : Mod w w.drew zp := Mod.drew _ _
 refine zfx B.mixed [true, true, true, true, true, true, false, false, false, false] (by kernel_rfl) (fun w' => Mod w w' zp) md fun τ => ?_
 have e2 : zdm σ τ 102 = .pointer (some ⟨bT, 0, none⟩) := by rw [← f2]; exact envOf_var σ τ 2
 refine zc (.pointer (some ⟨bT, 3, none⟩)) (fun w' _ => zn (by
  simp +decide only [ev_tmp, e2, hI.h3.run])) rfl ?_
 refine zc (.slice (some ⟨bL, 0, none⟩) n n) (fun w' hw => zn (by
  simp +decide only [bE, BEq.rfl, ev_tmp, hI.lt.run_load1 rfl, st hw cT, ldc_some])) rfl ?_
 refine zc (.pointer (some ⟨b, oo, none⟩)) (fun w' hw => by
  rw [zat, ev_tmp]
  simp +decide only [bE, Nat.reduceBeqDiff, Nat.zero_add, f0]) rfl ?_
 refine zc (.pointer (some ⟨b, oo, none⟩)) (fun w' hw => rfl) rfl ?_
 refine zc (.pointer (some ⟨b, oo + off, none⟩)) (fun w' hw => zn (by
  simp +decide only [bE, BEq.rfl, ev_tmp, hT.run])) rfl ?_
 refine zc (.slice a L c) (fun w' hw => zn (by
  simp +decide only [bE, BEq.rfl, ev_tmp, hft.run_load1 rfl, st hw cF, ldc_some])) rfl ?_
 simp only [zde, zdd, List.zip_cons_cons, List.zip_nil_right, List.zipWith_cons_cons, List.zipWith_nil_right, List.filter, Bool.not_true, Bool.not_false, List.map, zdn]
 obtain ⟨htl, hTL⟩ := h.list hi a.isNone
 simp +decide only [bK, bE, Nat.reduceBeqDiff, BEq.rfl, run_eqlS hft.und]
 refine ⟨md, ?_⟩
 simp +decide only [bK, Nat.zero_add, zab hI.lt hI1 hi]
 refine ⟨md, ?_⟩
 simp +decide only [bK, hI.h2.run]
 refine ⟨md, ?_⟩
 have hst := B.bool.run_store1 (w := w.drew) (b := bL) (o := i * 5 + 2) (v := .bool a.isNone) rfl htl
 simp +decide only [bK, hst]
 obtain ⟨_, hTL⟩ := (h.stay md).list hi a.isNone
 refine zf (K := fun σ' w' => Q .normal σ' w') fun σ9 hσ => hQ _ _ _ (hTL.env ?_ ?_ ?_)
 ·rw [hσ 0]; simp +decide only [bE, Nat.reduceBeqDiff, Nat.zero_add]
 ·rw [hσ 1]; simp +decide only [bE, Nat.reduceBeqDiff, Nat.reduceAdd]
 ·rw [hσ 2]; simp +decide only [bE, Nat.reduceBeqDiff, Nat.reduceAdd]
def lAppN (N : Nums) (Tt idx ft et i p : Nat) : List ROp := [
 ⟨some 0, .fieldAddr N.zy (V 2) 3, 0, none, []⟩, ⟨some 1, .load N.zr (T 0), 0, none, [0]⟩, ⟨some 2, .fieldAddr N.zy (V 2) 3, 0, none, []⟩, ⟨some 3, .load N.zr (T 2), 0, none, [2]⟩,
 ⟨some 4, .indexAddr N.zr (T 3) (.const (.int .i64 i)), 0, none, [3]⟩, ⟨some 5, .fieldAddr N.zy (T 4) 3, 0, none, [4]⟩, ⟨some 6, .load N.zr (T 5), 0, none, [5]⟩,
 ⟨some 7, .move (V 0), 0, none, []⟩, ⟨some 8, .nilCheck (T 7), 0, none, [7]⟩, ⟨some 9, .fieldAddr Tt (T 8) idx, 0, none, [8]⟩, ⟨some 10, .load ft (T 9), 0, none, [9]⟩, ⟨some 11, .move (V p), 0, none, []⟩, ⟨some 12, .indexAddr ft (T 10) (T 11), 0, none, [10, 11]⟩,
 ⟨some 13, .load et (T 12), 0, none, [12]⟩, ⟨some 14, .convert et N.zbe (T 13), 0, none, [13]⟩, ⟨some 15, .build N.zy #[(0, T 14)], 0, none, [14]⟩, ⟨some 16, .buildSlice N.zr 1 #[(0, T 15)], 0, none, [15]⟩, ⟨some 17, .call ⟨.builtin .append, #[T 6, T 16], #[N.zr, N.zr]⟩, N.zr, none, [6, 16]⟩,
 ⟨some 18, .indexAddr N.zr (T 1) (.const (.int .i64 i)), 0, none, [1, 0, 1, 2, 3, 4, 5, 6, 7, 8, 9, 10, 11, 12, 13, 14, 15, 16, 17]⟩, ⟨some 19, .fieldAddr N.zy (T 18) 3, 0, none, [18, 0, 1, 2, 3, 4, 5, 6, 7, 8, 9, 10, 11, 12, 13, 14, 15, 16, 17]⟩,
 ⟨none, .store N.zr (T 19) (T 17), 0, none, [19, 17, 17, 0, 1, 2, 3, 4, 5, 6, 7, 8, 9, 10, 11, 12, 13, 14, 15, 16, 17]⟩]
theorem W_appNum (B : Base P N) (hI : zeu P N) {loc : List Nat} {N' : Nat} {Q : Exit → Env → World → Prop} {w0 w : World} {b oo off Tt idx ft be L c sz et bT bL bR n i lo q j : Nat} {k : IntKind} {by' : Nat} {z : Value} {x : Int} {nl : Bool} {v : Value} {trs ts : List Tr} {σ : Env}
  (h : TL w0 (.pointer (some ⟨b, oo, none⟩)) bT bL bR n i trs lo nl v ts σ w) (hs : LSrc P w0 b oo off Tt idx ft be L c sz et) (hlen : ts.length + 1 < 1099511627776) (hp : σ (q + 6) = .int .i64 j) (hj : j < L)
  (hk : TI P et (.int k) 1 by' z) (hx : IntKind.i64.wrap x = x) (hE : w0.cell? ⟨be, j * sz, none⟩ = some (.int k x))
  (hQ : ∀ v' w', TL w0 (.pointer (some ⟨b, oo, none⟩)) bT bL bR n i trs lo nl v' (ts ++ [zdq x [] false]) σ w' → Q .normal σ w') : W P loc N' (.draw (lAppN N Tt idx ft et i (q + 6))) Q σ w := by
 obtain ⟨fs, hI1⟩ := hI.ti
 obtain ⟨hT, hc0, hlt, _, _, _, het⟩ := hs
 have f0 := h.f0
 have f1 := h.f1
 have f2 := h.f2
 have lt := h.lt
 have hi := h.le
 have hms := h.mod.size
 have keep : ∀ {w' : World} {k o : Nat} {u : Value}, Mod w w' (fun k _ => ¬ zao v k) → k < lo → w.cell? ⟨k, o, none⟩ = some u → w'.cell? ⟨k, o, none⟩ = some u := fun m hk hc => by
  rw [m.cell _ _ (zax (by rw [hc]; rfl)) (fun hn => by have := (h.blk hn).1; omega)]; exact hc
 have hb0 : b < w0.heap.size := zax (by rw [hc0]; rfl)
 have cF : w.cell? ⟨b, oo + off, none⟩ = some (.slice (some ⟨be, 0, none⟩) L c) := by rw [h.mod.cell _ _ hb0 (fun h => h)]; exact hc0
 have cT := h.cellT
 have cL := h.cellL
 have md : Mod w w.drew zp := Mod.drew _ _
 have md' : Mod w w.drew (fun k _ => ¬ zao v k) := Mod.drew _ _
 refine ziu B.mixed [true, true, true, true, true, true, true, true, true, true, true, true, true, true, true, true, false, false, false, false, false] rfl (zia (l0 := lAppN N Tt idx ft et i 6) q (by kernel_rfl) rfl) (fun w' => Mod w w' (fun k _ => ¬ zao v k)) md' fun τ => ?_
 have cE : w.cell? ⟨be, j * sz, none⟩ = some (.int k x) := by rw [h.mod.cell _ _ (zax (by rw [hE]; rfl)) (fun h => h)]; exact hE
 have hbe : be < w0.heap.size := zax (by rw [hE]; rfl)
 have e2 : zdm σ τ 102 = .pointer (some ⟨bT, 0, none⟩) := by rw [← f2]; exact envOf_var σ τ 2
 have e0 : zdm σ τ 100 = .pointer (some ⟨b, oo, none⟩) := by rw [← f0]; exact envOf_var σ τ 0
 have ep : zdm σ τ (q + 6 + 100) = .int .i64 j := by rw [← hp]; exact envOf_var σ τ (q + 6)
 refine zc (.pointer (some ⟨bT, 3, none⟩)) (fun w' _ => zn (by simp +decide only [ev_tmp, e2, hI.h3.run])) rfl ?_
 refine zc (.slice (some ⟨bL, 0, none⟩) n n) (fun w' hw => zn (by simp +decide only [bE, BEq.rfl, ev_tmp, hI.lt.run_load1 rfl, keep hw (show bT < lo by omega) cT, ldc_some])) rfl ?_
 refine zc (.pointer (some ⟨bT, 3, none⟩)) (fun w' _ => zn (by simp +decide only [bE, Nat.reduceBeqDiff, Nat.reduceAdd, Nat.zero_add, ev_tmp, f2, hI.h3.run])) rfl ?_
 refine zc (.slice (some ⟨bL, 0, none⟩) n n) (fun w' hw => zn (by simp +decide only [bE, BEq.rfl, ev_tmp, hI.lt.run_load1 rfl, keep hw (show bT < lo by omega) cT, ldc_some])) rfl ?_
 refine zc (.pointer (some ⟨bL, i * 5, none⟩)) (fun w' _ => zn (by simp +decide only [bE, BEq.rfl, Nat.zero_add, ev_tmp, ev_const, zab hI.lt hI1 hi])) rfl ?_
 refine zc (.pointer (some ⟨bL, i * 5 + 3, none⟩)) (fun w' _ => zn (by simp +decide only [bE, BEq.rfl, ev_tmp, hI.h3.run])) rfl ?_
 refine zc v (fun w' hw => zn (by simp +decide only [bE, BEq.rfl, ev_tmp, hI.lt.run_load1 rfl, keep hw (show bL < lo by omega) cL, ldc_some])) rfl ?_
 refine zc (.pointer (some ⟨b, oo, none⟩)) (fun w' _ => by rw [zat, ev_tmp]; simp +decide only [bE, Nat.reduceBeqDiff, Nat.zero_add, f0]) rfl ?_
 refine zc (.pointer (some ⟨b, oo, none⟩)) (fun w' hw => rfl) rfl ?_
 refine zc (.pointer (some ⟨b, oo + off, none⟩)) (fun w' _ => zn (by simp +decide only [bE, BEq.rfl, ev_tmp, hT.run])) rfl ?_
 refine zc (.slice (some ⟨be, 0, none⟩) L c) (fun w' hw => zn (by simp +decide only [bE, BEq.rfl, ev_tmp, hlt.run_load1 rfl, keep hw (show b < lo by omega) cF, ldc_some])) rfl ?_
 refine zc (.int .i64 j) (fun w' _ => by rw [zat, ev_tmp]; simp +decide (disch := omega) only [zgm, ep]) rfl ?_
 refine zc (.pointer (some ⟨be, j * sz, none⟩)) (fun w' _ => zn (by simp +decide only [bE, Nat.reduceBeqDiff, BEq.rfl, Nat.zero_add, ev_tmp, zab hlt het hj])) rfl ?_
 refine zc (.int k x) (fun w' hw => zn (by simp +decide only [bE, BEq.rfl, ev_tmp, hk.run_load1 rfl, keep hw (show be < lo by omega) cE, ldc_some])) rfl ?_
 refine zc (.int .i64 x) (fun w' hw => zn (by simp +decide only [bE, BEq.rfl, ev_tmp, zck hk B.int64 ⟨_, rfl⟩, hx])) rfl ?_
 have e14 : ∀ ρ : Env, (#[(0, T 14)] : Array (Nat × Operand)).map (fun p => (p.1, ev ρ p.2)) = #[(0, ρ 14)] := fun ρ => by simp
 refine zc (.agg [.int .i64 x, .slice none 0 0, .bool false, .slice none 0 0, .slice none 0 0].toArray) (fun w' hw => zn (by rw [e14]; simp +decide only [bE, BEq.rfl, zwp hI])) rfl ?_
 simp only []
 show anyC P _ _ _ _ [16, 17, 18, 19, 20].length [16, 17, 18, 19, 20] _ _
 refine zch _ _ _ (by kernel_rfl) (by decide) (fun k hk => by simp at hk; subst hk; kernel_rfl) ?_
 simp only [lAppN, List.map, List.getD_cons_zero, List.getD_cons_succ, zdn]
 have m6 : Mod w w.drew zp := md
 have hrep : RepT w.drew (NB w.heap.size w.drew.heap.size) (zdq x [] false) [.int .i64 x, .slice none 0 0, .bool false, .slice none 0 0, .slice none 0 0] := zfk zhz
 have e9 : ∀ ρ : Env, (#[(0, T 15)] : Array (Nat × Operand)).map (fun p => (p.1, ev ρ p.2)) = #[(0, ρ 15)] := fun ρ => by simp
 obtain ⟨w7, v', w8, w9, hbs, happ, hst, m7, m8, hTL⟩ := znv hI h hlen m6 (Nat.le_refl _) hrep
 simp +decide only [bK, bE, Nat.reduceBeqDiff, BEq.rfl, e9, hbs]
 refine ⟨m7, ?_⟩
 simp +decide only [bK, happ]
 refine ⟨m8, ?_⟩
 simp +decide only [bK, Nat.zero_add, zab hI.lt hI1 hi]
 refine ⟨m8, ?_⟩
 simp +decide only [bK, hI.h3.run]
 refine ⟨m8, ?_⟩
 simp +decide only [bK, hst]
 refine zf (K := fun σ' w' => Q .normal σ' w') fun σ9 hσ => ?_
 have e : σ9 = σ := by
  funext k
  rw [hσ k]
  simp +decide (disch := omega) only [zgm, envOf_var]
 rw [e]
 exact hQ _ _ hTL
def lAppS (N : Nums) (Tt idx ft i p : Nat) : List ROp := [
 ⟨some 0, .fieldAddr N.zy (V 2) 3, 0, none, []⟩, ⟨some 1, .load N.zr (T 0), 0, none, [0]⟩, ⟨some 2, .fieldAddr N.zy (V 2) 3, 0, none, []⟩, ⟨some 3, .load N.zr (T 2), 0, none, [2]⟩,
 ⟨some 4, .indexAddr N.zr (T 3) (.const (.int .i64 i)), 0, none, [3]⟩, ⟨some 5, .fieldAddr N.zy (T 4) 3, 0, none, [4]⟩, ⟨some 6, .load N.zr (T 5), 0, none, [5]⟩,
 ⟨some 7, .move (V 0), 0, none, []⟩, ⟨some 8, .nilCheck (T 7), 0, none, [7]⟩, ⟨some 9, .fieldAddr Tt (T 8) idx, 0, none, [8]⟩, ⟨some 10, .load ft (T 9), 0, none, [9]⟩, ⟨some 11, .move (V p), 0, none, []⟩, ⟨some 12, .indexAddr ft (T 10) (T 11), 0, none, [10, 11]⟩,
 ⟨some 13, .load N.zau (T 12), 0, none, [12]⟩, ⟨some 14, .convert N.zau N.za (T 13), 0, none, [13]⟩, ⟨some 15, .build N.zy #[(1, T 14)], 0, none, [14]⟩, ⟨some 16, .buildSlice N.zr 1 #[(0, T 15)], 0, none, [15]⟩, ⟨some 17, .call ⟨.builtin .append, #[T 6, T 16], #[N.zr, N.zr]⟩, N.zr, none, [6, 16]⟩,
 ⟨some 18, .indexAddr N.zr (T 1) (.const (.int .i64 i)), 0, none, [1, 0, 1, 2, 3, 4, 5, 6, 7, 8, 9, 10, 11, 12, 13, 14, 15, 16, 17]⟩, ⟨some 19, .fieldAddr N.zy (T 18) 3, 0, none, [18, 0, 1, 2, 3, 4, 5, 6, 7, 8, 9, 10, 11, 12, 13, 14, 15, 16, 17]⟩,
 ⟨none, .store N.zr (T 19) (T 17), 0, none, [19, 17, 17, 0, 1, 2, 3, 4, 5, 6, 7, 8, 9, 10, 11, 12, 13, 14, 15, 16, 17]⟩]
theorem W_appStr (B : Base P N) (hI : zeu P N) {loc : List Nat} {N' : Nat} {Q : Exit → Env → World → Prop} {w0 w : World} {b oo off Tt idx ft be L c sz et bT bL bR n i lo q j : Nat} {x : List UInt8} {nl : Bool} {v : Value} {trs ts : List Tr} {σ : Env}
  (h : TL w0 (.pointer (some ⟨b, oo, none⟩)) bT bL bR n i trs lo nl v ts σ w) (hs : LSrc P w0 b oo off Tt idx ft be L c sz et) (hlen : ts.length + 1 < 1099511627776) (hp : σ (q + 6) = .int .i64 j) (hj : j < L)
  (hE : w0.cell? ⟨be, j * sz, none⟩ = some (strV x))
  (hQ : ∀ v' w', TL w0 (.pointer (some ⟨b, oo, none⟩)) bT bL bR n i trs lo nl v' (ts ++ [zdq 0 x false]) σ w' → Q .normal σ w') : W P loc N' (.draw (lAppS N Tt idx ft i (q + 6))) Q σ w := by
 obtain ⟨fs, hI1⟩ := hI.ti
 obtain ⟨hT, hc0, hlt, _, _, _, het⟩ := hs
 have f0 := h.f0
 have f1 := h.f1
 have f2 := h.f2
 have lt := h.lt
 have hi := h.le
 have hms := h.mod.size
 have keep : ∀ {w' : World} {k o : Nat} {u : Value}, Mod w w' (fun k _ => ¬ zao v k) → k < lo → w.cell? ⟨k, o, none⟩ = some u → w'.cell? ⟨k, o, none⟩ = some u := fun m hk hc => by
  rw [m.cell _ _ (zax (by rw [hc]; rfl)) (fun hn => by have := (h.blk hn).1; omega)]; exact hc
 have hb0 : b < w0.heap.size := zax (by rw [hc0]; rfl)
 have cF : w.cell? ⟨b, oo + off, none⟩ = some (.slice (some ⟨be, 0, none⟩) L c) := by rw [h.mod.cell _ _ hb0 (fun h => h)]; exact hc0
 have cT := h.cellT
 have cL := h.cellL
 have md : Mod w w.drew zp := Mod.drew _ _
 have md' : Mod w w.drew (fun k _ => ¬ zao v k) := Mod.drew _ _
 refine ziu B.mixed [true, true, true, true, true, true, true, true, true, true, true, true, true, true, false, false, false, false, false, false, false] rfl (zia (l0 := lAppS N Tt idx ft i 6) q (by kernel_rfl) rfl) (fun w' => Mod w w' (fun k _ => ¬ zao v k)) md' fun τ => ?_
 have cE : w.cell? ⟨be, j * sz, none⟩ = some (strV x) := by rw [h.mod.cell _ _ (zax (by rw [hE]; rfl)) (fun h => h)]; exact hE
 have hbe : be < w0.heap.size := zax (by rw [hE]; rfl)
 have e2 : zdm σ τ 102 = .pointer (some ⟨bT, 0, none⟩) := by rw [← f2]; exact envOf_var σ τ 2
 have e0 : zdm σ τ 100 = .pointer (some ⟨b, oo, none⟩) := by rw [← f0]; exact envOf_var σ τ 0
 have ep : zdm σ τ (q + 6 + 100) = .int .i64 j := by rw [← hp]; exact envOf_var σ τ (q + 6)
 refine zc (.pointer (some ⟨bT, 3, none⟩)) (fun w' _ => zn (by simp +decide only [ev_tmp, e2, hI.h3.run])) rfl ?_
 refine zc (.slice (some ⟨bL, 0, none⟩) n n) (fun w' hw => zn (by simp +decide only [bE, BEq.rfl, ev_tmp, hI.lt.run_load1 rfl, keep hw (show bT < lo by omega) cT, ldc_some])) rfl ?_
 refine zc (.pointer (some ⟨bT, 3, none⟩)) (fun w' _ => zn (by simp +decide only [bE, Nat.reduceBeqDiff, Nat.reduceAdd, Nat.zero_add, ev_tmp, f2, hI.h3.run])) rfl ?_
 refine zc (.slice (some ⟨bL, 0, none⟩) n n) (fun w' hw => zn (by simp +decide only [bE, BEq.rfl, ev_tmp, hI.lt.run_load1 rfl, keep hw (show bT < lo by omega) cT, ldc_some])) rfl ?_
 refine zc (.pointer (some ⟨bL, i * 5, none⟩)) (fun w' _ => zn (by simp +decide only [bE, BEq.rfl, Nat.zero_add, ev_tmp, ev_const, zab hI.lt hI1 hi])) rfl ?_
 refine zc (.pointer (some ⟨bL, i * 5 + 3, none⟩)) (fun w' _ => zn (by simp +decide only [bE, BEq.rfl, ev_tmp, hI.h3.run])) rfl ?_
 refine zc v (fun w' hw => zn (by simp +decide only [bE, BEq.rfl, ev_tmp, hI.lt.run_load1 rfl, keep hw (show bL < lo by omega) cL, ldc_some])) rfl ?_
 refine zc (.pointer (some ⟨b, oo, none⟩)) (fun w' _ => by rw [zat, ev_tmp]; simp +decide only [bE, Nat.reduceBeqDiff, Nat.zero_add, f0]) rfl ?_
 refine zc (.pointer (some ⟨b, oo, none⟩)) (fun w' hw => rfl) rfl ?_
 refine zc (.pointer (some ⟨b, oo + off, none⟩)) (fun w' _ => zn (by simp +decide only [bE, BEq.rfl, ev_tmp, hT.run])) rfl ?_
 refine zc (.slice (some ⟨be, 0, none⟩) L c) (fun w' hw => zn (by simp +decide only [bE, BEq.rfl, ev_tmp, hlt.run_load1 rfl, keep hw (show b < lo by omega) cF, ldc_some])) rfl ?_
 refine zc (.int .i64 j) (fun w' _ => by rw [zat, ev_tmp]; simp +decide (disch := omega) only [zgm, ep]) rfl ?_
 refine zc (.pointer (some ⟨be, j * sz, none⟩)) (fun w' _ => zn (by simp +decide only [bE, Nat.reduceBeqDiff, BEq.rfl, Nat.zero_add, ev_tmp, zab hlt het hj])) rfl ?_
 refine zc (strV x) (fun w' hw => zn (by simp +decide only [bE, BEq.rfl, ev_tmp, B.string.run_load1 rfl, keep hw (show be < lo by omega) cE, ldc_some])) rfl ?_
 simp only []
 show anyC P _ _ _ _ [14, 15, 16, 17, 18, 19, 20].length [14, 15, 16, 17, 18, 19, 20] _ _
 refine zch _ _ _ (by kernel_rfl) (by decide) (fun k hk => by simp at hk; subst hk; kernel_rfl) ?_
 simp only [lAppS, List.map, List.getD_cons_zero, List.getD_cons_succ, zdn]
 obtain ⟨v6, w6, hconv, htv, m6d⟩ := zjs B w.drew x
 have m6 : Mod w w6 zp := md.trans' m6d
 have m6' : Mod w w6 (fun k _ => ¬ zao v k) := m6.mono fun _ _ _ h => h.elim
 simp +decide only [bK, bE, Nat.reduceBeqDiff, BEq.rfl, hconv]
 refine ⟨m6', ?_⟩
 have e14 : ∀ ρ : Env, (#[(1, T 14)] : Array (Nat × Operand)).map (fun p => (p.1, ev ρ p.2)) = #[(1, ρ 14)] := fun ρ => by simp
 simp +decide only [bK, bE, BEq.rfl, e14, zlu hI _ htv.one]
 refine ⟨m6', ?_⟩
 have nbw : ∀ k, NB w.drew.heap.size w6.heap.size k → NB w.heap.size w6.heap.size k := fun k h => h
 have hrep : RepT w6 (NB w.heap.size w6.heap.size) (zdq 0 x false) [.int .i64 0, v6, .bool false, .slice none 0 0, .slice none 0 0] := zfk (htv.imp (fun h => ⟨h.1, h.2⟩) fun h => h.mono nbw)
 have e9 : ∀ ρ : Env, (#[(0, T 15)] : Array (Nat × Operand)).map (fun p => (p.1, ev ρ p.2)) = #[(0, ρ 15)] := fun ρ => by simp
 obtain ⟨w7, v', w8, w9, hbs, happ, hst, m7, m8, hTL⟩ := znv hI h hlen m6 (Nat.le_refl _) hrep
 simp +decide only [bK, bE, BEq.rfl, e9, hbs]
 refine ⟨m7, ?_⟩
 simp +decide only [bK, happ]
 refine ⟨m8, ?_⟩
 simp +decide only [bK, Nat.zero_add, zab hI.lt hI1 hi]
 refine ⟨m8, ?_⟩
 simp +decide only [bK, hI.h3.run]
 refine ⟨m8, ?_⟩
 simp +decide only [bK, hst]
 refine zf (K := fun σ' w' => Q .normal σ' w') fun σ9 hσ => ?_
 have e : σ9 = σ := by
  funext k
  rw [hσ k]
  simp +decide (disch := omega) only [zgm, envOf_var]
 rw [e]
 exact hQ _ _ hTL
def lApp0N (N : Nums) (Tt idx ft et i p : Nat) : List ROp := [
 ⟨some 0, .fieldAddr N.zy (V 2) 3, 0, none, []⟩, ⟨some 1, .load N.zr (T 0), 0, none, [0]⟩, ⟨some 2, .indexAddr N.zr (T 1) (.const (.int .i64 i)), 0, none, [1]⟩, ⟨some 3, .fieldAddr N.zy (T 2) 3, 0, none, [2]⟩, ⟨some 4, .load N.zr (T 3), 0, none, [3]⟩,
 ⟨some 5, .move (V 0), 0, none, []⟩, ⟨some 6, .nilCheck (T 5), 0, none, [5]⟩, ⟨some 7, .fieldAddr Tt (T 6) idx, 0, none, [6]⟩, ⟨some 8, .load ft (T 7), 0, none, [7]⟩, ⟨some 9, .move (V p), 0, none, []⟩, ⟨some 10, .indexAddr ft (T 8) (T 9), 0, none, [8, 9]⟩,
 ⟨some 11, .load et (T 10), 0, none, [10]⟩, ⟨some 12, .convert et N.zbe (T 11), 0, none, [11]⟩, ⟨some (p + 2 + 100), .build N.zy #[(0, T 12)], 0, none, [12]⟩, ⟨some (p + 3 + 100), .call ⟨.builtin .len, #[T 4], #[N.zr]⟩, N.ze, none, [4]⟩, ⟨some 15, .buildSlice N.zr 1 #[(0, zTop)], 0, none, []⟩,
 ⟨some (p + 4 + 100), .call ⟨.builtin .append, #[T 4, T 15], #[N.zr, N.zr]⟩, N.zr, none, [4, 15, 0, 1, 2, 3, 4, 5, 6, 7, 8, 9, 10, 11, 12, 13, 14, 15]⟩,
 ⟨some 17, .indexAddr N.zr (T 1) (.const (.int .i64 i)), 0, none, [1, 0, 1, 2, 3, 4, 5, 6, 7, 8, 9, 10, 11, 12, 13, 14, 15, 16]⟩, ⟨some 18, .fieldAddr N.zy (T 17) 3, 0, none, [17, 0, 1, 2, 3, 4, 5, 6, 7, 8, 9, 10, 11, 12, 13, 14, 15, 16]⟩,
 ⟨none, .store N.zr (T 18) (V (p + 4)), 0, none, [18, 16, 16, 0, 1, 2, 3, 4, 5, 6, 7, 8, 9, 10, 11, 12, 13, 14, 15, 16]⟩]
theorem W_app0Num (B : Base P N) (hI : zeu P N) {loc : List Nat} {N' : Nat} {Q : Exit → Env → World → Prop} {w0 w : World} {b oo off Tt idx ft be L c sz et bT bL bR n i lo q j : Nat} {k : IntKind} {by' : Nat} {z : Value} {x : Int} {nl : Bool} {v : Value} {trs ts : List Tr} {σ : Env}
  (h : TL w0 (.pointer (some ⟨b, oo, none⟩)) bT bL bR n i trs lo nl v ts σ w) (hs : LSrc P w0 b oo off Tt idx ft be L c sz et) (hlen : ts.length + 1 < 1099511627776) (hp : σ (q + 6) = .int .i64 j) (hj : j < L)
  (hk : TI P et (.int k) 1 by' z) (hx : IntKind.i64.wrap x = x) (hE : w0.cell? ⟨be, j * sz, none⟩ = some (.int k x))
  (hQ : ∀ σ' v' w', (∀ k, k < q + 8 → σ' k = σ k) → TL w0 (.pointer (some ⟨b, oo, none⟩)) bT bL bR n i trs lo nl v' (ts ++ [zdq x [] false]) σ' w' → Q .normal σ' w') : W P loc N' (.seq (.draw (lApp0N N Tt idx ft et i (q + 6))) (cPut N (q + 6))) Q σ w := by
 obtain ⟨fs, hI1⟩ := hI.ti
 obtain ⟨hT, hc0, hlt, _, _, _, het⟩ := hs
 have f0 := h.f0
 have f1 := h.f1
 have f2 := h.f2
 have lt := h.lt
 have hi := h.le
 have hms := h.mod.size
 have keep : ∀ {w' : World} {k o : Nat} {u : Value}, Mod w w' (fun k _ => ¬ zao v k) → k < lo → w.cell? ⟨k, o, none⟩ = some u → w'.cell? ⟨k, o, none⟩ = some u := fun m hk hc => by
  rw [m.cell _ _ (zax (by rw [hc]; rfl)) (fun hn => by have := (h.blk hn).1; omega)]; exact hc
 have hb0 : b < w0.heap.size := zax (by rw [hc0]; rfl)
 have cF : w.cell? ⟨b, oo + off, none⟩ = some (.slice (some ⟨be, 0, none⟩) L c) := by rw [h.mod.cell _ _ hb0 (fun h => h)]; exact hc0
 have cT := h.cellT
 have cL := h.cellL
 have md : Mod w w.drew zp := Mod.drew _ _
 have md' : Mod w w.drew (fun k _ => ¬ zao v k) := Mod.drew _ _
 refine zd fun K hK => ziu B.mixed [true, true, true, true, true, true, true, true, true, true, true, true, true, true, true, false, false, false, false, false] rfl (zia (l0 := lApp0N N Tt idx ft et i 6) q (by kernel_rfl) rfl) (fun w' => Mod w w' (fun k _ => ¬ zao v k)) md' fun τ => ?_
 have cE : w.cell? ⟨be, j * sz, none⟩ = some (.int k x) := by rw [h.mod.cell _ _ (zax (by rw [hE]; rfl)) (fun h => h)]; exact hE
 have hbe : be < w0.heap.size := zax (by rw [hE]; rfl)
 have e2 : zdm σ τ 102 = .pointer (some ⟨bT, 0, none⟩) := by rw [← f2]; exact envOf_var σ τ 2
 have ep : zdm σ τ (q + 6 + 100) = .int .i64 j := by rw [← hp]; exact envOf_var σ τ (q + 6)
 refine zc (.pointer (some ⟨bT, 3, none⟩)) (fun w' _ => zn (by simp +decide only [ev_tmp, e2, hI.h3.run])) rfl ?_
 refine zc (.slice (some ⟨bL, 0, none⟩) n n) (fun w' hw => zn (by simp +decide only [bE, BEq.rfl, ev_tmp, hI.lt.run_load1 rfl, keep hw (show bT < lo by omega) cT, ldc_some])) rfl ?_
 refine zc (.pointer (some ⟨bL, i * 5, none⟩)) (fun w' _ => zn (by simp +decide only [bE, BEq.rfl, Nat.zero_add, ev_tmp, ev_const, zab hI.lt hI1 hi])) rfl ?_
 refine zc (.pointer (some ⟨bL, i * 5 + 3, none⟩)) (fun w' _ => zn (by simp +decide only [bE, BEq.rfl, ev_tmp, hI.h3.run])) rfl ?_
 refine zc v (fun w' hw => zn (by simp +decide only [bE, BEq.rfl, ev_tmp, hI.lt.run_load1 rfl, keep hw (show bL < lo by omega) cL, ldc_some])) rfl ?_
 refine zc (.pointer (some ⟨b, oo, none⟩)) (fun w' _ => by rw [zat, ev_tmp]; simp +decide only [bE, Nat.reduceBeqDiff, Nat.zero_add, f0]) rfl ?_
 refine zc (.pointer (some ⟨b, oo, none⟩)) (fun w' hw => rfl) rfl ?_
 refine zc (.pointer (some ⟨b, oo + off, none⟩)) (fun w' _ => zn (by simp +decide only [bE, BEq.rfl, ev_tmp, hT.run])) rfl ?_
 refine zc (.slice (some ⟨be, 0, none⟩) L c) (fun w' hw => zn (by simp +decide only [bE, BEq.rfl, ev_tmp, hlt.run_load1 rfl, keep hw (show b < lo by omega) cF, ldc_some])) rfl ?_
 refine zc (.int .i64 j) (fun w' _ => by rw [zat, ev_tmp]; simp +decide (disch := omega) only [zgm, ep]) rfl ?_
 refine zc (.pointer (some ⟨be, j * sz, none⟩)) (fun w' _ => zn (by simp +decide only [bE, Nat.reduceBeqDiff, BEq.rfl, Nat.zero_add, ev_tmp, zab hlt het hj])) rfl ?_
 refine zc (.int k x) (fun w' hw => zn (by simp +decide only [bE, BEq.rfl, ev_tmp, hk.run_load1 rfl, keep hw (show be < lo by omega) cE, ldc_some])) rfl ?_
 refine zc (.int .i64 x) (fun w' hw => zn (by simp +decide only [bE, BEq.rfl, ev_tmp, zck hk B.int64 ⟨_, rfl⟩, hx])) rfl ?_
 have e12 : ∀ ρ : Env, (#[(0, T 12)] : Array (Nat × Operand)).map (fun p => (p.1, ev ρ p.2)) = #[(0, ρ 12)] := fun ρ => by simp
 refine zc (.agg [.int .i64 x, .slice none 0 0, .bool false, .slice none 0 0, .slice none 0 0].toArray) (fun w' hw => zn (by rw [e12, zbc, zwp hI])) rfl ?_
 simp only []
 refine ⟨.int .i64 ts.length, fun w' _ => .inl ⟨rfl, ?_⟩, ?_⟩
 ·have hl := h.lenV (P := P) (N := N) hI (ty := N.ze) (w' := w')
  have e4 : ∀ ρ : Env, ρ 4 = v → (exec ρ ⟨some (q + 6 + 3 + 100), .call ⟨.builtin .len, #[T 4], #[N.zr]⟩, N.ze, none, [4]⟩).run P w' = .ok (.value (.int .i64 ts.length)) w' := fun ρ h4 => by
   simp +decide only [exec, execOp, resolve, invoke, builtin, List.map_toArray, List.map, ev_tmp, h4]
   simp [hl]
  exact e4 _ (by simp +decide (disch := omega) only [zam, zbc])
 have fin : ∀ {ρ : Env} {w6 : World} {bz : Nat} {cs : List Value}, RepT w6 (NB w.heap.size w6.heap.size) (zdq x [] false) cs → Mod w w6 zp → w6.rangeAt bz 0 zT → ρ 1 = .slice (some ⟨bL, 0, none⟩) n n → ρ 4 = v → ρ 15 = .slice (some ⟨bz, 0, none⟩) 1 1 →
   ρ (q + 6 + 2 + 100) = .agg cs.toArray → ρ (q + 6 + 3 + 100) = .int .i64 ts.length → (∀ k, k < q + 8 → ρ (k + 100) = σ k) →
   zdn P (fun w' => Mod w w' (fun k _ => ¬ zao v k)) (fun ρ w => zdy K Q .normal (locs ρ) w) [⟨some (q + 6 + 4 + 100), .call ⟨.builtin .append, #[T 4, T 15], #[N.zr, N.zr]⟩, N.zr, none, [4, 15, 0, 1, 2, 3, 4, 5, 6, 7, 8, 9, 10, 11, 12, 13, 14, 15]⟩,
    ⟨some 17, .indexAddr N.zr (T 1) (.const (.int .i64 i)), 0, none, [1, 0, 1, 2, 3, 4, 5, 6, 7, 8, 9, 10, 11, 12, 13, 14, 15, 16]⟩, ⟨some 18, .fieldAddr N.zy (T 17) 3, 0, none, [17, 0, 1, 2, 3, 4, 5, 6, 7, 8, 9, 10, 11, 12, 13, 14, 15, 16]⟩,
    ⟨none, .store N.zr (T 18) (V (q + 6 + 4)), 0, none, [18, 16, 16, 0, 1, 2, 3, 4, 5, 6, 7, 8, 9, 10, 11, 12, 13, 14, 15, 16]⟩] ρ w6 := by
  intro ρ w6 bz cs hrep m6 hz h1 h4 h15 hv8 hv9 hσ
  obtain ⟨bv, c', w8, w9, w10, happ, hst, m8, hst10, hTL⟩ := zmc hI h hlen m6 (Nat.le_refl _) hrep hz
  simp only [zdn]
  simp +decide only [zfe, ev_tmp, h4, h15, happ, stepV_ok]
  refine ⟨m8, ?_⟩
  simp +decide (disch := omega) only [zej, ev_tmp, ev_const, zam, h1, zab hI.lt hI1 hi, stepV_ok, Nat.zero_add]
  refine ⟨m8, ?_⟩
  simp +decide (disch := omega) only [zez, ev_tmp, zbc, hI.h3.run, stepV_ok]
  refine ⟨m8, ?_⟩
  simp +decide (disch := omega) only [zec, ev_tmp, zam, zbc, hst, stepU_ok]
  refine zf (K := fun σ' w' => zdy K Q .normal σ' w') fun σ9 hσ9 => hK _ _ ?_
  have g : ∀ k, k < q + 8 → σ9 k = σ k := fun k hk => by
   rw [hσ9 k]
   simp +decide (disch := omega) only [zam]
   exact hσ k hk
  refine W_put hI (L := ts.length) (bv := bv) (c := c') (cs := cs) (w10 := w10) ?_ ?_ ?_ hst10 (hQ _ _ _ g (hTL.env (g 0 (by omega)) (g 1 (by omega)) (g 2 (by omega))))
  ·rw [hσ9]; simp +decide (disch := omega) only [zam]; exact hv8
  ·rw [hσ9]; simp +decide (disch := omega) only [zam]; exact hv9
  ·rw [hσ9]; simp +decide (disch := omega) only [zam, zbc]
 have ezz : ∀ ρ : Env, (#[(0, zTop)] : Array (Nat × Operand)).map (fun p => (p.1, ev ρ p.2)) = #[(0, .agg zT.toArray)] := fun ρ => by simp [zTop, zT]
 show anyC P _ _ _ _ [15, 16, 17, 18, 19].length [15, 16, 17, 18, 19] _ _
 refine zch _ _ _ (by kernel_rfl) (by decide) (fun k hk => by simp at hk; subst hk; kernel_rfl) ?_
 show zbn P ⟨some 15, .buildSlice N.zr 1 #[(0, zTop)], 0, none, []⟩ _ _ _
 have hbs := zfl (w := w.drew) (v := .agg zT.toArray) (cs := zT) hI.lt hI1 rfl rfl (by decide) (by decide)
 simp +decide only [zcj, ezz, hbs, stepV_ok]
 have m7 : Mod w.drew (w.drew.alloc (.cells zT.toArray N.zy)) zp := Mod.alloc _ _ _
 refine ⟨(md.trans' m7).mono fun _ _ _ h => h.elim, fin (bz := w.heap.size) (cs := [.int .i64 x, .slice none 0 0, .bool false, .slice none 0 0, .slice none 0 0]) (zfk zhz) (md.trans' m7) (zw w.drew zT.toArray N.zy (0, 0)) ?_ ?_ ?_ ?_ ?_ ?_⟩
 ·simp +decide (disch := omega) only [zam, zbc]
 ·simp +decide (disch := omega) only [zam, zbc]
 ·simp +decide (disch := omega) only [zbc]; rfl
 ·simp +decide (disch := omega) only [zam, zbc]
 ·simp +decide (disch := omega) only [zam, zbc]
 ·intro k hk
  simp +decide (disch := omega) only [zam, envOf_var]
def lApp0S (N : Nums) (Tt idx ft i p : Nat) : List ROp := [
 ⟨some 0, .fieldAddr N.zy (V 2) 3, 0, none, []⟩, ⟨some 1, .load N.zr (T 0), 0, none, [0]⟩, ⟨some 2, .indexAddr N.zr (T 1) (.const (.int .i64 i)), 0, none, [1]⟩, ⟨some 3, .fieldAddr N.zy (T 2) 3, 0, none, [2]⟩, ⟨some 4, .load N.zr (T 3), 0, none, [3]⟩,
 ⟨some 5, .move (V 0), 0, none, []⟩, ⟨some 6, .nilCheck (T 5), 0, none, [5]⟩, ⟨some 7, .fieldAddr Tt (T 6) idx, 0, none, [6]⟩, ⟨some 8, .load ft (T 7), 0, none, [7]⟩, ⟨some 9, .move (V p), 0, none, []⟩, ⟨some 10, .indexAddr ft (T 8) (T 9), 0, none, [8, 9]⟩,
 ⟨some 11, .load N.zau (T 10), 0, none, [10]⟩, ⟨some 12, .convert N.zau N.za (T 11), 0, none, [11]⟩, ⟨some (p + 2 + 100), .build N.zy #[(1, T 12)], 0, none, [12]⟩, ⟨some (p + 3 + 100), .call ⟨.builtin .len, #[T 4], #[N.zr]⟩, N.ze, none, [4]⟩, ⟨some 15, .buildSlice N.zr 1 #[(0, zTop)], 0, none, []⟩,
 ⟨some (p + 4 + 100), .call ⟨.builtin .append, #[T 4, T 15], #[N.zr, N.zr]⟩, N.zr, none, [4, 15, 0, 1, 2, 3, 4, 5, 6, 7, 8, 9, 10, 11, 12, 13, 14, 15]⟩,
 ⟨some 17, .indexAddr N.zr (T 1) (.const (.int .i64 i)), 0, none, [1, 0, 1, 2, 3, 4, 5, 6, 7, 8, 9, 10, 11, 12, 13, 14, 15, 16]⟩, ⟨some 18, .fieldAddr N.zy (T 17) 3, 0, none, [17, 0, 1, 2, 3, 4, 5, 6, 7, 8, 9, 10, 11, 12, 13, 14, 15, 16]⟩,
 ⟨none, .store N.zr (T 18) (V (p + 4)), 0, none, [18, 16, 16, 0, 1, 2, 3, 4, 5, 6, 7, 8, 9, 10, 11, 12, 13, 14, 15, 16]⟩]
theorem W_app0Str (B : Base P N) (hI : zeu P N) {loc : List Nat} {N' : Nat} {Q : Exit → Env → World → Prop} {w0 w : World} {b oo off Tt idx ft be L c sz et bT bL bR n i lo q j : Nat} {x : List UInt8} {nl : Bool} {v : Value} {trs ts : List Tr} {σ : Env}
  (h : TL w0 (.pointer (some ⟨b, oo, none⟩)) bT bL bR n i trs lo nl v ts σ w) (hs : LSrc P w0 b oo off Tt idx ft be L c sz et) (hlen : ts.length + 1 < 1099511627776) (hp : σ (q + 6) = .int .i64 j) (hj : j < L)
  (hE : w0.cell? ⟨be, j * sz, none⟩ = some (strV x))
  (hQ : ∀ σ' v' w', (∀ k, k < q + 8 → σ' k = σ k) → TL w0 (.pointer (some ⟨b, oo, none⟩)) bT bL bR n i trs lo nl v' (ts ++ [zdq 0 x false]) σ' w' → Q .normal σ' w') : W P loc N' (.seq (.draw (lApp0S N Tt idx ft i (q + 6))) (cPut N (q + 6))) Q σ w := by
 obtain ⟨fs, hI1⟩ := hI.ti
 obtain ⟨hT, hc0, hlt, _, _, _, het⟩ := hs
 have f0 := h.f0
 have f1 := h.f1
 have f2 := h.f2
 have lt := h.lt
 have hi := h.le
 have hms := h.mod.size
 have keep : ∀ {w' : World} {k o : Nat} {u : Value}, Mod w w' (fun k _ => ¬ zao v k) → k < lo → w.cell? ⟨k, o, none⟩ = some u → w'.cell? ⟨k, o, none⟩ = some u := fun m hk hc => by
  rw [m.cell _ _ (zax (by rw [hc]; rfl)) (fun hn => by have := (h.blk hn).1; omega)]; exact hc
 have hb0 : b < w0.heap.size := zax (by rw [hc0]; rfl)
 have cF : w.cell? ⟨b, oo + off, none⟩ = some (.slice (some ⟨be, 0, none⟩) L c) := by rw [h.mod.cell _ _ hb0 (fun h => h)]; exact hc0
 have cT := h.cellT
 have cL := h.cellL
 have md : Mod w w.drew zp := Mod.drew _ _
 have md' : Mod w w.drew (fun k _ => ¬ zao v k) := Mod.drew _ _
 refine zd fun K hK => ziu B.mixed [true, true, true, true, true, true, true, true, true, true, true, true, false, false, true, false, false, false, false, false] rfl (zia (l0 := lApp0S N Tt idx ft i 6) q (by kernel_rfl) rfl) (fun w' => Mod w w' (fun k _ => ¬ zao v k)) md' fun τ => ?_
 have cE : w.cell? ⟨be, j * sz, none⟩ = some (strV x) := by rw [h.mod.cell _ _ (zax (by rw [hE]; rfl)) (fun h => h)]; exact hE
 have hbe : be < w0.heap.size := zax (by rw [hE]; rfl)
 have e2 : zdm σ τ 102 = .pointer (some ⟨bT, 0, none⟩) := by rw [← f2]; exact envOf_var σ τ 2
 have ep : zdm σ τ (q + 6 + 100) = .int .i64 j := by rw [← hp]; exact envOf_var σ τ (q + 6)
 refine zc (.pointer (some ⟨bT, 3, none⟩)) (fun w' _ => zn (by simp +decide only [ev_tmp, e2, hI.h3.run])) rfl ?_
 refine zc (.slice (some ⟨bL, 0, none⟩) n n) (fun w' hw => zn (by simp +decide only [bE, BEq.rfl, ev_tmp, hI.lt.run_load1 rfl, keep hw (show bT < lo by omega) cT, ldc_some])) rfl ?_
 refine zc (.pointer (some ⟨bL, i * 5, none⟩)) (fun w' _ => zn (by simp +decide only [bE, BEq.rfl, Nat.zero_add, ev_tmp, ev_const, zab hI.lt hI1 hi])) rfl ?_
 refine zc (.pointer (some ⟨bL, i * 5 + 3, none⟩)) (fun w' _ => zn (by simp +decide only [bE, BEq.rfl, ev_tmp, hI.h3.run])) rfl ?_
 refine zc v (fun w' hw => zn (by simp +decide only [bE, BEq.rfl, ev_tmp, hI.lt.run_load1 rfl, keep hw (show bL < lo by omega) cL, ldc_some])) rfl ?_
 refine zc (.pointer (some ⟨b, oo, none⟩)) (fun w' _ => by rw [zat, ev_tmp]; simp +decide only [bE, Nat.reduceBeqDiff, Nat.zero_add, f0]) rfl ?_
 refine zc (.pointer (some ⟨b, oo, none⟩)) (fun w' hw => rfl) rfl ?_
 refine zc (.pointer (some ⟨b, oo + off, none⟩)) (fun w' _ => zn (by simp +decide only [bE, BEq.rfl, ev_tmp, hT.run])) rfl ?_
 refine zc (.slice (some ⟨be, 0, none⟩) L c) (fun w' hw => zn (by simp +decide only [bE, BEq.rfl, ev_tmp, hlt.run_load1 rfl, keep hw (show b < lo by omega) cF, ldc_some])) rfl ?_
 refine zc (.int .i64 j) (fun w' _ => by rw [zat, ev_tmp]; simp +decide (disch := omega) only [zgm, ep]) rfl ?_
 refine zc (.pointer (some ⟨be, j * sz, none⟩)) (fun w' _ => zn (by simp +decide only [bE, Nat.reduceBeqDiff, BEq.rfl, Nat.zero_add, ev_tmp, zab hlt het hj])) rfl ?_
 refine zc (strV x) (fun w' hw => zn (by simp +decide only [bE, BEq.rfl, ev_tmp, B.string.run_load1 rfl, keep hw (show be < lo by omega) cE, ldc_some])) rfl ?_
 simp only []
 refine ⟨.int .i64 ts.length, fun w' _ => .inl ⟨rfl, ?_⟩, ?_⟩
 ·have hl := h.lenV (P := P) (N := N) hI (ty := N.ze) (w' := w')
  have e4 : ∀ ρ : Env, ρ 4 = v → (exec ρ ⟨some (q + 6 + 3 + 100), .call ⟨.builtin .len, #[T 4], #[N.zr]⟩, N.ze, none, [4]⟩).run P w' = .ok (.value (.int .i64 ts.length)) w' := fun ρ h4 => by
   simp +decide only [exec, execOp, resolve, invoke, builtin, List.map_toArray, List.map, ev_tmp, h4]
   simp [hl]
  exact e4 _ (by simp +decide (disch := omega) only [zam, zbc])
 have fin : ∀ {ρ : Env} {w6 : World} {bz : Nat} {cs : List Value}, RepT w6 (NB w.heap.size w6.heap.size) (zdq 0 x false) cs → Mod w w6 zp → w6.rangeAt bz 0 zT → ρ 1 = .slice (some ⟨bL, 0, none⟩) n n → ρ 4 = v → ρ 15 = .slice (some ⟨bz, 0, none⟩) 1 1 →
   ρ (q + 6 + 2 + 100) = .agg cs.toArray → ρ (q + 6 + 3 + 100) = .int .i64 ts.length → (∀ k, k < q + 8 → ρ (k + 100) = σ k) →
   zdn P (fun w' => Mod w w' (fun k _ => ¬ zao v k)) (fun ρ w => zdy K Q .normal (locs ρ) w) [⟨some (q + 6 + 4 + 100), .call ⟨.builtin .append, #[T 4, T 15], #[N.zr, N.zr]⟩, N.zr, none, [4, 15, 0, 1, 2, 3, 4, 5, 6, 7, 8, 9, 10, 11, 12, 13, 14, 15]⟩,
    ⟨some 17, .indexAddr N.zr (T 1) (.const (.int .i64 i)), 0, none, [1, 0, 1, 2, 3, 4, 5, 6, 7, 8, 9, 10, 11, 12, 13, 14, 15, 16]⟩, ⟨some 18, .fieldAddr N.zy (T 17) 3, 0, none, [17, 0, 1, 2, 3, 4, 5, 6, 7, 8, 9, 10, 11, 12, 13, 14, 15, 16]⟩,
    ⟨none, .store N.zr (T 18) (V (q + 6 + 4)), 0, none, [18, 16, 16, 0, 1, 2, 3, 4, 5, 6, 7, 8, 9, 10, 11, 12, 13, 14, 15, 16]⟩] ρ w6 := by
  intro ρ w6 bz cs hrep m6 hz h1 h4 h15 hv8 hv9 hσ
  obtain ⟨bv, c', w8, w9, w10, happ, hst, m8, hst10, hTL⟩ := zmc hI h hlen m6 (Nat.le_refl _) hrep hz
  simp only [zdn]
  simp +decide only [zfe, ev_tmp, h4, h15, happ, stepV_ok]
  refine ⟨m8, ?_⟩
  simp +decide (disch := omega) only [zej, ev_tmp, ev_const, zam, h1, zab hI.lt hI1 hi, stepV_ok, Nat.zero_add]
  refine ⟨m8, ?_⟩
  simp +decide (disch := omega) only [zez, ev_tmp, zbc, hI.h3.run, stepV_ok]
  refine ⟨m8, ?_⟩
  simp +decide (disch := omega) only [zec, ev_tmp, zam, zbc, hst, stepU_ok]
  refine zf (K := fun σ' w' => zdy K Q .normal σ' w') fun σ9 hσ9 => hK _ _ ?_
  have g : ∀ k, k < q + 8 → σ9 k = σ k := fun k hk => by
   rw [hσ9 k]
   simp +decide (disch := omega) only [zam]
   exact hσ k hk
  refine W_put hI (L := ts.length) (bv := bv) (c := c') (cs := cs) (w10 := w10) ?_ ?_ ?_ hst10 (hQ _ _ _ g (hTL.env (g 0 (by omega)) (g 1 (by omega)) (g 2 (by omega))))
  ·rw [hσ9]; simp +decide (disch := omega) only [zam]; exact hv8
  ·rw [hσ9]; simp +decide (disch := omega) only [zam]; exact hv9
  ·rw [hσ9]; simp +decide (disch := omega) only [zam, zbc]
 have ezz : ∀ ρ : Env, (#[(0, zTop)] : Array (Nat × Operand)).map (fun p => (p.1, ev ρ p.2)) = #[(0, .agg zT.toArray)] := fun ρ => by simp [zTop, zT]
 have e12 : ∀ ρ : Env, (#[(1, T 12)] : Array (Nat × Operand)).map (fun p => (p.1, ev ρ p.2)) = #[(1, ρ 12)] := fun ρ => by simp
 have nb' : ∀ {w' : World}, Mod w w' zp → Mod w w' (fun k _ => ¬ zao v k) := fun m => m.mono fun _ _ _ h => h.elim
 have hmk : ∀ {w5 w6 : World} {u : Value}, w.heap.size ≤ w5.heap.size → tagV w6 (NB w5.heap.size w6.heap.size) u x → RepT w6 (NB w.heap.size w6.heap.size) (zdq 0 x false) [.int .i64 0, u, .bool false, .slice none 0 0, .slice none 0 0] := fun hs htv =>
  zfk (htv.imp (fun h => ⟨h.1, h.2⟩) fun h => h.mono fun k hk => ⟨by have := hk.1; omega, hk.2⟩)
 have stay : ∀ {w6 w7 : World} {cs : List Value}, Mod w6 w7 zp → RepT w6 (NB w.heap.size w6.heap.size) (zdq 0 x false) cs → RepT w7 (NB w.heap.size w7.heap.size) (zdq 0 x false) cs := fun m hr =>
  RepT.mod m (fun k hk => ⟨hk.2, fun _ h => h, ⟨hk.1, by have := hk.2; have := m.size; omega⟩⟩) _ hr
 show anyC P _ _ _ _ (6 + 1) [12, 13, 15, 16, 17, 18, 19] _ _
 refine zfr [12, 15] (by kernel_rfl) fun k hk => ?_
 simp only [List.mem_cons, List.not_mem_nil, or_false] at hk
 rcases hk with rfl | rfl
 ·show zbn P ⟨some 12, .convert N.zau N.za (T 11), 0, none, [11]⟩ _ _ _
  obtain ⟨u, w6, hconv, htv, m6d⟩ := zjs B w.drew x
  have m6 : Mod w w6 zp := md.trans' m6d
  have hrep6 := hmk (w5 := w.drew) (Nat.le_refl _) htv
  simp +decide (disch := omega) only [ziz, ev_tmp, zam, zbc, hconv, stepV_ok]
  refine ⟨.inr (nb' m6), ?_⟩
  show anyC P _ _ _ _ (5 + 1) [13, 15, 16, 17, 18, 19] _ _
  refine zfr [13, 15] (by kernel_rfl) fun k hk => ?_
  simp only [List.mem_cons, List.not_mem_nil, or_false] at hk
  rcases hk with rfl | rfl
  ·show zbn P ⟨some (q + 6 + 2 + 100), .build N.zy #[(1, T 12)], 0, none, [12]⟩ _ _ _
   simp +decide only [zen, e12, zbc, zlu hI _ htv.one, stepV_ok]
   refine ⟨.inr (nb' m6), ?_⟩
   show anyC P _ _ _ _ [15, 16, 17, 18, 19].length [15, 16, 17, 18, 19] _ _
   refine zch _ _ _ (by kernel_rfl) (by decide) (fun k hk => by simp at hk; subst hk; kernel_rfl) ?_
   show zbn P ⟨some 15, .buildSlice N.zr 1 #[(0, zTop)], 0, none, []⟩ _ _ _
   have hbs := zfl (w := w6) (v := .agg zT.toArray) (cs := zT) hI.lt hI1 rfl rfl (by decide) (by decide)
   simp +decide only [zcj, ezz, hbs, stepV_ok]
   have m7 : Mod w6 (w6.alloc (.cells zT.toArray N.zy)) zp := Mod.alloc _ _ _
   refine ⟨nb' (m6.trans' m7), fin (cs := [.int .i64 0, u, .bool false, .slice none 0 0, .slice none 0 0]) (stay m7 hrep6) (m6.trans' m7) (zw w6 zT.toArray N.zy (0, 0)) ?_ ?_ ?_ ?_ ?_ ?_⟩
   ·simp +decide (disch := omega) only [zam, zbc]
   ·simp +decide (disch := omega) only [zam, zbc]
   ·simp +decide (disch := omega) only [zbc]
   ·simp +decide (disch := omega) only [zam, zbc]
   ·simp +decide (disch := omega) only [zam, zbc]
   ·intro k hk
    simp +decide (disch := omega) only [zam, envOf_var]
  ·show zbn P ⟨some 15, .buildSlice N.zr 1 #[(0, zTop)], 0, none, []⟩ _ _ _
   have hbs := zfl (w := w6) (v := .agg zT.toArray) (cs := zT) hI.lt hI1 rfl rfl (by decide) (by decide)
   simp +decide only [zcj, ezz, hbs, stepV_ok]
   have m7 : Mod w6 (w6.alloc (.cells zT.toArray N.zy)) zp := Mod.alloc _ _ _
   refine ⟨.inr (nb' (m6.trans' m7)), ?_⟩
   show anyC P _ _ _ _ [13, 16, 17, 18, 19].length [13, 16, 17, 18, 19] _ _
   refine zch _ _ _ (by kernel_rfl) (by decide) (fun k hk => by simp at hk; subst hk; kernel_rfl) ?_
   show zbn P ⟨some (q + 6 + 2 + 100), .build N.zy #[(1, T 12)], 0, none, [12]⟩ _ _ _
   have e12' : ∀ (ρ : Env) (u' : Value), ρ 12 = u' → (#[(1, T 12)] : Array (Nat × Operand)).map (fun p => (p.1, ev ρ p.2)) = #[(1, u')] := fun ρ u' h => by simp [h]
   rw [zen, e12' _ u (by rw [zam (by decide), zbc]), zlu hI _ htv.one, stepV_ok]
   refine ⟨nb' (m6.trans' m7), fin (cs := [.int .i64 0, u, .bool false, .slice none 0 0, .slice none 0 0]) (stay m7 hrep6) (m6.trans' m7) (zw w6 zT.toArray N.zy (0, 0)) ?_ ?_ ?_ ?_ ?_ ?_⟩
   ·simp +decide (disch := omega) only [zam, zbc]
   ·simp +decide (disch := omega) only [zam, zbc]
   ·simp +decide (disch := omega) only [zam, zbc]
   ·simp +decide (disch := omega) only [zbc]
   ·simp +decide (disch := omega) only [zam, zbc]
   ·intro k hk
    simp +decide (disch := omega) only [zam, envOf_var]
 ·show zbn P ⟨some 15, .buildSlice N.zr 1 #[(0, zTop)], 0, none, []⟩ _ _ _
  have hbs := zfl (w := w.drew) (v := .agg zT.toArray) (cs := zT) hI.lt hI1 rfl rfl (by decide) (by decide)
  simp +decide only [zcj, ezz, hbs, stepV_ok]
  obtain ⟨w1, hw1⟩ : ∃ w1, w1 = w.drew.alloc (.cells zT.toArray N.zy) := ⟨_, rfl⟩
  have m1 : Mod w.drew w1 zp := by rw [hw1]; exact Mod.alloc _ _ _
  have s1 : w1.heap.size = w.heap.size + 1 := by rw [hw1]; exact zan w.drew _
  have r1 : w1.rangeAt w.heap.size 0 zT := by rw [hw1]; exact zw w.drew zT.toArray N.zy (0, 0)
  rw [← hw1]
  clear hw1 hbs
  have m01 : Mod w w1 zp := md.trans' m1
  refine ⟨.inr (nb' m01), ?_⟩
  show anyC P _ _ _ _ [12, 13, 16, 17, 18, 19].length [12, 13, 16, 17, 18, 19] _ _
  refine zch _ _ _ (by kernel_rfl) (by decide) (fun k hk => by simp at hk; subst hk; kernel_rfl) ?_
  show zbn P ⟨some 12, .convert N.zau N.za (T 11), 0, none, [11]⟩ _ _ _
  obtain ⟨u, w6, hconv, htv, m6d⟩ := zjs B w1 x
  have m6 : Mod w w6 zp := m01.trans' m6d
  have hrep6 := hmk (w5 := w1) (by omega) htv
  simp +decide (disch := omega) only [ziz, ev_tmp, zam, zbc, hconv, stepV_ok]
  refine ⟨nb' m6, ?_⟩
  show zbn P ⟨some (q + 6 + 2 + 100), .build N.zy #[(1, T 12)], 0, none, [12]⟩ _ _ _
  simp +decide only [zen, e12, zbc, zlu hI _ htv.one, stepV_ok]
  refine ⟨nb' m6, fin (bz := w.heap.size) (cs := [.int .i64 0, u, .bool false, .slice none 0 0, .slice none 0 0]) hrep6 m6 (zv m6d r1) ?_ ?_ ?_ ?_ ?_ ?_⟩
  ·simp +decide (disch := omega) only [zam, zbc]
  ·simp +decide (disch := omega) only [zam, zbc]
  ·simp +decide (disch := omega) only [zam, zbc]; rfl
  ·simp +decide (disch := omega) only [zbc]
  ·simp +decide (disch := omega) only [zam, zbc]
  ·intro k hk
   simp +decide (disch := omega) only [zam, envOf_var]
end
section
variable {P : Program} {N : Nums}
def cTUuid (N : Nums) (Tt idx i : Nat) : C := .draw [
 ⟨some 0, .fieldAddr N.zy (V 2) 3, 0, none, []⟩, ⟨some 1, .load N.zr (T 0), 0, none, [0]⟩, ⟨some 2, .move (V 0), 0, none, []⟩, ⟨some 3, .nilCheck (T 2), 0, none, [2]⟩, ⟨some 4, .fieldAddr Tt (T 3) idx, 0, none, [3]⟩, ⟨some 5, .slice N.zbm (T 4) none none none, 0, none, [4]⟩,
 ⟨some 6, .call ⟨.builtin .append, #[.const (.slice none 0 0), T 5], #[N.za, N.za]⟩, N.za, none, [5]⟩, ⟨some 7, .build N.zy #[(1, T 6)], 0, none, [6]⟩,
 ⟨some 8, .indexAddr N.zr (T 1) (.const (.int .i64 i)), 0, none, [1, 0, 1, 2, 3, 4, 5, 6, 7]⟩, ⟨none, .store N.zy (T 8) (T 7), 0, none, [8, 7, 6, 0, 1, 2, 3, 4, 5, 6, 7]⟩]
theorem W_tUuid (B : Base P N) (hI : zeu P N) {loc : List Nat} {N' : Nat} {Q : Exit → Env → World → Prop} {w0 w : World} {b oo off Tt idx bT bL bR n i : Nat} {trs : List Tr} {σ : Env} {s : List UInt8} (hu : N.zbm ≠ 0) (hs : s.length = 16)
  (h : TF w0 (.pointer (some ⟨b, oo, none⟩)) bT bL bR n i trs σ w) (hi : i < n) (hT : HF P Tt idx off) (hc : w0.rangeAt b (oo + off) (s.map zbf))
  (hQ : ∀ σ' w', TF w0 (.pointer (some ⟨b, oo, none⟩)) bT bL bR n (i + 1) (trs ++ [zdq 0 s false]) σ' w' → Q .normal σ' w') : W P loc N' (cTUuid N Tt idx i) Q σ w := by
 obtain ⟨fs, hI1⟩ := hI.ti
 have hU := B.uuid hu
 have f0 := h.f0
 have f1 := h.f1
 have f2 := h.f2
 have cT : w.cell? ⟨bT, 3, none⟩ = some (.slice (some ⟨bL, 0, none⟩) n n) := h.tc 3 _ rfl
 have st : ∀ {w' : World} {k o : Nat} {v : Value}, Mod w w' zp → w.cell? ⟨k, o, none⟩ = some v → w'.cell? ⟨k, o, none⟩ = some v := fun m hc => by rw [m.cell _ _ (zax (by rw [hc]; rfl)) (fun h => h)]; exact hc
 have md : Mod w w.drew zp := Mod.drew _ _
 refine zfx B.mixed [true, true, true, true, true, true, false, false, false, false] (by kernel_rfl) (fun w' => Mod w w' zp) md fun τ => ?_
 have e2 : zdm σ τ 102 = .pointer (some ⟨bT, 0, none⟩) := by rw [← f2]; exact envOf_var σ τ 2
 refine zc (.pointer (some ⟨bT, 3, none⟩)) (fun w' _ => zn (by
  simp +decide only [ev_tmp, e2, hI.h3.run])) rfl ?_
 refine zc (.slice (some ⟨bL, 0, none⟩) n n) (fun w' hw => zn (by
  simp +decide only [bE, BEq.rfl, ev_tmp, hI.lt.run_load1 rfl, st hw cT, ldc_some])) rfl ?_
 refine zc (.pointer (some ⟨b, oo, none⟩)) (fun w' hw => by
  rw [zat, ev_tmp]
  simp +decide only [bE, Nat.reduceBeqDiff, Nat.zero_add, f0]) rfl ?_
 refine zc (.pointer (some ⟨b, oo, none⟩)) (fun w' hw => rfl) rfl ?_
 refine zc (.pointer (some ⟨b, oo + off, none⟩)) (fun w' hw => zn (by
  simp +decide only [bE, BEq.rfl, ev_tmp, hT.run])) rfl ?_
 refine zc (.slice (some ⟨b, oo + off, none⟩) 16 16) (fun w' hw => zn (by
  have e := zjc (w := w') hU B.uint8 (ad := ⟨b, oo + off, none⟩)
  simp +decide only [bE, BEq.rfl, ev_tmp, Option.map_none, e])) rfl ?_
 simp only [zde, zdd, List.zip_cons_cons, List.zip_nil_right, List.zipWith_cons_cons, List.zipWith_nil_right, List.filter, Bool.not_true, Bool.not_false, List.map, zdn]
 have htv0 : tagV w.drew (fun _ => True) (.slice (some ⟨b, oo + off, none⟩) 16 16) s := .inr ⟨b, oo + off, 16, by rw [hs], by omega, fun _ => trivial, zv (h.mod.trans' md) hc⟩
 obtain ⟨v', w6, hcp, htv, m6⟩ := zgz (ty := N.za) B htv0 (by omega)
 have mw := md.trans' m6
 have nbw : ∀ k, NB w.drew.heap.size w6.heap.size k → NB w.heap.size w6.heap.size k := fun k h => h
 simp +decide only [bK, bE, Nat.reduceBeqDiff, BEq.rfl, hcp]
 refine ⟨mw, ?_⟩
 have e6 : ∀ ρ : Env, (#[(1, T 6)] : Array (Nat × Operand)).map (fun p => (p.1, ev ρ p.2)) = #[(1, ρ 6)] := fun ρ => by simp
 simp +decide only [bK, bE, BEq.rfl, e6, zlu hI _ htv.one]
 refine ⟨mw, ?_⟩
 simp +decide only [bK, Nat.zero_add, zab hI.lt hI1 hi]
 refine ⟨mw, ?_⟩
 obtain ⟨w8, hst, htf⟩ := ziy hI (w7 := w6) (σ' := σ) h hi mw (zfk (n := 0) (nl := false) (htv.imp (fun h => ⟨h.1, h.2⟩) fun h => h.mono nbw)) rfl rfl rfl
 simp +decide only [bK, hst]
 refine zf (K := fun σ' w' => Q .normal σ' w') fun σ9 hσ => hQ _ _ (htf.env ?_ ?_ ?_)
 ·rw [hσ 0]; simp +decide only [bE, Nat.reduceBeqDiff, Nat.zero_add]
 ·rw [hσ 1]; simp +decide only [bE, Nat.reduceBeqDiff, Nat.reduceAdd]
 ·rw [hσ 2]; simp +decide only [bE, Nat.reduceBeqDiff, Nat.reduceAdd]
def cTRow (N : Nums) (Tt idx f pT i : Nat) : C := .draw [
 ⟨some 0, .fieldAddr N.zy (V 2) 3, 0, none, []⟩, ⟨some 1, .load N.zr (T 0), 0, none, [0]⟩, ⟨some 2, .move (V 0), 0, none, []⟩, ⟨some 3, .nilCheck (T 2), 0, none, [2]⟩, ⟨some 4, .fieldAddr Tt (T 3) idx, 0, none, [3]⟩,
 ⟨some 5, .call ⟨.value (.func f), #[T 4], #[pT]⟩, N.zy, none, [4]⟩, ⟨some 6, .indexAddr N.zr (T 1) (.const (.int .i64 i)), 0, none, [1, 0, 1, 2, 3, 4, 5]⟩, ⟨none, .store N.zy (T 6) (T 5), 0, none, [6, 5, 5, 0, 1, 2, 3, 4, 5]⟩]
theorem W_tRow (B : Base P N) (hI : zeu P N) {loc : List Nat} {N' : Nat} {Q : Exit → Env → World → Prop} {w0 w : World} {b oo off Tt idx bT bL bR n i f pT : Nat} {trs : List Tr} {σ : Env} {t : Tr} (hf : zcx P f) (hcall : ∀ w1, Mod w0 w1 zp → Call P f #[.pointer (some ⟨b, oo + off, none⟩)] w1 (Told w1 t))
  (h : TF w0 (.pointer (some ⟨b, oo, none⟩)) bT bL bR n i trs σ w) (hi : i < n) (hT : HF P Tt idx off)
  (hQ : ∀ σ' w', TF w0 (.pointer (some ⟨b, oo, none⟩)) bT bL bR n (i + 1) (trs ++ [t]) σ' w' → Q .normal σ' w') : W P loc N' (cTRow N Tt idx f pT i) Q σ w := by
 obtain ⟨fs, hI1⟩ := hI.ti
 have f0 := h.f0
 have f1 := h.f1
 have f2 := h.f2
 have cT : w.cell? ⟨bT, 3, none⟩ = some (.slice (some ⟨bL, 0, none⟩) n n) := h.tc 3 _ rfl
 have st : ∀ {w' : World} {k o : Nat} {v : Value}, Mod w w' zp → w.cell? ⟨k, o, none⟩ = some v → w'.cell? ⟨k, o, none⟩ = some v := fun m hc => by rw [m.cell _ _ (zax (by rw [hc]; rfl)) (fun h => h)]; exact hc
 have md : Mod w w.drew zp := Mod.drew _ _
 refine zfx B.mixed [true, true, true, true, true, false, false, false] (by kernel_rfl) (fun w' => Mod w w' zp) md fun τ => ?_
 have e2 : zdm σ τ 102 = .pointer (some ⟨bT, 0, none⟩) := by rw [← f2]; exact envOf_var σ τ 2
 refine zc (.pointer (some ⟨bT, 3, none⟩)) (fun w' _ => zn (by
  simp +decide only [ev_tmp, e2, hI.h3.run])) rfl ?_
 refine zc (.slice (some ⟨bL, 0, none⟩) n n) (fun w' hw => zn (by
  simp +decide only [bE, BEq.rfl, ev_tmp, hI.lt.run_load1 rfl, st hw cT, ldc_some])) rfl ?_
 refine zc (.pointer (some ⟨b, oo, none⟩)) (fun w' hw => by
  rw [zat, ev_tmp]
  simp +decide only [bE, Nat.reduceBeqDiff, Nat.zero_add, f0]) rfl ?_
 refine zc (.pointer (some ⟨b, oo, none⟩)) (fun w' hw => rfl) rfl ?_
 refine zc (.pointer (some ⟨b, oo + off, none⟩)) (fun w' hw => zn (by
  simp +decide only [bE, BEq.rfl, ev_tmp, hT.run])) rfl ?_
 simp only [zde, zdd, List.zip_cons_cons, List.zip_nil_right, List.zipWith_cons_cons, List.zipWith_nil_right, List.filter, Bool.not_true, Bool.not_false, List.map, zdn]
 rw [zal hf]
 simp +decide only [bK, bE, Nat.reduceBeqDiff, BEq.rfl]
 refine Call.mono (Rt' := _) (hcall w.drew (h.mod.trans' md)) ?_
 rintro _ w6 ⟨cs, rfl, hrep, m6⟩
 have mw := md.trans' m6
 refine ⟨mw, ?_⟩
 simp +decide only [bK, Nat.zero_add, zab hI.lt hI1 hi]
 refine ⟨mw, ?_⟩
 obtain ⟨w8, hst, htf⟩ := ziy hI (w7 := w6) (σ' := σ) h hi mw hrep rfl rfl rfl
 simp +decide only [bK, hst]
 refine zf (K := fun σ' w' => Q .normal σ' w') fun σ9 hσ => hQ _ _ (htf.env ?_ ?_ ?_)
 ·rw [hσ 0]; simp +decide only [bE, Nat.reduceBeqDiff, Nat.zero_add]
 ·rw [hσ 1]; simp +decide only [bE, Nat.reduceBeqDiff, Nat.reduceAdd]
 ·rw [hσ 2]; simp +decide only [bE, Nat.reduceBeqDiff, Nat.reduceAdd]
end
section
variable {P : Program} {N : Nums}
def lAppU (N : Nums) (Tt idx ft i p : Nat) : List ROp := [
 ⟨some 0, .fieldAddr N.zy (V 2) 3, 0, none, []⟩, ⟨some 1, .load N.zr (T 0), 0, none, [0]⟩, ⟨some 2, .fieldAddr N.zy (V 2) 3, 0, none, []⟩, ⟨some 3, .load N.zr (T 2), 0, none, [2]⟩,
 ⟨some 4, .indexAddr N.zr (T 3) (.const (.int .i64 i)), 0, none, [3]⟩, ⟨some 5, .fieldAddr N.zy (T 4) 3, 0, none, [4]⟩, ⟨some 6, .load N.zr (T 5), 0, none, [5]⟩,
 ⟨some 7, .move (V 0), 0, none, []⟩, ⟨some 8, .nilCheck (T 7), 0, none, [7]⟩, ⟨some 9, .fieldAddr Tt (T 8) idx, 0, none, [8]⟩, ⟨some 10, .load ft (T 9), 0, none, [9]⟩, ⟨some 11, .move (V p), 0, none, []⟩, ⟨some 12, .indexAddr ft (T 10) (T 11), 0, none, [10, 11]⟩,
 ⟨some 13, .slice N.zbm (T 12) none none none, 0, none, [12]⟩, ⟨some 14, .call ⟨.builtin .append, #[.const (.slice none 0 0), T 13], #[N.za, N.za]⟩, N.za, none, [13]⟩, ⟨some 15, .build N.zy #[(1, T 14)], 0, none, [14]⟩, ⟨some 16, .buildSlice N.zr 1 #[(0, T 15)], 0, none, [15]⟩, ⟨some 17, .call ⟨.builtin .append, #[T 6, T 16], #[N.zr, N.zr]⟩, N.zr, none, [6, 16, 14]⟩,
 ⟨some 18, .indexAddr N.zr (T 1) (.const (.int .i64 i)), 0, none, [1, 0, 1, 2, 3, 4, 5, 6, 7, 8, 9, 10, 11, 12, 13, 14, 15, 16, 17]⟩, ⟨some 19, .fieldAddr N.zy (T 18) 3, 0, none, [18, 0, 1, 2, 3, 4, 5, 6, 7, 8, 9, 10, 11, 12, 13, 14, 15, 16, 17]⟩,
 ⟨none, .store N.zr (T 19) (T 17), 0, none, [19, 17, 17, 0, 1, 2, 3, 4, 5, 6, 7, 8, 9, 10, 11, 12, 13, 14, 15, 16, 17]⟩]
theorem W_appUuid (B : Base P N) (hI : zeu P N) {loc : List Nat} {N' : Nat} {Q : Exit → Env → World → Prop} {w0 w : World} {b oo off Tt idx ft be L c sz et bT bL bR n i lo q j : Nat} {x : List UInt8} {nl : Bool} {v : Value} {trs ts : List Tr} {σ : Env}
  (h : TL w0 (.pointer (some ⟨b, oo, none⟩)) bT bL bR n i trs lo nl v ts σ w) (hs : LSrc P w0 b oo off Tt idx ft be L c sz et) (hlen : ts.length + 1 < 1099511627776) (hp : σ (q + 6) = .int .i64 j) (hj : j < L)
  (hU : N.zbm ≠ 0) (hx16 : x.length = 16) (hE : w0.rangeAt be (j * sz) (x.map zbf))
  (hQ : ∀ v' w', TL w0 (.pointer (some ⟨b, oo, none⟩)) bT bL bR n i trs lo nl v' (ts ++ [zdq 0 x false]) σ w' → Q .normal σ w') : W P loc N' (.draw (lAppU N Tt idx ft i (q + 6))) Q σ w := by
 obtain ⟨fs, hI1⟩ := hI.ti
 obtain ⟨hT, hc0, hlt, _, _, _, het⟩ := hs
 have f0 := h.f0
 have f1 := h.f1
 have f2 := h.f2
 have lt := h.lt
 have hi := h.le
 have hms := h.mod.size
 have keep : ∀ {w' : World} {k o : Nat} {u : Value}, Mod w w' (fun k _ => ¬ zao v k) → k < lo → w.cell? ⟨k, o, none⟩ = some u → w'.cell? ⟨k, o, none⟩ = some u := fun m hk hc => by
  rw [m.cell _ _ (zax (by rw [hc]; rfl)) (fun hn => by have := (h.blk hn).1; omega)]; exact hc
 have hb0 : b < w0.heap.size := zax (by rw [hc0]; rfl)
 have cF : w.cell? ⟨b, oo + off, none⟩ = some (.slice (some ⟨be, 0, none⟩) L c) := by rw [h.mod.cell _ _ hb0 (fun h => h)]; exact hc0
 have cT := h.cellT
 have cL := h.cellL
 have md : Mod w w.drew zp := Mod.drew _ _
 have md' : Mod w w.drew (fun k _ => ¬ zao v k) := Mod.drew _ _
 refine ziu B.mixed [true, true, true, true, true, true, true, true, true, true, true, true, true, true, false, false, false, false, false, false, false] rfl (zia (l0 := lAppU N Tt idx ft i 6) q (by kernel_rfl) rfl) (fun w' => Mod w w' (fun k _ => ¬ zao v k)) md' fun τ => ?_
 have cE : w.rangeAt be (j * sz) (x.map zbf) := zv h.mod hE
 have htv0 : ∀ {w' : World}, Mod w w' zp → tagV w' (fun _ => True) (.slice (some ⟨be, j * sz, none⟩) 16 16) x := fun m => .inr ⟨be, j * sz, 16, by rw [hx16], by omega, fun _ => trivial, zv m cE⟩
 have hbe : be < w0.heap.size := by
  cases x with
  | nil => simp at hx16
  | cons y x => exact zax (by rw [hE 0 (zbf y) rfl]; rfl)
 have e2 : zdm σ τ 102 = .pointer (some ⟨bT, 0, none⟩) := by rw [← f2]; exact envOf_var σ τ 2
 have e0 : zdm σ τ 100 = .pointer (some ⟨b, oo, none⟩) := by rw [← f0]; exact envOf_var σ τ 0
 have ep : zdm σ τ (q + 6 + 100) = .int .i64 j := by rw [← hp]; exact envOf_var σ τ (q + 6)
 refine zc (.pointer (some ⟨bT, 3, none⟩)) (fun w' _ => zn (by simp +decide only [ev_tmp, e2, hI.h3.run])) rfl ?_
 refine zc (.slice (some ⟨bL, 0, none⟩) n n) (fun w' hw => zn (by simp +decide only [bE, BEq.rfl, ev_tmp, hI.lt.run_load1 rfl, keep hw (show bT < lo by omega) cT, ldc_some])) rfl ?_
 refine zc (.pointer (some ⟨bT, 3, none⟩)) (fun w' _ => zn (by simp +decide only [bE, Nat.reduceBeqDiff, Nat.reduceAdd, Nat.zero_add, ev_tmp, f2, hI.h3.run])) rfl ?_
 refine zc (.slice (some ⟨bL, 0, none⟩) n n) (fun w' hw => zn (by simp +decide only [bE, BEq.rfl, ev_tmp, hI.lt.run_load1 rfl, keep hw (show bT < lo by omega) cT, ldc_some])) rfl ?_
 refine zc (.pointer (some ⟨bL, i * 5, none⟩)) (fun w' _ => zn (by simp +decide only [bE, BEq.rfl, Nat.zero_add, ev_tmp, ev_const, zab hI.lt hI1 hi])) rfl ?_
 refine zc (.pointer (some ⟨bL, i * 5 + 3, none⟩)) (fun w' _ => zn (by simp +decide only [bE, BEq.rfl, ev_tmp, hI.h3.run])) rfl ?_
 refine zc v (fun w' hw => zn (by simp +decide only [bE, BEq.rfl, ev_tmp, hI.lt.run_load1 rfl, keep hw (show bL < lo by omega) cL, ldc_some])) rfl ?_
 refine zc (.pointer (some ⟨b, oo, none⟩)) (fun w' _ => by rw [zat, ev_tmp]; simp +decide only [bE, Nat.reduceBeqDiff, Nat.zero_add, f0]) rfl ?_
 refine zc (.pointer (some ⟨b, oo, none⟩)) (fun w' hw => rfl) rfl ?_
 refine zc (.pointer (some ⟨b, oo + off, none⟩)) (fun w' _ => zn (by simp +decide only [bE, BEq.rfl, ev_tmp, hT.run])) rfl ?_
 refine zc (.slice (some ⟨be, 0, none⟩) L c) (fun w' hw => zn (by simp +decide only [bE, BEq.rfl, ev_tmp, hlt.run_load1 rfl, keep hw (show b < lo by omega) cF, ldc_some])) rfl ?_
 refine zc (.int .i64 j) (fun w' _ => by rw [zat, ev_tmp]; simp +decide (disch := omega) only [zgm, ep]) rfl ?_
 refine zc (.pointer (some ⟨be, j * sz, none⟩)) (fun w' _ => zn (by simp +decide only [bE, Nat.reduceBeqDiff, BEq.rfl, Nat.zero_add, ev_tmp, zab hlt het hj])) rfl ?_
 refine zc (.slice (some ⟨be, j * sz, none⟩) 16 16) (fun w' hw => zn (by
  have e := zjc (w := w') (B.uuid hU) B.uint8 (ad := ⟨be, j * sz, none⟩)
  simp +decide only [bE, BEq.rfl, ev_tmp, Option.map_none, e])) rfl ?_
 simp only []
 show anyC P _ _ _ _ [14, 15, 16, 17, 18, 19, 20].length [14, 15, 16, 17, 18, 19, 20] _ _
 refine zch _ _ _ (by kernel_rfl) (by decide) (fun k hk => by simp at hk; subst hk; kernel_rfl) ?_
 simp only [lAppU, List.map, List.getD_cons_zero, List.getD_cons_succ, zdn]
 obtain ⟨v6, w6, hconv, htv, m6d⟩ := zgz (ty := N.za) B (htv0 md) (by omega)
 have m6 : Mod w w6 zp := md.trans' m6d
 have m6' : Mod w w6 (fun k _ => ¬ zao v k) := m6.mono fun _ _ _ h => h.elim
 simp +decide only [bK, bE, Nat.reduceBeqDiff, BEq.rfl, hconv]
 refine ⟨m6', ?_⟩
 have e14 : ∀ ρ : Env, (#[(1, T 14)] : Array (Nat × Operand)).map (fun p => (p.1, ev ρ p.2)) = #[(1, ρ 14)] := fun ρ => by simp
 simp +decide only [bK, bE, BEq.rfl, e14, zlu hI _ htv.one]
 refine ⟨m6', ?_⟩
 have nbw : ∀ k, NB w.drew.heap.size w6.heap.size k → NB w.heap.size w6.heap.size k := fun k h => h
 have hrep : RepT w6 (NB w.heap.size w6.heap.size) (zdq 0 x false) [.int .i64 0, v6, .bool false, .slice none 0 0, .slice none 0 0] := zfk (htv.imp (fun h => ⟨h.1, h.2⟩) fun h => h.mono nbw)
 have e9 : ∀ ρ : Env, (#[(0, T 15)] : Array (Nat × Operand)).map (fun p => (p.1, ev ρ p.2)) = #[(0, ρ 15)] := fun ρ => by simp
 obtain ⟨w7, v', w8, w9, hbs, happ, hst, m7, m8, hTL⟩ := znv hI h hlen m6 (Nat.le_refl _) hrep
 simp +decide only [bK, bE, BEq.rfl, e9, hbs]
 refine ⟨m7, ?_⟩
 simp +decide only [bK, happ]
 refine ⟨m8, ?_⟩
 simp +decide only [bK, Nat.zero_add, zab hI.lt hI1 hi]
 refine ⟨m8, ?_⟩
 simp +decide only [bK, hI.h3.run]
 refine ⟨m8, ?_⟩
 simp +decide only [bK, hst]
 refine zf (K := fun σ' w' => Q .normal σ' w') fun σ9 hσ => ?_
 have e : σ9 = σ := by
  funext k
  rw [hσ k]
  simp +decide (disch := omega) only [zgm, envOf_var]
 rw [e]
 exact hQ _ _ hTL
def lApp0U (N : Nums) (Tt idx ft i p : Nat) : List ROp := [
 ⟨some 0, .fieldAddr N.zy (V 2) 3, 0, none, []⟩, ⟨some 1, .load N.zr (T 0), 0, none, [0]⟩, ⟨some 2, .indexAddr N.zr (T 1) (.const (.int .i64 i)), 0, none, [1]⟩, ⟨some 3, .fieldAddr N.zy (T 2) 3, 0, none, [2]⟩, ⟨some 4, .load N.zr (T 3), 0, none, [3]⟩,
 ⟨some 5, .move (V 0), 0, none, []⟩, ⟨some 6, .nilCheck (T 5), 0, none, [5]⟩, ⟨some 7, .fieldAddr Tt (T 6) idx, 0, none, [6]⟩, ⟨some 8, .load ft (T 7), 0, none, [7]⟩, ⟨some 9, .move (V p), 0, none, []⟩, ⟨some 10, .indexAddr ft (T 8) (T 9), 0, none, [8, 9]⟩,
 ⟨some 11, .slice N.zbm (T 10) none none none, 0, none, [10]⟩, ⟨some 12, .call ⟨.builtin .append, #[.const (.slice none 0 0), T 11], #[N.za, N.za]⟩, N.za, none, [11]⟩, ⟨some (p + 2 + 100), .build N.zy #[(1, T 12)], 0, none, [12]⟩, ⟨some (p + 3 + 100), .call ⟨.builtin .len, #[T 4], #[N.zr]⟩, N.ze, none, [4]⟩, ⟨some 15, .buildSlice N.zr 1 #[(0, zTop)], 0, none, []⟩,
 ⟨some (p + 4 + 100), .call ⟨.builtin .append, #[T 4, T 15], #[N.zr, N.zr]⟩, N.zr, none, [4, 15, 12, 0, 1, 2, 3, 4, 5, 6, 7, 8, 9, 10, 11, 12, 13, 14, 15]⟩,
 ⟨some 17, .indexAddr N.zr (T 1) (.const (.int .i64 i)), 0, none, [1, 0, 1, 2, 3, 4, 5, 6, 7, 8, 9, 10, 11, 12, 13, 14, 15, 16]⟩, ⟨some 18, .fieldAddr N.zy (T 17) 3, 0, none, [17, 0, 1, 2, 3, 4, 5, 6, 7, 8, 9, 10, 11, 12, 13, 14, 15, 16]⟩,
 ⟨none, .store N.zr (T 18) (V (p + 4)), 0, none, [18, 16, 16, 0, 1, 2, 3, 4, 5, 6, 7, 8, 9, 10, 11, 12, 13, 14, 15, 16]⟩]
theorem W_app0Uuid (B : Base P N) (hI : zeu P N) {loc : List Nat} {N' : Nat} {Q : Exit → Env → World → Prop} {w0 w : World} {b oo off Tt idx ft be L c sz et bT bL bR n i lo q j : Nat} {x : List UInt8} {nl : Bool} {v : Value} {trs ts : List Tr} {σ : Env}
  (h : TL w0 (.pointer (some ⟨b, oo, none⟩)) bT bL bR n i trs lo nl v ts σ w) (hs : LSrc P w0 b oo off Tt idx ft be L c sz et) (hlen : ts.length + 1 < 1099511627776) (hp : σ (q + 6) = .int .i64 j) (hj : j < L)
  (hU : N.zbm ≠ 0) (hx16 : x.length = 16) (hE : w0.rangeAt be (j * sz) (x.map zbf))
  (hQ : ∀ σ' v' w', (∀ k, k < q + 8 → σ' k = σ k) → TL w0 (.pointer (some ⟨b, oo, none⟩)) bT bL bR n i trs lo nl v' (ts ++ [zdq 0 x false]) σ' w' → Q .normal σ' w') : W P loc N' (.seq (.draw (lApp0U N Tt idx ft i (q + 6))) (cPut N (q + 6))) Q σ w := by
 obtain ⟨fs, hI1⟩ := hI.ti
 obtain ⟨hT, hc0, hlt, _, _, _, het⟩ := hs
 have f0 := h.f0
 have f1 := h.f1
 have f2 := h.f2
 have lt := h.lt
 have hi := h.le
 have hms := h.mod.size
 have keep : ∀ {w' : World} {k o : Nat} {u : Value}, Mod w w' (fun k _ => ¬ zao v k) → k < lo → w.cell? ⟨k, o, none⟩ = some u → w'.cell? ⟨k, o, none⟩ = some u := fun m hk hc => by
  rw [m.cell _ _ (zax (by rw [hc]; rfl)) (fun hn => by have := (h.blk hn).1; omega)]; exact hc
 have hb0 : b < w0.heap.size := zax (by rw [hc0]; rfl)
 have cF : w.cell? ⟨b, oo + off, none⟩ = some (.slice (some ⟨be, 0, none⟩) L c) := by rw [h.mod.cell _ _ hb0 (fun h => h)]; exact hc0
 have cT := h.cellT
 have cL := h.cellL
 have md : Mod w w.drew zp := Mod.drew _ _
 have md' : Mod w w.drew (fun k _ => ¬ zao v k) := Mod.drew _ _
 refine zd fun K hK => ziu B.mixed [true, true, true, true, true, true, true, true, true, true, true, true, false, false, true, false, false, false, false, false] rfl (zia (l0 := lApp0U N Tt idx ft i 6) q (by kernel_rfl) rfl) (fun w' => Mod w w' (fun k _ => ¬ zao v k)) md' fun τ => ?_
 have cE : w.rangeAt be (j * sz) (x.map zbf) := zv h.mod hE
 have htv0 : ∀ {w' : World}, Mod w w' zp → tagV w' (fun _ => True) (.slice (some ⟨be, j * sz, none⟩) 16 16) x := fun m => .inr ⟨be, j * sz, 16, by rw [hx16], by omega, fun _ => trivial, zv m cE⟩
 have hbe : be < w0.heap.size := by
  cases x with
  | nil => simp at hx16
  | cons y x => exact zax (by rw [hE 0 (zbf y) rfl]; rfl)
 have e2 : zdm σ τ 102 = .pointer (some ⟨bT, 0, none⟩) := by rw [← f2]; exact envOf_var σ τ 2
 have ep : zdm σ τ (q + 6 + 100) = .int .i64 j := by rw [← hp]; exact envOf_var σ τ (q + 6)
 refine zc (.pointer (some ⟨bT, 3, none⟩)) (fun w' _ => zn (by simp +decide only [ev_tmp, e2, hI.h3.run])) rfl ?_
 refine zc (.slice (some ⟨bL, 0, none⟩) n n) (fun w' hw => zn (by simp +decide only [bE, BEq.rfl, ev_tmp, hI.lt.run_load1 rfl, keep hw (show bT < lo by omega) cT, ldc_some])) rfl ?_
 refine zc (.pointer (some ⟨bL, i * 5, none⟩)) (fun w' _ => zn (by simp +decide only [bE, BEq.rfl, Nat.zero_add, ev_tmp, ev_const, zab hI.lt hI1 hi])) rfl ?_
 refine zc (.pointer (some ⟨bL, i * 5 + 3, none⟩)) (fun w' _ => zn (by simp +decide only [bE, BEq.rfl, ev_tmp, hI.h3.run])) rfl ?_
 refine zc v (fun w' hw => zn (by simp +decide only [bE, BEq.rfl, ev_tmp, hI.lt.run_load1 rfl, keep hw (show bL < lo by omega) cL, ldc_some])) rfl ?_
 refine zc (.pointer (some ⟨b, oo, none⟩)) (fun w' _ => by rw [zat, ev_tmp]; simp +decide only [bE, Nat.reduceBeqDiff, Nat.zero_add, f0]) rfl ?_
 refine zc (.pointer (some ⟨b, oo, none⟩)) (fun w' hw => rfl) rfl ?_
 refine zc (.pointer (some ⟨b, oo + off, none⟩)) (fun w' _ => zn (by simp +decide only [bE, BEq.rfl, ev_tmp, hT.run])) rfl ?_
 refine zc (.slice (some ⟨be, 0, none⟩) L c) (fun w' hw => zn (by simp +decide only [bE, BEq.rfl, ev_tmp, hlt.run_load1 rfl, keep hw (show b < lo by omega) cF, ldc_some])) rfl ?_
 refine zc (.int .i64 j) (fun w' _ => by rw [zat, ev_tmp]; simp +decide (disch := omega) only [zgm, ep]) rfl ?_
 refine zc (.pointer (some ⟨be, j * sz, none⟩)) (fun w' _ => zn (by simp +decide only [bE, Nat.reduceBeqDiff, BEq.rfl, Nat.zero_add, ev_tmp, zab hlt het hj])) rfl ?_
 refine zc (.slice (some ⟨be, j * sz, none⟩) 16 16) (fun w' hw => zn (by
  have e := zjc (w := w') (B.uuid hU) B.uint8 (ad := ⟨be, j * sz, none⟩)
  simp +decide only [bE, BEq.rfl, ev_tmp, Option.map_none, e])) rfl ?_
 simp only []
 refine ⟨.int .i64 ts.length, fun w' _ => .inl ⟨rfl, ?_⟩, ?_⟩
 ·have hl := h.lenV (P := P) (N := N) hI (ty := N.ze) (w' := w')
  have e4 : ∀ ρ : Env, ρ 4 = v → (exec ρ ⟨some (q + 6 + 3 + 100), .call ⟨.builtin .len, #[T 4], #[N.zr]⟩, N.ze, none, [4]⟩).run P w' = .ok (.value (.int .i64 ts.length)) w' := fun ρ h4 => by
   simp +decide only [exec, execOp, resolve, invoke, builtin, List.map_toArray, List.map, ev_tmp, h4]
   simp [hl]
  exact e4 _ (by simp +decide (disch := omega) only [zam, zbc])
 have fin : ∀ {ρ : Env} {w6 : World} {bz : Nat} {cs : List Value}, RepT w6 (NB w.heap.size w6.heap.size) (zdq 0 x false) cs → Mod w w6 zp → w6.rangeAt bz 0 zT → ρ 1 = .slice (some ⟨bL, 0, none⟩) n n → ρ 4 = v → ρ 15 = .slice (some ⟨bz, 0, none⟩) 1 1 →
   ρ (q + 6 + 2 + 100) = .agg cs.toArray → ρ (q + 6 + 3 + 100) = .int .i64 ts.length → (∀ k, k < q + 8 → ρ (k + 100) = σ k) →
   zdn P (fun w' => Mod w w' (fun k _ => ¬ zao v k)) (fun ρ w => zdy K Q .normal (locs ρ) w) [⟨some (q + 6 + 4 + 100), .call ⟨.builtin .append, #[T 4, T 15], #[N.zr, N.zr]⟩, N.zr, none, [4, 15, 12, 0, 1, 2, 3, 4, 5, 6, 7, 8, 9, 10, 11, 12, 13, 14, 15]⟩,
    ⟨some 17, .indexAddr N.zr (T 1) (.const (.int .i64 i)), 0, none, [1, 0, 1, 2, 3, 4, 5, 6, 7, 8, 9, 10, 11, 12, 13, 14, 15, 16]⟩, ⟨some 18, .fieldAddr N.zy (T 17) 3, 0, none, [17, 0, 1, 2, 3, 4, 5, 6, 7, 8, 9, 10, 11, 12, 13, 14, 15, 16]⟩,
    ⟨none, .store N.zr (T 18) (V (q + 6 + 4)), 0, none, [18, 16, 16, 0, 1, 2, 3, 4, 5, 6, 7, 8, 9, 10, 11, 12, 13, 14, 15, 16]⟩] ρ w6 := by
  intro ρ w6 bz cs hrep m6 hz h1 h4 h15 hv8 hv9 hσ
  obtain ⟨bv, c', w8, w9, w10, happ, hst, m8, hst10, hTL⟩ := zmc hI h hlen m6 (Nat.le_refl _) hrep hz
  simp only [zdn]
  simp +decide only [zfe, ev_tmp, h4, h15, happ, stepV_ok]
  refine ⟨m8, ?_⟩
  simp +decide (disch := omega) only [zej, ev_tmp, ev_const, zam, h1, zab hI.lt hI1 hi, stepV_ok, Nat.zero_add]
  refine ⟨m8, ?_⟩
  simp +decide (disch := omega) only [zez, ev_tmp, zbc, hI.h3.run, stepV_ok]
  refine ⟨m8, ?_⟩
  simp +decide (disch := omega) only [zec, ev_tmp, zam, zbc, hst, stepU_ok]
  refine zf (K := fun σ' w' => zdy K Q .normal σ' w') fun σ9 hσ9 => hK _ _ ?_
  have g : ∀ k, k < q + 8 → σ9 k = σ k := fun k hk => by
   rw [hσ9 k]
   simp +decide (disch := omega) only [zam]
   exact hσ k hk
  refine W_put hI (L := ts.length) (bv := bv) (c := c') (cs := cs) (w10 := w10) ?_ ?_ ?_ hst10 (hQ _ _ _ g (hTL.env (g 0 (by omega)) (g 1 (by omega)) (g 2 (by omega))))
  ·rw [hσ9]; simp +decide (disch := omega) only [zam]; exact hv8
  ·rw [hσ9]; simp +decide (disch := omega) only [zam]; exact hv9
  ·rw [hσ9]; simp +decide (disch := omega) only [zam, zbc]
 have ezz : ∀ ρ : Env, (#[(0, zTop)] : Array (Nat × Operand)).map (fun p => (p.1, ev ρ p.2)) = #[(0, .agg zT.toArray)] := fun ρ => by simp [zTop, zT]
 have e12 : ∀ ρ : Env, (#[(1, T 12)] : Array (Nat × Operand)).map (fun p => (p.1, ev ρ p.2)) = #[(1, ρ 12)] := fun ρ => by simp
 have nb' : ∀ {w' : World}, Mod w w' zp → Mod w w' (fun k _ => ¬ zao v k) := fun m => m.mono fun _ _ _ h => h.elim
 have hmk : ∀ {w5 w6 : World} {u : Value}, w.heap.size ≤ w5.heap.size → tagV w6 (NB w5.heap.size w6.heap.size) u x → RepT w6 (NB w.heap.size w6.heap.size) (zdq 0 x false) [.int .i64 0, u, .bool false, .slice none 0 0, .slice none 0 0] := fun hs htv =>
  zfk (htv.imp (fun h => ⟨h.1, h.2⟩) fun h => h.mono fun k hk => ⟨by have := hk.1; omega, hk.2⟩)
 have stay : ∀ {w6 w7 : World} {cs : List Value}, Mod w6 w7 zp → RepT w6 (NB w.heap.size w6.heap.size) (zdq 0 x false) cs → RepT w7 (NB w.heap.size w7.heap.size) (zdq 0 x false) cs := fun m hr =>
  RepT.mod m (fun k hk => ⟨hk.2, fun _ h => h, ⟨hk.1, by have := hk.2; have := m.size; omega⟩⟩) _ hr
 show anyC P _ _ _ _ (6 + 1) [12, 13, 15, 16, 17, 18, 19] _ _
 refine zfr [12, 15] (by kernel_rfl) fun k hk => ?_
 simp only [List.mem_cons, List.not_mem_nil, or_false] at hk
 rcases hk with rfl | rfl
 ·show zbn P ⟨some 12, .call ⟨.builtin .append, #[.const (.slice none 0 0), T 11], #[N.za, N.za]⟩, N.za, none, [11]⟩ _ _ _
  obtain ⟨u, w6, hconv, htv, m6d⟩ := zgz (ty := N.za) B (htv0 md) (by omega)
  have m6 : Mod w w6 zp := md.trans' m6d
  have hrep6 := hmk (w5 := w.drew) (Nat.le_refl _) htv
  simp +decide (disch := omega) only [zfe, ev_tmp, ev_const, zam, zbc, hconv, stepV_ok]
  refine ⟨.inr (nb' m6), ?_⟩
  show anyC P _ _ _ _ (5 + 1) [13, 15, 16, 17, 18, 19] _ _
  refine zfr [13, 15] (by kernel_rfl) fun k hk => ?_
  simp only [List.mem_cons, List.not_mem_nil, or_false] at hk
  rcases hk with rfl | rfl
  ·show zbn P ⟨some (q + 6 + 2 + 100), .build N.zy #[(1, T 12)], 0, none, [12]⟩ _ _ _
   simp +decide only [zen, e12, zbc, zlu hI _ htv.one, stepV_ok]
   refine ⟨.inr (nb' m6), ?_⟩
   show anyC P _ _ _ _ [15, 16, 17, 18, 19].length [15, 16, 17, 18, 19] _ _
   refine zch _ _ _ (by kernel_rfl) (by decide) (fun k hk => by simp at hk; subst hk; kernel_rfl) ?_
   show zbn P ⟨some 15, .buildSlice N.zr 1 #[(0, zTop)], 0, none, []⟩ _ _ _
   have hbs := zfl (w := w6) (v := .agg zT.toArray) (cs := zT) hI.lt hI1 rfl rfl (by decide) (by decide)
   simp +decide only [zcj, ezz, hbs, stepV_ok]
   have m7 : Mod w6 (w6.alloc (.cells zT.toArray N.zy)) zp := Mod.alloc _ _ _
   refine ⟨nb' (m6.trans' m7), fin (cs := [.int .i64 0, u, .bool false, .slice none 0 0, .slice none 0 0]) (stay m7 hrep6) (m6.trans' m7) (zw w6 zT.toArray N.zy (0, 0)) ?_ ?_ ?_ ?_ ?_ ?_⟩
   ·simp +decide (disch := omega) only [zam, zbc]
   ·simp +decide (disch := omega) only [zam, zbc]
   ·simp +decide (disch := omega) only [zbc]
   ·simp +decide (disch := omega) only [zam, zbc]
   ·simp +decide (disch := omega) only [zam, zbc]
   ·intro k hk
    simp +decide (disch := omega) only [zam, envOf_var]
  ·show zbn P ⟨some 15, .buildSlice N.zr 1 #[(0, zTop)], 0, none, []⟩ _ _ _
   have hbs := zfl (w := w6) (v := .agg zT.toArray) (cs := zT) hI.lt hI1 rfl rfl (by decide) (by decide)
   simp +decide only [zcj, ezz, hbs, stepV_ok]
   have m7 : Mod w6 (w6.alloc (.cells zT.toArray N.zy)) zp := Mod.alloc _ _ _
   refine ⟨.inr (nb' (m6.trans' m7)), ?_⟩
   show anyC P _ _ _ _ [13, 16, 17, 18, 19].length [13, 16, 17, 18, 19] _ _
   refine zch _ _ _ (by kernel_rfl) (by decide) (fun k hk => by simp at hk; subst hk; kernel_rfl) ?_
   show zbn P ⟨some (q + 6 + 2 + 100), .build N.zy #[(1, T 12)], 0, none, [12]⟩ _ _ _
   have e12' : ∀ (ρ : Env) (u' : Value), ρ 12 = u' → (#[(1, T 12)] : Array (Nat × Operand)).map (fun p => (p.1, ev ρ p.2)) = #[(1, u')] := fun ρ u' h => by simp [h]
   rw [zen, e12' _ u (by rw [zam (by decide), zbc]), zlu hI _ htv.one, stepV_ok]
   refine ⟨nb' (m6.trans' m7), fin (cs := [.int .i64 0, u, .bool false, .slice none 0 0, .slice none 0 0]) (stay m7 hrep6) (m6.trans' m7) (zw w6 zT.toArray N.zy (0, 0)) ?_ ?_ ?_ ?_ ?_ ?_⟩
   ·simp +decide (disch := omega) only [zam, zbc]
   ·simp +decide (disch := omega) only [zam, zbc]
   ·simp +decide (disch := omega) only [zam, zbc]
   ·simp +decide (disch := omega) only [zbc]
   ·simp +decide (disch := omega) only [zam, zbc]
   ·intro k hk
    simp +decide (disch := omega) only [zam, envOf_var]
 ·show zbn P ⟨some 15, .buildSlice N.zr 1 #[(0, zTop)], 0, none, []⟩ _ _ _
  have hbs := zfl (w := w.drew) (v := .agg zT.toArray) (cs := zT) hI.lt hI1 rfl rfl (by decide) (by decide)
  simp +decide only [zcj, ezz, hbs, stepV_ok]
  obtain ⟨w1, hw1⟩ : ∃ w1, w1 = w.drew.alloc (.cells zT.toArray N.zy) := ⟨_, rfl⟩
  have m1 : Mod w.drew w1 zp := by rw [hw1]; exact Mod.alloc _ _ _
  have s1 : w1.heap.size = w.heap.size + 1 := by rw [hw1]; exact zan w.drew _
  have r1 : w1.rangeAt w.heap.size 0 zT := by rw [hw1]; exact zw w.drew zT.toArray N.zy (0, 0)
  rw [← hw1]
  clear hw1 hbs
  have m01 : Mod w w1 zp := md.trans' m1
  refine ⟨.inr (nb' m01), ?_⟩
  show anyC P _ _ _ _ [12, 13, 16, 17, 18, 19].length [12, 13, 16, 17, 18, 19] _ _
  refine zch _ _ _ (by kernel_rfl) (by decide) (fun k hk => by simp at hk; subst hk; kernel_rfl) ?_
  show zbn P ⟨some 12, .call ⟨.builtin .append, #[.const (.slice none 0 0), T 11], #[N.za, N.za]⟩, N.za, none, [11]⟩ _ _ _
  obtain ⟨u, w6, hconv, htv, m6d⟩ := zgz (ty := N.za) B (htv0 (md.trans' m1)) (by omega)
  have m6 : Mod w w6 zp := m01.trans' m6d
  have hrep6 := hmk (w5 := w1) (by omega) htv
  simp +decide (disch := omega) only [zfe, ev_tmp, ev_const, zam, zbc, hconv, stepV_ok]
  refine ⟨nb' m6, ?_⟩
  show zbn P ⟨some (q + 6 + 2 + 100), .build N.zy #[(1, T 12)], 0, none, [12]⟩ _ _ _
  simp +decide only [zen, e12, zbc, zlu hI _ htv.one, stepV_ok]
  refine ⟨nb' m6, fin (bz := w.heap.size) (cs := [.int .i64 0, u, .bool false, .slice none 0 0, .slice none 0 0]) hrep6 m6 (zv m6d r1) ?_ ?_ ?_ ?_ ?_ ?_⟩
  ·simp +decide (disch := omega) only [zam, zbc]
  ·simp +decide (disch := omega) only [zam, zbc]
  ·simp +decide (disch := omega) only [zam, zbc]; rfl
  ·simp +decide (disch := omega) only [zbc]
  ·simp +decide (disch := omega) only [zam, zbc]
  ·intro k hk
   simp +decide (disch := omega) only [zam, envOf_var]
end
section
variable (N : Nums) (tf : TypeId → FuncId × FuncId)
def El.app0 (Tt idx st i p : Nat) : El → C
 | .pr .bool => .skip
 | .pr .i64 => .skip
 | .pr .uuid => .seq (.draw (lApp0U N Tt idx st i p)) (cPut N p)
 | .pr k => .seq (.draw (lApp0N N Tt idx st (k.t N) i p)) (cPut N p)
 | .txt .str => .seq (.draw (lApp0S N Tt idx st i p)) (cPut N p)
 | .txt _ => .skip
 | .row T' pT _ _ => .seq (.draw (lApp0 N Tt idx st (tf T').1 pT i p)) (cPut N p)
def El.app (Tt idx st i p : Nat) : El → C
 | .pr .bool => .skip
 | .pr .i64 => .skip
 | .pr .uuid => .draw (lAppU N Tt idx st i p)
 | .pr k => .draw (lAppN N Tt idx st (k.t N) i p)
 | .txt .str => .draw (lAppS N Tt idx st i p)
 | .txt _ => .skip
 | .row T' pT _ _ => .draw (lApp N Tt idx st (tf T').1 pT i p)
def Ty.tgen (Tt idx i q k : Nat) : Ty → List C
 | .pr .bool _ => [cTBool N Tt idx i]
 | .pr .i64 _ => [cTNum64 N Tt idx N.zbe i]
 | .pr .uuid _ => [cTUuid N Tt idx i]
 | .pr kk _ => [cTNum N Tt idx (kk.t N) i]
 | .txt .str => [cTStr N Tt idx i]
 | .txt .nstr => [cTNstr N Tt idx i]
 | .txt _ => [cTOct N Tt idx i]
 | .arr st _ e => [cTNull N Tt idx st i, cTList N Tt idx st q k (e.app0 N tf Tt idx st i (q + 6)) (e.app N tf Tt idx st i (q + 6))]
 | .row T' pT _ _ => [cTRow N Tt idx (tf T').1 pT i]
 | .tv _ => [cTNstr N Tt idx i]
def Ty.tq : Ty → Nat
 | .arr .. => 8
 | _ => 0
def Ty.tk : Ty → Nat
 | .arr .. => 2
 | _ => 0
def Fds.tgen (Tt : Nat) : Fds → (idx i q k : Nat) → List C
 | .cons _ ty r, idx, i, q, k => ty.tgen N tf Tt idx i q k ++ r.tgen Tt (idx + 1) (i + 1) (q + ty.tq) (k + ty.tk)
 | _, _, _, _, _ => []
end
def Fds.count : Fds → Nat
 | .cons _ _ r => r.count + 1
 | _ => 0
def Fds.tagIx : Fds → Nat → Option Nat
 | .cons _ _ r, idx => r.tagIx (idx + 1)
 | .tags, idx => some idx
 | .nil, _ => none
def tellC (N : Nums) (tf : TypeId → FuncId × FuncId) (Tt idx0 f1 : Nat) (fs : Fds) : C :=
 seqs ([.ops [⟨some 101, .alloc N.zy, 0, none, []⟩],
  .ops [⟨some 0, .makeSlice N.zr (.const (.int .i64 fs.count)) (.const (.int .i64 fs.count)), 0, none, []⟩, ⟨some 1, .build N.zy #[(3, T 0)], 0, none, []⟩, ⟨some 102, .alloc N.zy, 0, none, []⟩, ⟨none, .store N.zy (V 2) (T 1), 0, none, []⟩]] ++
  fs.tgen N tf Tt idx0 0 0 0 ++
  (match fs.tagIx idx0 with
   | some ix => [.ops [⟨some 0, .move (V 0), 0, none, []⟩, ⟨some 1, .nilCheck (T 0), 0, none, []⟩, ⟨some 2, .fieldAddr Tt (T 1) ix, 0, none, []⟩, ⟨some 3, .makeFunc (.func f1) #[] #[V 2], 0, none, []⟩, ⟨some 4, .call ⟨.value (.func N.zge), #[T 2, T 3], #[N.zdi, N.zmn]⟩, N.t_, none, []⟩],
    .ops [⟨some 0, .fieldAddr N.zy (V 2) 4, 0, none, []⟩, ⟨some 1, .load N.zel (T 0), 0, none, []⟩, ⟨some 2, .call ⟨.value (.func N.zml), #[T 1], #[N.zel]⟩, N.t_, none, []⟩]]
   | none => []) ++
  [.ops [⟨some 0, .load N.zy (V 2), 0, none, []⟩, ⟨none, .store N.zy (V 1) (T 0), 0, none, []⟩], .ret])
structure TellP (P : Program) (f off : Nat) (fs : Fds) : Prop where
 has : zcx P f
 ok : ∀ (w : World) (G : Nat → Prop) (b o : Nat) (l : List Val) (css : List (List Value)), (∀ k, G k → k < w.heap.size) → b < w.heap.size → fs.okV l → RepL w G l css → w.rangeAt b (o + off) css.flatten → Call P f #[.pointer (some ⟨b, o, none⟩)] w (Told w (fs.tr l))
def PK.tok (P : Program) (N : Nums) : PK → Prop
 | .bool => N.zhd ≠ 0
 | .uuid => N.zbm ≠ 0
 | .en t => TI P t (.int .i8) 1 1 (.int .i8 0)
 | .i8 => N.zih ≠ 0
 | _ => True
def Txt.tok (N : Nums) : Txt → Prop
 | .str => True
 | .nstr => N.zgc ≠ 0 ∧ N.zcb ≠ 0
 | _ => N.zfg ≠ 0
def El.tok (P : Program) (N : Nums) (tf : TypeId → FuncId × FuncId) : El → Prop
 | .pr .bool => False
 | .pr .i64 => False
 | .pr .uuid => N.zbm ≠ 0
 | .pr (.en _) => False
 | .pr .i8 => N.zih ≠ 0
 | .pr _ => True
 | .txt .str => True
 | .txt _ => False
 | .row T' _ _ fs => TellP P (tf T').1 0 fs
def Ty.tok (P : Program) (N : Nums) (tf : TypeId → FuncId × FuncId) : Ty → Prop
 | .pr k _ => k.tok P N
 | .txt k => k.tok N
 | .arr st _ e => TI P st (.slice (e.ty N)) 1 24 (.slice none 0 0) ∧ (∃ d by' z, TI P (e.ty N) d e.sz by' z) ∧ e.tok P N tf
 | .row T' _ _ fs => TellP P (tf T').1 0 fs
 | .tv _ => N.zgc ≠ 0 ∧ N.zcb ≠ 0
def Fds.tok (P : Program) (N : Nums) (tf : TypeId → FuncId × FuncId) : Fds → Prop
 | .cons _ ty r => ty.tok P N tf ∧ r.tok P N tf
 | _ => True
section
variable {P : Program} {N : Nums} {tf : TypeId → FuncId × FuncId}
theorem zhx {loc : List Nat} {N' : Nat} {Q : Exit → Env → World → Prop} {σ : Env} {w : World} {x : C} {l : List C} (h : W P loc N' x (fun e σ w => match e with | .normal => WL P loc N' l Q σ w | _ => False) σ w) : WL P loc N' (x :: l) Q σ w :=
 zbi fun K hK => zhw h fun e σ w hq => by
  cases e with
  | normal => exact hK _ _ hq
  | _ => exact hq.elim
theorem RepL.get {w : World} {G : Nat → Prop} : ∀ {l : List Val} {css : List (List Value)} {j : Nat} {v : Val}, RepL w G l css → l[j]? = some v → ∃ c, css[j]? = some c ∧ Rep w G v c
 | [], _, j, v, _, hj => by simp at hj
 | v' :: l, _, 0, v, ⟨c, r, h1, h2, h3⟩, hj => by subst h1; simp at hj; subst hj; exact ⟨c, rfl, h2⟩
 | v' :: l, _, j + 1, v, ⟨c, r, h1, h2, h3⟩, hj => by subst h1; simpa using RepL.get h3 (by simpa using hj)
theorem WL_ty (B : Base P N) (F : Fns P N) (hI : zeu P N) {loc : List Nat} {N' : Nat} (hlo : zfo loc N') {Q : Exit → Env → World → Prop} {w0 w : World} {b oo off Tt idx bT bL bR n i q k : Nat} {trs : List Tr} {σ : Env} {G : Nat → Prop} {l : List C}
  (hG : ∀ k, G k → k < w0.heap.size) (ty : Ty) (v : Val) {cs : List Value} (hv : ty.okV v) (hrep : Rep w0 G v cs) (hb : b < w0.heap.size) (hr : w0.rangeAt b (oo + off) cs) (ht : ty.tok P N tf)
  (h : TF w0 (.pointer (some ⟨b, oo, none⟩)) bT bL bR n i trs σ w) (hi : i < n) (hT : HF P Tt idx off)
  (hQ : ∀ σ' w', TF w0 (.pointer (some ⟨b, oo, none⟩)) bT bL bR n (i + 1) (trs ++ [ty.tr v]) σ' w' → WL P loc N' l Q σ' w') : WL P loc N' (ty.tgen N tf Tt idx i q k ++ l) Q σ w := by
 cases ty with
 | pr kk d =>
  cases v with
  | num v =>
   simp only [Rep] at hrep
   subst hrep
   cases kk with
   | bool =>
    obtain ⟨x, rfl⟩ := hv
    refine zhx (W_tBool B F hI (x := x) ht h hi hT (hr 0 _ rfl) fun σ' w' h' => hQ σ' w' ?_)
    simp only [Ty.tr, PK.tr]
    cases x <;> exact h'
   | i8 =>
    obtain ⟨x, rfl, hx⟩ := hv
    exact zhx (zwv B F hI (B.int8 ht) hx h hi hT (hr 0 _ rfl) fun σ' w' h' => hQ σ' w' h')
   | i16 =>
    obtain ⟨x, rfl, hx⟩ := hv
    exact zhx (zwv B F hI B.int16 hx h hi hT (hr 0 _ rfl) fun σ' w' h' => hQ σ' w' h')
   | u16 =>
    obtain ⟨x, rfl, hx⟩ := hv
    exact zhx (zwv B F hI B.uint16 hx h hi hT (hr 0 _ rfl) fun σ' w' h' => hQ σ' w' h')
   | i32 =>
    obtain ⟨x, rfl, hx⟩ := hv
    exact zhx (zwv B F hI B.int32 hx h hi hT (hr 0 _ rfl) fun σ' w' h' => hQ σ' w' h')
   | i64 =>
    obtain ⟨x, rfl, hx⟩ := hv
    exact zhx (W_tNum64 B F hI B.int64 h hi hT (hr 0 _ rfl) fun σ' w' h' => hQ σ' w' h')
   | uuid =>
    obtain ⟨x, rfl, hx⟩ := hv
    refine zhx (W_tUuid B hI ht hx h hi hT (by simpa [Value.cells] using hr) fun σ' w' h' => hQ σ' w' ?_)
    simp only [Ty.tr, PK.tr, znu]
    exact h'
   | en t =>
    obtain ⟨x, rfl, hx⟩ := hv
    exact zhx (zwv B F hI (show TI P t (.int .i8) 1 1 (.int .i8 0) from ht) hx h hi hT (hr 0 _ rfl) fun σ' w' h' => hQ σ' w' h')
  | _ => simp only [Ty.okV] at hv
 | txt kk =>
  cases kk with
  | str =>
   cases v with
   | num v =>
    obtain ⟨x, rfl, hx⟩ := hv
    simp only [Rep] at hrep
    subst hrep
    refine zhx (W_tStr B F hI (s := x) h hi hT (hr 0 _ rfl) fun σ' w' h' => hQ σ' w' ?_)
    simp only [Ty.tr, zmd]
    exact h'
   | _ => simp only [Ty.okV, Txt.okV] at hv
  | nstr =>
   cases v with
   | nstr o =>
    have hc : ∃ u, cs = [u] := by
     cases o with
     | none => simp only [Rep] at hrep; exact ⟨_, hrep⟩
     | some s => simp only [Rep] at hrep; obtain ⟨b', e, _⟩ := hrep; exact ⟨_, e⟩
    obtain ⟨u, rfl⟩ := hc
    exact zhx (W_tNstr B F hI (x := o) ht.1 ht.2 hG hrep h hi hT (hr 0 _ rfl) fun σ' w' h' => hQ σ' w' h')
   | _ => simp only [Ty.okV, Txt.okV] at hv
  | byt =>
   cases v with
   | oct o =>
    simp only [Rep] at hrep
    obtain ⟨u, rfl, hu⟩ := hrep
    exact zhx (W_tOct B F hI (x := o) ht hG hu hv h hi hT (hr 0 _ rfl) fun σ' w' h' => hQ σ' w' h')
   | _ => simp only [Ty.okV, Txt.okV] at hv
  | nbyt =>
   cases v with
   | oct o =>
    simp only [Rep] at hrep
    obtain ⟨u, rfl, hu⟩ := hrep
    exact zhx (W_tOct B F hI (x := o) ht hG hu hv h hi hT (hr 0 _ rfl) fun σ' w' h' => hQ σ' w' h')
   | _ => simp only [Ty.okV, Txt.okV] at hv
 | tv kk =>
  cases v with
  | nstr o =>
   have hc : ∃ u, cs = [u] := by
    cases o with
    | none => simp only [Rep] at hrep; exact ⟨_, hrep⟩
    | some s => simp only [Rep] at hrep; obtain ⟨b', e, _⟩ := hrep; exact ⟨_, e⟩
   obtain ⟨u, rfl⟩ := hc
   exact zhx (W_tNstr B F hI (x := o) ht.1 ht.2 hG hrep h hi hT (hr 0 _ rfl) fun σ' w' h' => hQ σ' w' h')
  | _ => simp only [Ty.okV, Txt.okV] at hv
 | row T' pT d fs =>
  cases v with
  | row vs =>
   simp only [Rep] at hrep
   obtain ⟨css, rfl, hrl⟩ := hrep
   refine zhx (W_tRow B hI ht.has (t := fs.tr vs) (fun w1 m => ?_) h hi hT fun σ' w' h' => hQ σ' w' h')
   have := m.size
   exact ht.ok w1 G b (oo + off) vs css (fun k hk => by have := hG k hk; omega) (by omega) hv (RepL.mod m (fun k hk => ⟨hG k hk, fun _ h => h, hk⟩) vs hrl) (by rw [Nat.add_zero]; exact zv m hr)
  | _ => simp only [Ty.okV] at hv
 | arr st nul e =>
  obtain ⟨hst, het, hel⟩ := ht
  have go : ∀ (a : Option Addr) (c : Nat) (vs : List Val), w0.cell? ⟨b, oo + off, none⟩ = some (.slice a vs.length c) → vs.length < big → (∀ x ∈ vs, e.okV x) →
    (vs ≠ [] → ∃ be css, a = some ⟨be, 0, none⟩ ∧ (∀ x ∈ css, x.length = e.sz) ∧ RepL w0 G vs css ∧ w0.rangeAt be 0 css.flatten ∧ be < w0.heap.size) →
    (∀ σ' w', TF w0 (.pointer (some ⟨b, oo, none⟩)) bT bL bR n (i + 1) (trs ++ [.mk 0 [] a.isNone (vs.map e.tr) []]) σ' w' → WL P loc N' l Q σ' w') → WL P loc N' (Ty.tgen N tf Tt idx i q k (.arr st nul e) ++ l) Q σ w := by
   intro a c vs hcell hlen hok hmem hQ
   refine zhx (W_tNull B F hI hst h hi hT hcell fun σ1 w1 lo h1 => ?_)
   have hml : (vs.map e.tr).length = vs.length := by simp
   refine zhx (W_tList B hlo (ts := vs.map e.tr) hT (by rw [hml]; exact hcell) hst (by rw [hml]; exact hlen) (fun x j σ2 w2 v2 Q2 hj hp h2 hQ2 => ?_) h1 fun σ' w' h' => hQ σ' w' h')
   rw [hml] at hj
   have hx : vs[j]? = some vs[j] := List.getElem?_eq_getElem hj
   obtain ⟨be, css, rfl, hcs, hrl, hrg, hbe⟩ := hmem (fun e => by rw [e] at hj; simp at hj)
   have hsrc : LSrc P w0 b oo off Tt idx st be vs.length c e.sz (e.ty N) := ⟨hT, hcell, hst, het⟩
   have hlen2 : ((vs.map e.tr).take j).length + 1 < 1099511627776 := by
    rw [List.length_take, hml]
    have : vs.length < 1099511627776 := hlen
    omega
   obtain ⟨cj, hcj, hrj⟩ := hrl.get hx
   have hgj := zhb hrg hcs hcj
   rw [Nat.zero_add] at hgj
   have htk : ∀ t, e.tr vs[j] = t → (vs.map e.tr).take (j + 1) = (vs.map e.tr).take j ++ [t] := fun t ht => by
    rw [List.take_add_one, List.getElem?_map, hx]
    simp [ht]
   have hokj := hok _ (List.getElem_mem hj)
   cases e with
   | pr kk =>
    cases hvj : vs[j] with
    | num v =>
     rw [hvj] at hokj hrj htk
     simp only [Rep] at hrj
     subst hrj
     have num : ∀ {ek : IntKind} {by' : Nat} {z : Value} {y : Int}, TI P (kk.t N) (.int ek) 1 by' z → v = .int ek y → IntKind.i64.wrap y = y → El.tr (.pr kk) (.num v) = zdq y [] false → (El.app0 N tf Tt idx st i (q + 6) (.pr kk) = .seq (.draw (lApp0N N Tt idx st (kk.t N) i (q + 6))) (cPut N (q + 6))) → (El.app N tf Tt idx st i (q + 6) (.pr kk) = .draw (lAppN N Tt idx st (kk.t N) i (q + 6))) →
       W P loc N' (if x then El.app0 N tf Tt idx st i (q + 6) (.pr kk) else El.app N tf Tt idx st i (q + 6) (.pr kk)) Q2 σ2 w2 := by
      intro ek by' z y hk hv hy htr e1 e2
      rw [e1, e2]
      subst hv
      have hE : w0.cell? ⟨be, j * (El.pr kk).sz, none⟩ = some (.int ek y) := hgj 0 _ rfl
      cases x with
      | true => exact W_app0Num B hI h2 hsrc hlen2 hp hj hk hy hE fun σ' v' w' hag h' => hQ2 σ' v' w' hag (by rw [htk _ htr]; exact h')
      | false => exact W_appNum B hI h2 hsrc hlen2 hp hj hk hy hE fun v' w' h' => hQ2 σ2 v' w' (fun _ _ => rfl) (by rw [htk _ htr]; exact h')
     cases kk with
     | i8 => obtain ⟨y, rfl, hy⟩ := hokj; exact num (B.int8 hel) rfl hy rfl rfl rfl
     | i16 => obtain ⟨y, rfl, hy⟩ := hokj; exact num B.int16 rfl hy rfl rfl rfl
     | u16 => obtain ⟨y, rfl, hy⟩ := hokj; exact num B.uint16 rfl hy rfl rfl rfl
     | i32 => obtain ⟨y, rfl, hy⟩ := hokj; exact num B.int32 rfl hy rfl rfl rfl
     | uuid =>
      obtain ⟨y, rfl, hy⟩ := hokj
      have hE : w0.rangeAt be (j * (El.pr .uuid).sz) (y.map zbf) := by simpa [Value.cells] using hgj
      have htr : El.tr (.pr .uuid) (.num (.agg (y.map zbf).toArray)) = zdq 0 y false := by simp only [El.tr, PK.tr, znu]
      cases x with
      | true => exact W_app0Uuid B hI h2 hsrc hlen2 hp hj hel hy hE fun σ' v' w' hag h' => hQ2 σ' v' w' hag (by rw [htk _ htr]; exact h')
      | false => exact W_appUuid B hI h2 hsrc hlen2 hp hj hel hy hE fun v' w' h' => hQ2 σ2 v' w' (fun _ _ => rfl) (by rw [htk _ htr]; exact h')
     | _ => exact hel.elim
    | _ => rw [hvj] at hokj; simp only [El.okV] at hokj
   | txt kk =>
    cases kk with
    | str =>
     cases hvj : vs[j] with
     | num v =>
      rw [hvj] at hokj hrj htk
      simp only [Rep] at hrj
      subst hrj
      obtain ⟨y, rfl, _⟩ := hokj
      have hE : w0.cell? ⟨be, j * (El.txt .str).sz, none⟩ = some (strV y) := hgj 0 _ rfl
      have htr : El.tr (.txt .str) (.num (strV y)) = zdq 0 y false := by simp only [El.tr, zmd]
      cases x with
      | true => exact W_app0Str B hI h2 hsrc hlen2 hp hj hE fun σ' v' w' hag h' => hQ2 σ' v' w' hag (by rw [htk _ htr]; exact h')
      | false => exact W_appStr B hI h2 hsrc hlen2 hp hj hE fun v' w' h' => hQ2 σ2 v' w' (fun _ _ => rfl) (by rw [htk _ htr]; exact h')
     | _ => rw [hvj] at hokj; simp only [El.okV, Txt.okV] at hokj
    | _ => exact hel.elim
   | row T' pT d fs =>
    cases hvj : vs[j] with
    | row us =>
     rw [hvj] at hokj hrj htk
     simp only [Rep] at hrj
     obtain ⟨css', rfl, hrl'⟩ := hrj
     have hcall : ∀ w1, Mod w0 w1 zp → Call P (tf T').1 #[.pointer (some ⟨be, j * (El.row T' pT d fs).sz, none⟩)] w1 (Told w1 (fs.tr us)) := fun w1 m => by
      have := m.size
      exact hel.ok w1 G be (j * (El.row T' pT d fs).sz) us css' (fun k hk => by have := hG k hk; omega) (by omega) hokj (RepL.mod m (fun k hk => ⟨hG k hk, fun _ h => h, hk⟩) us hrl') (by rw [Nat.add_zero]; exact zv m hgj)
     cases x with
     | true => exact W_app0Row B hI h2 hsrc hlen2 hp hj hel.has hcall fun σ' v' w' hag h' => hQ2 σ' v' w' hag (by rw [htk _ rfl]; exact h')
     | false => exact W_appRow B hI h2 hsrc hlen2 hp hj hel.has hcall fun v' w' h' => hQ2 σ2 v' w' (fun _ _ => rfl) (by rw [htk _ rfl]; exact h')
    | _ => rw [hvj] at hokj; simp only [El.okV] at hokj
  cases v with
  | nilA =>
   simp only [Rep] at hrep
   subst hrep
   exact go none 0 [] (hr 0 _ rfl) (by decide) (fun x hx => by simp at hx) (fun h => absurd rfl h) fun σ' w' h' => hQ σ' w' h'
  | arr sz vs =>
   obtain ⟨rfl, hlen, hok⟩ := hv
   simp only [Rep] at hrep
   obtain ⟨be, c, css, rfl, _, hne, hcs, hrl, hrg⟩ := hrep
   exact go (some ⟨be, 0, none⟩) c vs (hr 0 _ rfl) hlen hok (fun hv => ⟨be, css, rfl, hcs, hrl, hrg, hG be (hne hv)⟩) fun σ' w' h' => hQ σ' w' h'
  | _ => simp only [Ty.okV] at hv
end
end Go.Kf
