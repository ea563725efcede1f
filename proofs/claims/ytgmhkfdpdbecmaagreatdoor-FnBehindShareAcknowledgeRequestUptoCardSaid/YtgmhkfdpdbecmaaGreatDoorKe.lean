/- A part of the calculus by which the claim's proof goes: over any program and any numbering of its functions; no condition beyond those that each theorem names. -/
import Derived.ChangeArms
import Derived.Test.YtgmhkfdpdbecmaaGreatDoorKd
set_option linter.unusedSimpArgs false
set_option linter.unusedVariables false
namespace Go.Kf
open Go Go.RowKit
theorem zvu {k : Nat} {x : List UInt8} : ∀ {a : List (Nat × List UInt8)} {y : Nat × List UInt8}, y ∈ insT k x a → y = (k, x) ∨ y ∈ a
 | [], y, h => by simp [insT] at h; exact .inl h
 | (k', l) :: a, y, h => by
  rw [insT] at h
  split at h
  ·rcases List.mem_cons.1 h with rfl | h
   ·exact .inr (by simp)
   ·exact (zvu h).imp id fun h => List.mem_cons_of_mem _ h
  ·split at h
   ·exact .inr h
   ·rcases List.mem_cons.1 h with rfl | h
    ·exact .inl rfl
    ·exact .inr h
theorem fold_mem : ∀ (u a : List (Nat × List UInt8)) (y : Nat × List UInt8), y ∈ u.foldl (fun a x => insT x.1 x.2 a) a → y ∈ u ∨ y ∈ a
 | [], a, y, h => .inr h
 | x :: u, a, y, h => by
  rcases fold_mem u _ y h with h | h
  ·exact .inl (List.mem_cons_of_mem _ h)
  ·rcases zvu h with rfl | h
   ·exact .inl (by simp)
   ·exact .inr h
theorem zva {u : List (Nat × List UInt8)} {y : Nat × List UInt8} (h : y ∈ unkT u) : y ∈ u := by
 rcases fold_mem _ _ _ h with h | h
 ·exact List.mem_of_mem_take h
 ·cases h
theorem zrh (u : List (Nat × List UInt8)) : (unkT u).length ≤ 32767 := by
 have := zvv (u.take most) []
 simp only [List.length_nil, List.length_take] at this
 unfold unkT
 have : most = 32767 := rfl
 omega
theorem OwnT.tagsA {w : World} {lo : Nat} {v : Value} {a : List (Nat × List UInt8)} (h : OwnT w lo v a) : zkf w v a := by
 obtain ⟨cs, ho, hu⟩ := h
 rcases ho with ⟨rfl, e, _⟩ | ⟨b, c, e, _, _, h1, _, hr, _⟩
 ·exact .inl ⟨_, _, rfl, List.length_eq_zero_iff.1 e⟩
 ·exact .inr ⟨b, 0, c, cs, e, h1, hu, hr⟩
section
variable {P : Program} {N : Nums} {M : zcr}
structure TSt (w2 : World) (v6 : Value) (vu : Value) (σ : Env) (w : World) (n j : Nat) (acc : List UInt8) : Prop where
 h6 : σ 6 = v6
 h7 : OwnB w w2.heap.size (σ 7) acc
 h8 : σ 8 = .int .i64 j
 h29 : σ 29 = vu
 h30 : σ 30 = .int .i64 n
 h31 : σ 31 = .int .i64 j
 le : j ≤ n
 mod : Mod w2 w zad
theorem TSt.upd {w2 w : World} {v6 vu : Value} {σ : Env} {n j : Nat} {acc : List UInt8} (h : TSt w2 v6 vu σ w n j acc) {i : Nat} (hi : 32 ≤ i) (x : Value) : TSt w2 v6 vu (upd σ i x) w n j acc := by
 obtain ⟨h6, h7, h8, h29, h30, h31, le, mod⟩ := h
 refine ⟨?_, ?_, ?_, ?_, ?_, ?_, le, mod⟩ <;> (rw [zh (by omega)]; assumption)
def bTags (N : Nums) (M : zcr) : C :=
 .seq (.ops [
  ⟨some 0, .indexAddr N.zn (V 29) (V 31), 0, none, []⟩,
  ⟨some 1, .load N.zac (T 0), 0, none, []⟩,
  ⟨some 133, .alloc N.zac, 0, none, []⟩,
  ⟨none, .store N.zac (V 33) (T 1), 0, none, []⟩])
 (.seq (.ops [
  ⟨some 0, .fieldAddr N.zac (V 33) 1, 0, none, []⟩,
  ⟨some 1, .load N.za (T 0), 0, none, []⟩,
  ⟨some 2, .call ⟨.value (.func M.zew), #[T 1], #[N.za]⟩, N.za, none, []⟩,
  ⟨some 134, .assign (T 2), 0, none, []⟩])
 (.seq (.ops [
  ⟨some 0, .move (V 7), 0, none, []⟩,
  ⟨some 1, .fieldAddr N.zac (V 33) 0, 0, none, []⟩,
  ⟨some 2, .load N.zb (T 1), 0, none, []⟩,
  ⟨some 3, .convert N.zb N.zaa (T 2), 0, none, []⟩,
  ⟨some 4, .call ⟨.value (.func M.zco), #[T 3], #[N.zaa]⟩, N.za, none, []⟩,
  ⟨some 5, .call ⟨.builtin .append, #[T 0, T 4], #[N.za, N.za]⟩, N.za, none, []⟩,
  ⟨some 6, .move (V 34), 0, none, []⟩,
  ⟨some 7, .call ⟨.builtin .len, #[T 6], #[N.za]⟩, N.ze, none, []⟩,
  ⟨some 8, .convert N.ze N.zaa (T 7), 0, none, []⟩,
  ⟨some 9, .call ⟨.value (.func M.zco), #[T 8], #[N.zaa]⟩, N.za, none, []⟩,
  ⟨some 10, .call ⟨.builtin .append, #[T 5, T 9], #[N.za, N.za]⟩, N.za, none, []⟩,
  ⟨some 11, .move (V 34), 0, none, []⟩,
  ⟨some 12, .call ⟨.builtin .append, #[T 10, T 11], #[N.za, N.za]⟩, N.za, none, []⟩,
  ⟨some 107, .assign (T 12), 0, none, []⟩])
 (.ops [
  ⟨some 0, .move (V 8), 0, none, []⟩,
  ⟨some 1, .binOp .add N.ze (T 0) (.const (.int .i64 1)) N.ze, 0, none, []⟩,
  ⟨some 108, .assign (T 1), 0, none, []⟩])))
theorem W_tag (B : Base P N) (S : SpT P N M) (hW : SW P N M) {loc : List Nat} {N' : Nat} {σ : Env} {w2 w : World} {v6 vu : Value} {u : List (Nat × List UInt8)} {j : Nat} {acc : List UInt8} (hU : zkf w2 vu u) (hj : j < u.length) (hk : (u[j]).1 < 4294967296) (hul : u.length < 4611686018427387904)
  (h : TSt w2 v6 vu σ w u.length j acc) (hbig : acc.length < 549755813888) {Q : Exit → Env → World → Prop}
  (hQ : ∀ (σ' : Env) (w' : World), σ' 31 = .int .i64 j → TSt w2 v6 vu (Go.Kf.upd σ' 31 (.int .i64 ((j + 1 : Nat) : Int))) w' u.length (j + 1) (acc ++ tagB u[j]) → Q .normal σ' w') :
  W P loc N' (bTags N M) Q σ w := by
 obtain ⟨fsT, hT⟩ := S.tr.tu
 obtain ⟨bb, oo, cc, s, hvb, hs, hr⟩ := hU.get (List.getElem?_eq_getElem hj)
 obtain ⟨key, hkey⟩ : ∃ key, key = (u[j]).1 := ⟨_, rfl⟩
 rw [← hkey] at hr hk
 have hr' := zam h.mod hr
 have hix := fun {w : World} => zbv (P := P) (w := w) S.tr.lg hT (bl := bb) (o := oo) (n := u.length) (c := cc) (i := j) (k := .i64) hj
 have hld := hT.run_load (w := w) (b := bb) (o := oo + j * 2) hr' rfl (fun h => by cases h)
 have hlv : ldv (.struct fsT) [.int .u32 key, s] = .agg [.int .u32 key, s].toArray := rfl
 rw [hlv] at hld
 obtain ⟨wa, wb, hal, hst, _, mb, sb, rb, _⟩ := ztg (cs := [.int .u32 key, s]) hT (by decide) rfl rfl (by
  intro c hc; simp at hc; rcases hc with rfl | rfl
  ·rfl
  ·exact hs.one) w
 unfold bTags
 refine zd fun K hK => zj fun τ => ?_
 simp +decide only [bK, bE, Nat.reduceBeqDiff, BEq.rfl, Nat.reduceAdd, h.h29, h.h31]
 rw [hvb]
 simp +decide only [bK, hix, hld, hal, hst]
 refine hK _ _ (zc fun σ1 hσ => ?_)
 have a6 := hσ 6
 have a7 := hσ 7
 have a8 := hσ 8
 have a29 := hσ 29
 have a30 := hσ 30
 have a31 := hσ 31
 have a33 := hσ 33
 simp +decide only [bE, Nat.reduceBeqDiff, BEq.rfl, Nat.reduceAdd, h.h6, h.h8, h.h29, h.h30, h.h31] at a6 a7 a8 a29 a30 a31 a33
 clear hσ hK K
 have o7 : OwnB wb w2.heap.size (σ1 7) acc := by rw [a7]; exact h.h7.stay mb fun _ _ _ h => h
 have m2b := h.mod.trans' mb
 have c0 : wb.cell? ⟨w.heap.size, 0, none⟩ = some (.int .u32 key) := rb 0 _ rfl
 have c1 : wb.cell? ⟨w.heap.size, 1, none⟩ = some s := rb 1 _ rfl
 have n33 : zby (σ1 7) w.heap.size := by rw [a7]; exact Classical.byContradiction fun hh => by have := (h.h7.blk hh).2; omega
 have hlt33 : w.heap.size < wb.heap.size := by omega
 obtain ⟨b33, hb33⟩ : ∃ b, b = w.heap.size := ⟨_, rfl⟩
 rw [← hb33] at a33 c0 c1 n33 hlt33
 clear h hix hld hlv hal hst
 refine zd fun K hK => zj fun τ => ?_
 simp +decide only [bK, bE, BEq.rfl, Nat.reduceAdd, Nat.zero_add, a33, S.tr.g1.run, B.Lu8.run_load1 rfl, c1]
 rw [zar hW.whole.has]
 simp +decide only [bK, bE, BEq.rfl]
 refine (zus B hW.whole hs).mono ?_
 rintro x _ ⟨rfl, hx⟩
 refine hK _ _ (zc fun σ2 hσ => ?_)
 have b6 := hσ 6
 have b7 := hσ 7
 have b8 := hσ 8
 have b29 := hσ 29
 have b30 := hσ 30
 have b31 := hσ 31
 have b33' := hσ 33
 have b34 := hσ 34
 simp +decide only [bE, Nat.reduceBeqDiff, BEq.rfl, Nat.reduceAdd, a6, a8, a29, a30, a31, a33] at b6 b7 b8 b29 b30 b31 b33' b34
 clear hσ hK K
 rw [← b7] at o7 n33
 have hwl : (zbk (u[j]).2).length ≤ 32767 := by simp [zbk, most]; omega
 refine zd fun K hK => zj fun τ => ?_
 have hc1 := fun {w : World} => zaq (P := P) (w := w) (k' := .u32) B.uint32 B.uint64 (n := key) ⟨_, rfl⟩
 have hc2 := fun {w : World} => zaq (P := P) (w := w) (k' := .i64) B.int B.uint64 (n := (zbk (u[j]).2).length) ⟨_, rfl⟩
 simp +decide only [bK, bE, Nat.reduceBeqDiff, BEq.rfl, Nat.reduceAdd, Nat.add_zero, b33', S.tr.g0.run, B.uint32.run_load1 rfl, c0, hc1]
 rw [zer key (by omega), zar hW.Uvarint.has]
 simp +decide only [bK, bE, Nat.reduceBeqDiff, BEq.rfl]
 refine (zmt B hW.Uvarint wb key (by omega)).mono ?_
 rintro r3 w3 ⟨ho3, m3⟩
 have hs3 : w2.heap.size ≤ w3.heap.size := Nat.le_trans m2b.size m3.size
 have hu3 : (uvB key).length ≤ 10 := ziz (by omega)
 have o73 := o7.stay m3 fun _ _ _ h => h
 obtain ⟨v4, w4, hap4, ho4, m4, _⟩ := zfb (ty := N.za) B o73 ho3.octA hs3 (by omega)
 have m24 : Mod w2 w4 zad := Mod.ofOwn o73 (m2b.trans' m3) m4
 simp +decide only [bK, hap4, b34, hx.run_len B, hc2]
 rw [zer _ (by omega), zar hW.Uvarint.has]
 simp +decide only [bK, bE, Nat.reduceBeqDiff, BEq.rfl]
 refine (zmt B hW.Uvarint w4 _ (by omega)).mono ?_
 rintro r5 w5 ⟨ho5, m5⟩
 have hs5 : w2.heap.size ≤ w5.heap.size := Nat.le_trans m24.size m5.size
 have hu5 : (uvB (zbk (u[j]).2).length).length ≤ 10 := ziz (by omega)
 have o75 := ho4.stay m5 fun _ _ _ h => h
 obtain ⟨v6', w6, hap6, ho6, m6, _⟩ := zfb (ty := N.za) B o75 ho5.octA hs5 (by simp only [List.length_append]; omega)
 have m26 : Mod w2 w6 zad := Mod.ofOwn o75 (m24.trans' m5) m6
 simp +decide only [bK, hap6, b34]
 have hs6 : w2.heap.size ≤ w6.heap.size := m26.size
 have hx6 : OctA w6 x (zbk (u[j]).2) := hx.stay m26
 obtain ⟨v7, w7, hap7, ho7, m7, _⟩ := zfb (ty := N.za) B ho6 hx6 hs6 (by simp only [List.length_append]; omega)
 have m27 : Mod w2 w7 zad := Mod.ofOwn ho6 m26 m7
 simp +decide only [bK, hap7]
 refine hK _ _ (zc fun σ3 hσ => ?_)
 have d6 := hσ 6
 have d7 := hσ 7
 have d8 := hσ 8
 have d29 := hσ 29
 have d30 := hσ 30
 have d31 := hσ 31
 simp +decide only [bE, Nat.reduceBeqDiff, BEq.rfl, Nat.reduceAdd, b6, b8, b29, b30, b31] at d6 d7 d8 d29 d30 d31
 clear hσ hK K
 have hadd : IntKind.i64.wrap ((j : Int) + 1) = ((j + 1 : Nat) : Int) := by
  rw [show ((j : Int) + 1) = ((j + 1 : Nat) : Int) by omega]
  exact wrap_i64 (by omega) (by omega)
 refine zj fun τ => ?_
 simp +decide only [bK, bE, BEq.rfl, Nat.reduceAdd, d8, hadd]
 refine zc fun σ4 hσ => hQ σ4 w7 ?_ ?_
 ·have := hσ 31; simp +decide only [bE, Nat.reduceBeqDiff, Nat.reduceAdd, d31] at this; exact this
 ·have e6 := hσ 6
  have e7 := hσ 7
  have e8 := hσ 8
  have e29 := hσ 29
  have e30 := hσ 30
  simp +decide only [bE, Nat.reduceBeqDiff, BEq.rfl, Nat.reduceAdd, d6, d7, d29, d30] at e6 e7 e8 e29 e30
  refine ⟨?_, ?_, ?_, ?_, ?_, upd_same _ _ _, hj, m27⟩
  ·rw [zh (by decide)]; exact e6
  ·rw [zh (by decide), e7]
   have : tagB u[j] = uvB key ++ (uvB (zbk (u[j]).2).length ++ zbk (u[j]).2) := by rw [hkey]; rfl
   rw [this, ← List.append_assoc, ← List.append_assoc]
   exact ho7
  ·rw [zh (by decide)]; exact e8
  ·rw [zh (by decide)]; exact e29
  ·rw [zh (by decide)]; exact e30
end
section
variable {P : Program} {N : Nums} {M : zcr}
theorem W_tags (B : Base P N) (S : SpT P N M) (hW : SW P N M) {loc : List Nat} {N' : Nat} (hlo : zfv loc N') {σ : Env} {w2 w : World} {v6 vu : Value} {u : List (Nat × List UInt8)} (hU : zkf w2 vu u) (hk : ∀ x ∈ u, x.1 < 4294967296) (hul : u.length < 4611686018427387904)
  (h : TSt w2 v6 vu σ w u.length 0 []) (hbig : (u.flatMap tagB).length < 549755813888) {Q : Exit → Env → World → Prop}
  (hQ : ∀ (σ' : Env) (w' : World), TSt w2 v6 vu σ' w' u.length u.length (u.flatMap tagB) → Q .normal σ' w') :
  W P loc N' (zqx N 31 30 32 6 (bTags N M)) Q σ w := by
 refine zjo (i := 31) (l := 30) (c := 32) (k := 6) hlo (L := u.length) hul (fun j σ w' => TSt w2 v6 vu σ w' u.length j ((u.take j).flatMap tagB)) (fun j σ w h => ⟨h.h31, h.h30, h.le⟩) (fun j σ w b h => h.upd (by decide) _) (by simpa using h) (fun σ' w' h => hQ σ' w' (by simpa using h)) (fun j σ' w' hj h => ?_)
 refine W_tag B S hW hU hj (hk _ (List.getElem_mem hj)) hul h (Nat.lt_of_le_of_lt (zjg tagB u j) hbig) fun σ5 w5 h1 h5 => ⟨h1, ?_⟩
 rw [zhk tagB hj]
 exact h5
theorem sp_part (B : Base P N) (S : SpT P N M) (hW : SW P N M) {flex : Bool} {v : Int} {fs : List Fld} (hl : fs.length < 4611686018427387904) (ok : ∀ f ∈ fs, OkF P M flex v f) : zuv P M flex v fs := by
 intro w fv t cs hf ht hwf hbig
 unfold zci endB at hbig
 rw [List.length_append] at hbig
 refine hW.part.call rfl fun loc N' hlo => ?_
 unfold zsy
 refine zd fun K hK => zj fun τ => ?_
 simp +decide only [bK, bE, Nat.reduceAdd]
 obtain ⟨w1, hw1⟩ : ∃ w1, w1 = w.alloc (.cells (Value.agg cs.toArray).cells N.zf) := ⟨_, rfl⟩
 have m1 : Mod w w1 zad := by rw [hw1]; exact Mod.alloc _ _ _
 have hb : w1.rangeAt w.heap.size 0 cs := by
  rw [hw1]; exact zz w _ _ _
 have hs1 : w1.heap.size = w.heap.size + 1 := by rw [hw1]; exact zau _ _
 rw [← hw1]
 clear hw1
 refine hK _ _ (zc fun σ1 hσ => ?_)
 have a0 := hσ 0
 have a1 := hσ 1
 have a2 := hσ 2
 have a4 := hσ 4
 simp +decide only [bE, Nat.reduceBeqDiff, BEq.rfl, Nat.reduceAdd, Nat.zero_add, zti, zph, zpg] at a0 a1 a2 a4
 clear hσ hK K
 refine zd fun K hK => zj fun τ => ?_
 simp +decide only [bK, Nat.reduceAdd]
 refine hK _ _ (zc fun σ2 hσ => ?_)
 have b0 := hσ 0
 have b1 := hσ 1
 have b2 := hσ 2
 have b4 := hσ 4
 have b6 := hσ 6
 have b7 := hσ 7
 simp +decide only [bE, Nat.reduceBeqDiff, BEq.rfl, Nat.reduceAdd, Nat.zero_add, a0, a1, a2, a4] at b0 b1 b2 b4 b6 b7
 clear hσ hK K
 refine zd fun K hK => zj fun τ => ?_
 simp +decide only [bK, Nat.reduceAdd]
 refine hK _ _ (zc fun σ3 hσ => ?_)
 have c0 := hσ 0
 have c1 := hσ 1
 have c2 := hσ 2
 have c4 := hσ 4
 have c6 := hσ 6
 have c7 := hσ 7
 have c8 := hσ 8
 simp +decide only [bE, Nat.reduceBeqDiff, BEq.rfl, Nat.reduceAdd, Nat.zero_add, b0, b1, b2, b4, b6, b7] at c0 c1 c2 c4 c6 c7 c8
 clear hσ hK K
 have hf1 := hf.stay m1
 have ht1 := RepA.stay m1 _ ht
 refine zd fun K hK => zd fun K1 hK1 => zj fun τ => ?_
 simp +decide only [bK, bE, BEq.rfl, Nat.reduceAdd, Nat.zero_add, c0, hf.run_len S]
 refine hK1 _ _ (zc fun σ4 hσ => ?_)
 have d0 := hσ 0
 have d1 := hσ 1
 have d2 := hσ 2
 have d4 := hσ 4
 have d6 := hσ 6
 have d7 := hσ 7
 have d8 := hσ 8
 have d9 := hσ 9
 have d10 := hσ 10
 have d11 := hσ 11
 simp +decide only [bE, Nat.reduceBeqDiff, BEq.rfl, Nat.reduceAdd, Nat.zero_add, c0, c1, c2, c4, c6, c7, c8] at d0 d1 d2 d4 d6 d7 d8 d9 d10 d11
 clear hσ hK1 K1
 refine W_fields B S hW hlo ⟨d0, d1, d2, d4, by rw [d6]; exact zmx, d7, d8, d9, d10, d11, Nat.zero_le _, .refl _ _⟩ hb ht1 hwf hf1 hl ok (by omega) fun σ5 w5 st => hK _ _ ?_
 clear hK K d0 d1 d2 d4 d6 d7 d8 d9 d10 d11 c0 c1 c2 c4 c6 c7 c8 b0 b1 b2 b4 b6 b7 a0 a1 a2 a4
 refine zd fun K hK => zd fun K1 hK1 => zj fun τ => ?_
 simp +decide only [bK, bE, BEq.rfl, Nat.reduceAdd, st.h2]
 refine hK1 _ _ (zc fun σ6 hσ => ?_)
 have a0 := hσ 0
 have a4 := hσ 4
 have a6 := hσ 6
 have a7 := hσ 7
 have a8 := hσ 8
 have a16 := hσ 16
 simp +decide only [bE, Nat.reduceBeqDiff, BEq.rfl, Nat.reduceAdd, Nat.zero_add, st.h0, st.h4, st.h7, st.h8] at a0 a4 a6 a7 a8 a16
 clear hσ hK1 K1
 refine W_if hlo a16 ?_
 cases flex with
 | false =>
  simp only [Bool.not_false, if_true]
  refine zd fun K1 hK1 => zj fun τ => ?_
  simp +decide only [bK, bE, BEq.rfl, Nat.reduceAdd]
  refine hK1 _ _ (zc fun σ7 hσ => zay ⟨.inr rfl, _, rfl, ?_⟩)
  have q := hσ 5
  simp +decide only [bE, BEq.rfl, Nat.reduceAdd] at q
  rw [q, a6]
  unfold zci endB
  simp only [Bool.false_eq_true, if_false, List.append_nil]
  exact ⟨st.h6.mono_lo (by omega), m1.trans' st.mod⟩
 | true =>
  simp only [Bool.not_true, Bool.false_eq_true, if_false]
  refine zbe (hK _ _ ?_)
  clear hK K a16
  simp only [if_true] at hbig
  rw [List.length_append] at hbig
  have h6 := st.h6
  rw [← a6] at h6
  refine zd fun K hK => zd fun K1 hK1 => zj fun τ => ?_
  simp +decide only [bK, bE, Nat.reduceAdd, Nat.zero_add, a0]
  rw [zar hW.known.has]
  simp +decide only [bK, bE, BEq.rfl]
  refine (sp_known B S hW.known (hf1.stay st.mod) hl fun f hf => (ok f hf).1).mono ?_
  rintro _ w6 ⟨rfl, m6⟩
  have hcv := fun {w : World} => zaq (P := P) (w := w) (k' := .u32) B.uint32 B.int (n := 0) ⟨_, rfl⟩
  have hw0 : IntKind.i64.wrap 0 = 0 := by decide
  simp +decide only [bK, hcv, hw0]
  refine hK1 _ _ (zc fun σ7 hσ => ?_)
  have b0 := hσ 0
  have b4 := hσ 4
  have b6 := hσ 6
  have b7 := hσ 7
  have b8 := hσ 8
  have b17 := hσ 17
  have b18 := hσ 18
  simp +decide only [bE, Nat.reduceBeqDiff, BEq.rfl, Nat.reduceAdd, Nat.zero_add, a0, a4, a7, a8] at b0 b4 b6 b7 b8 b17 b18
  clear hσ hK1 K1
  obtain ⟨v6, hv6⟩ : ∃ v6, v6 = σ6 6 := ⟨_, rfl⟩
  rw [← hv6] at h6 b6
  refine zjo (i := 18) (l := 17) (c := 19) (k := 2) hlo (L := 0) (by omega) (fun j σ w' => σ 0 = fv ∧ σ 4 = .pointer (some ⟨w.heap.size, 0, none⟩) ∧ σ 6 = v6 ∧ σ 7 = .slice none 0 0 ∧ σ 8 = .int .i64 0 ∧ σ 17 = .int .i64 0 ∧ σ 18 = .int .i64 j ∧ j ≤ 0 ∧ w' = w6) (fun j σ w h => ⟨h.2.2.2.2.2.2.1, h.2.2.2.2.2.1, h.2.2.2.2.2.2.2.1⟩) (fun j σ w b h => ?_) ⟨b0, b4, b6, b7, b8, b17, b18, Nat.le_refl _, rfl⟩ (fun σ8 w8 h => hK _ _ ?_) (fun j σ' w' hj h => absurd hj (by omega))
  ·obtain ⟨x0, x4, x6, x7, x8, x17, x18, xl, rfl⟩ := h
   refine ⟨?_, ?_, ?_, ?_, ?_, ?_, ?_, xl, rfl⟩ <;> (rw [zh (by decide)]; assumption)
  obtain ⟨x0, x4, x6, x7, x8, _, _, _, rfl⟩ := h
  clear hK K b0 b4 b6 b7 b8 b17 b18 a0 a4 a6 a7 a8 hv6
  have m18 : Mod w1 w8 zad := st.mod.trans' m6
  have h68 := h6.stay m6 fun _ _ _ h => h
  have hb8 := zam m18 hb
  obtain ⟨vs, vl, vu, hcs, _, _, htu⟩ := ht1.out
  have hc4 : w8.cell? ⟨w.heap.size, 4, none⟩ = some vu := hb8 4 _ (by rw [hcs]; rfl)
  refine zd fun K hK => zd fun K1 hK1 => zj fun τ => ?_
  simp +decide only [bK, bE, Nat.reduceBeqDiff, BEq.rfl, Nat.reduceAdd, Nat.zero_add, x0, x4, S.tr.h4.run, S.tr.lg.run_load1 rfl, hc4]
  rw [zan hW.unknown.has]
  simp +decide only [bK, bE, Nat.reduceBeqDiff, BEq.rfl]
  refine (sp_unknown B S hW (hf1.stay m18) hl (fun f hf => (ok f hf).1) (htu.stay m18)).mono ?_
  rintro r w9 ⟨hr, m9⟩
  simp +decide only [bK, hr.run_len S]
  refine hK1 _ _ (zc fun σ9 hσ => ?_)
  have e6 := hσ 6
  have e7 := hσ 7
  have e8 := hσ 8
  have e29 := hσ 29
  have e30 := hσ 30
  have e31 := hσ 31
  simp +decide only [bE, Nat.reduceBeqDiff, BEq.rfl, Nat.reduceAdd, x6, x7, x8] at e6 e7 e8 e29 e30 e31
  clear hσ hK1 K1
  have hul := zrh t.u
  refine W_tags B S hW hlo (w2 := w9) (v6 := v6) (vu := r) (u := unkT t.u) hr.tagsA (fun x hx => hwf.u x (zva hx)) (by omega) ⟨e6, by rw [e7]; exact zmx, e8, e29, e30, e31, Nat.zero_le _, .refl _ _⟩ (by omega) fun σ10 w10 tt => hK _ _ ?_
  clear hK K
  have m19 := m18.trans' m9
  have h610 := (h68.stay m9 fun _ _ _ h => h).stay tt.mod fun _ _ _ h => h
  have m110 := m19.trans' tt.mod
  have hcv := fun {w : World} => zaq (P := P) (w := w) (k' := .i64) B.int B.uint64 (n := (unkT t.u).length) ⟨_, rfl⟩
  refine zd fun K hK => zj fun τ => ?_
  simp +decide only [bK, bE, Nat.reduceBeqDiff, BEq.rfl, Nat.reduceAdd, tt.h6, tt.h8, hcv]
  rw [zer _ (by omega), zar hW.Uvarint.has]
  simp +decide only [bK, bE, Nat.reduceBeqDiff, BEq.rfl]
  refine (zmt B hW.Uvarint w10 _ (by omega)).mono ?_
  rintro r3 w11 ⟨ho3, m11⟩
  have hu3 : (uvB (unkT t.u).length).length ≤ 10 := ziz (by omega)
  have h611 := h610.stay m11 fun _ _ _ h => h
  have m111 := m110.trans' m11
  obtain ⟨v4, w12, hap4, ho4, m12, _⟩ := zfb (ty := N.za) B h611 ho3.octA m111.size (by omega)
  have m112 : Mod w1 w12 zad := Mod.ofOwn h611 m111 m12
  have h7 : OctA w12 (σ10 7) ((unkT t.u).flatMap tagB) := by
   have h711 := tt.h7.stay m11 fun _ _ _ h => h
   exact (h711.stay m12 fun b _ hb hv => by have x1 := (tt.h7.blk hb).1; have x2 := (h68.blk hv).2; have x3 := m9.size; omega).octA
  simp +decide only [bK, hap4]
  obtain ⟨v5, w13, hap5, ho5, m13, _⟩ := zfb (ty := N.za) B ho4 h7 m112.size (by simp only [List.length_append]; omega)
  have m113 : Mod w1 w13 zad := Mod.ofOwn ho4 m112 m13
  simp +decide only [bK, hap5]
  refine hK _ _ (zc fun σ11 hσ => zay ⟨.inr rfl, _, rfl, ?_⟩)
  have q := hσ 5
  simp +decide only [bE, BEq.rfl, Nat.reduceAdd] at q
  rw [q]
  unfold zci endB
  simp only [if_true]
  rw [← List.append_assoc]
  exact ⟨ho5.mono_lo (by omega), m1.trans' m113⟩
end
mutual
def okFB : Fld → Bool
 | .mk k _ _ _ g _ o sub => decide (g < 0) && decide (k ≠ 10) && (decide (k ≠ 11) || decide (o ≠ 10) || (Nat.blt sub.length 1000 && ztr sub))
def ztr : List Fld → Bool
 | [] => true
 | f :: r => okFB f && ztr r
end
section
variable {P : Program} {N : Nums} {M : zcr}
mutual
theorem okF_of (B : Base P N) (S : SpT P N M) (hW : SW P N M) {flex : Bool} {v : Int} : ∀ (f : Fld), okFB f = true → OkF P M flex v f
 | .mk k _ _ _ g _ o sub, h => by
  simp only [okFB, Bool.and_eq_true, decide_eq_true_eq, Bool.or_eq_true] at h
  obtain ⟨⟨h1, h2⟩, h3⟩ := h
  refine ⟨h1, h2, fun hk ho => ?_⟩
  rcases h3 with (h3 | h3) | ⟨h3, h4⟩
  ·exact absurd hk h3
  ·exact absurd ho h3
  ·have : sub.length < 1000 := by simpa using h3
   exact sp_part B S hW (Nat.lt_trans this (by decide)) (zzm B S hW sub h4)
theorem zzm (B : Base P N) (S : SpT P N M) (hW : SW P N M) {flex : Bool} {v : Int} : ∀ (l : List Fld), ztr l = true → ∀ f ∈ l, OkF P M flex v f
 | [], _, f, hf => by cases hf
 | g :: r, h, f, hf => by
  simp only [ztr, Bool.and_eq_true] at h
  rcases List.mem_cons.1 hf with e | hf
  ·rw [e]; exact okF_of B S hW g h.1
  ·exact zzm B S hW r h.2 f hf
end
theorem partOk_of (B : Base P N) (S : SpT P N M) (hW : SW P N M) {flex : Bool} {v : Int} {l : List Fld} (h1 : l.length < 1000) (h : ztr l = true) : zuv P M flex v l :=
 sp_part B S hW (Nat.lt_trans h1 (by decide)) (zzm B S hW l h)
def zoz (fl v : Int) : Bool := decide (0 ≤ fl) && decide (fl ≤ v)
theorem sp_Write (B : Base P N) (S : SpT P N M) (hW : SW P N M) {w : World} {fv : Value} {fl v : Int} {fs : List Fld} {t : Tr} {cs : List Value} (h1 : fs.length < 1000) (hok : ztr fs = true) (hf : zhn w fv fs) (ht : RepA w t cs) (hwf : wfT t)
  (hbig : (zci (zoz fl v) v fs t).length < 549755813888) :
  Call P M.zlz #[.agg [fv, .int .i64 fl].toArray, .int .i64 v, .agg cs.toArray] w (Gave w (zci (zoz fl v) v fs t)) := by
 refine hW.Write.call rfl fun loc N' hlo => ?_
 unfold zqu
 refine zd fun K hK => zj fun τ => ?_
 simp +decide only [bK, bE, Nat.reduceBeqDiff, Nat.reduceAdd, Nat.zero_add]
 obtain ⟨w1, hw1⟩ : ∃ w1, w1 = w.alloc (.cells (Value.cells (.agg [fv, .int .i64 fl].toArray)) M.zas) := ⟨_, rfl⟩
 have m1 : Mod w w1 zad := by rw [hw1]; exact Mod.alloc _ _ _
 have r1 : w1.rangeAt w.heap.size 0 [fv, .int .i64 fl] := by rw [hw1]; exact zz w _ _ _
 rw [← hw1]
 clear hw1
 obtain ⟨w2, hw2⟩ : ∃ w2, w2 = w1.alloc (.cells (Value.cells (.agg cs.toArray)) N.zf) := ⟨_, rfl⟩
 have m2 : Mod w1 w2 zad := by rw [hw2]; exact Mod.alloc _ _ _
 have r2 : w2.rangeAt w1.heap.size 0 cs := by rw [hw2]; exact zz w1 _ _ _
 rw [← hw2]
 clear hw2
 have m02 := m1.trans' m2
 have r1' := zam m2 r1
 refine hK _ _ (zc fun σ hσ => ?_)
 have f1 := hσ 1
 have f3 := hσ 3
 have f4 := hσ 4
 simp +decide only [bE, Nat.reduceBeqDiff, BEq.rfl, Nat.reduceAdd, zif] at f1 f3 f4
 clear hσ hK K
 have x0 := r1' 0 _ rfl
 have x1 := r1' 1 _ rfl
 have hld := zfw S.tr r2 ht.len
 have hpart := partOk_of B S hW (flex := zoz fl v) (v := v) h1 hok w2 fv t cs (hf.stay m02) (RepA.stay m02 _ ht) hwf hbig
 refine zd fun K hK => zj fun τ => ?_
 have fin : ∀ {r : Value} {w3 : World} {ρ : Env}, Gave w2 (zci (zoz fl v) v fs t) r w3 → ρ 105 = r → K (locs ρ) w3 := fun {r w3 ρ} h hq => hK _ _ (zay ⟨.inr rfl, _, rfl, by
  show Gave w _ (locs ρ 5) w3
  rw [show locs ρ 5 = r from hq]
  exact ⟨h.1.mono_lo m02.size, m02.trans' h.2⟩⟩)
 by_cases a : fl ≥ 0
 ·have hfx : zoz fl v = decide (v ≥ fl) := by unfold zoz; simp [show 0 ≤ fl from a]
  simp +decide only [bK, bE, Nat.reduceBeqDiff, decide_true, BEq.rfl, Nat.reduceAdd, Nat.add_zero, Nat.zero_add, if_true, f1, f3, f4, S.m0.run, S.m1.run, S.lf.run_load1 rfl, B.int.run_load1 rfl, x0, x1, a, zah, zch, hld]
  rw [ziw hW.part.has]
  simp +decide only [bK, bE, Nat.reduceBeqDiff, BEq.rfl]
  rw [← hfx]
  refine hpart.mono ?_
  rintro r w3 hg
  exact fin hg (by simp +decide only [bE, BEq.rfl])
 ·have hfx : zoz fl v = false := by unfold zoz; simp [show ¬ 0 ≤ fl from a]
  simp +decide only [bK, bE, Nat.reduceBeqDiff, decide_false, BEq.rfl, Nat.reduceAdd, Nat.add_zero, Nat.zero_add, if_false, f1, f3, f4, S.m0.run, S.m1.run, S.lf.run_load1 rfl, B.int.run_load1 rfl, x0, x1, a, zbl, Bool.not_true, zch, hld]
  rw [ziw hW.part.has]
  simp +decide only [bK, bE, Nat.reduceBeqDiff, BEq.rfl]
  rw [← hfx]
  refine hpart.mono ?_
  rintro r w3 hg
  exact fin hg (by simp +decide only [bE, BEq.rfl])
end
def zlj (f : Fld) (x : Tr) : Prop :=
 if f.kind = 8 then x.nl = decide (0 ≤ f.null) ∧ x.s = []
 else if f.kind = 7 then x.s = List.replicate 16 0
 else if f.kind = 9 ∨ f.kind = 11 then x.s = [] ∧ x.l = []
 else x.n = numK f.kind f.dflt
def zlq (kind : Int) (pt : Tr → Tr → Prop) (t g : Tr) : Prop :=
 if kind = 8 ∨ kind = 9 then g.s = zbk t.s
 else if kind = 7 then g.s = idB t.s
 else if kind = 10 then pt t g
 else g.n = numK kind t.n
def Fld.may (f : Fld) (v : Int) : Bool := decide (0 ≤ f.null) && decide (f.null ≤ v)
def zwr (flex : Bool) (u : List (Nat × List UInt8)) : List (Nat × List UInt8) := if flex then (unkT u).map fun x => (x.1, zbk x.2) else []
mutual
def zws (flex : Bool) (v : Int) : Fld → Tr → Tr → Prop
 | .mk k f t' n g d o sub, t, y =>
  (k = 8 ∨ k = 10 ∨ Fld.may (.mk k f t' n g d o []) v = true → y.nl = Fld.nullB (.mk k f t' n g d o []) v t) ∧
  (Fld.nullB (.mk k f t' n g d o []) v t = false →
   if k = 11 then y.l.length = (zdl t.l).length ∧ ∀ (i : Nat) (x z : Tr), (zdl t.l)[i]? = some x → y.l[i]? = some z →
    (o = 8 ∨ o = 10 → z.nl = false) ∧ zlq o (fun t g => g.l.length = sub.length ∧ zrx flex v sub 0 t g ∧ g.u = zwr flex t.u) x z
   else zlq k (fun t g => g.l.length = sub.length ∧ zrx flex v sub 0 t g ∧ g.u = zwr flex t.u) t y)
def zrx (flex : Bool) (v : Int) : List Fld → Nat → Tr → Tr → Prop
 | [], _, _, _ => True
 | f :: r, i, t, g => (∀ y, g.l[i]? = some y → if f.has v then zws flex v f (atT t i) y else zlj f y) ∧ zrx flex v r (i + 1) t g
end
def zyv (flex : Bool) (v : Int) (fs : List Fld) (t g : Tr) : Prop := g.l.length = fs.length ∧ zrx flex v fs 0 t g ∧ g.u = zwr flex t.u
theorem zmr {flex : Bool} {v : Int} {f : Fld} {t y : Tr} : zws flex v f t y ↔ (f.kind = 8 ∨ f.kind = 10 ∨ f.may v = true → y.nl = f.nullB v t) ∧ (f.nullB v t = false →
   if f.kind = 11 then y.l.length = (zdl t.l).length ∧ ∀ (i : Nat) (x z : Tr), (zdl t.l)[i]? = some x → y.l[i]? = some z → (f.of = 8 ∨ f.of = 10 → z.nl = false) ∧ zlq f.of (zyv flex v f.sub) x z
   else zlq f.kind (zyv flex v f.sub) t y) := by
 obtain ⟨k, fr, t', n, g, d, o, sub⟩ := f
 rw [zws]
 exact Iff.rfl
theorem OctA.get {P : Program} {N : Nums} (B : Base P N) {w : World} {v : Value} {l : List UInt8} (h : OctA w v l) {j : Nat} {x : UInt8} (hx : l[j]? = some x) :
  ∃ b o, (∀ w', (Instr.indexAt N.za v (.int .i64 j)).run P w' = .ok (.pointer (some ⟨b, o, none⟩)) w') ∧ w.cell? ⟨b, o, none⟩ = some (.int .u8 x.toNat) := by
 have hj := (List.getElem?_eq_some_iff.1 hx).1
 rcases h with ⟨_, _, rfl, e⟩ | ⟨b, o, c, rfl, h2, h4⟩
 ·subst e; simp at hj
 ·refine ⟨b, o + j * 1, fun w' => zbv B.Lu8 B.uint8 hj, ?_⟩
  have := h4 j (zy x) (by rw [List.getElem?_map, hx]; rfl)
  simpa [zy] using this
section
variable {P : Program} {N : Nums} {M : zcr}
theorem call_SameA (B : Base P N) (F : Fns P N) (hN : N.zen ≠ 0) {w : World} {v1 v2 : Value} {l : List UInt8} (h1 : OctA w v1 l) (h2 : OctA w v2 l) (hl : l.length < 4611686018427387904) :
  Call P N.zen #[v1, v2] w fun v w' => v = .bool true ∧ Mod w w' zad := by
 refine (F.spec_Same hN).call rfl fun loc N' hlo => ?_
 unfold ztb
 refine zd fun K hK => zak (hK _ _ ?_)
 clear hK K
 obtain ⟨σ, hσ⟩ : ∃ σ, σ = upd (zcw #[v1, v2]) 2 (.bool false) := ⟨_, rfl⟩
 have f0 : σ 0 = v1 := by rw [hσ, zh (by decide)]; rfl
 have f1 : σ 1 = v2 := by rw [hσ, zh (by decide)]; rfl
 rw [← hσ]
 clear hσ
 refine zd fun K hK => zd fun K1 hK1 => zj fun τ => ?_
 simp +decide (disch := omega) only [bK, bE, Nat.reduceBeqDiff, BEq.rfl, Nat.reduceAdd, Nat.zero_add, f0, f1, h1.run_len B, h2.run_len B, zk, zao, locs_envOf]
 refine hK1 _ _ (W_if hlo (upd_same _ _ _) ?_)
 clear hK1 K1
 rw [show ((l.length : Int) != (l.length : Int)) = false from by simp, if_neg (by simp)]
 refine zbe (hK _ _ ?_)
 clear hK K
 refine zd fun K hK => zd fun K1 hK1 => zj fun τ => ?_
 simp +decide (disch := omega) only [bK, bE, BEq.rfl, Nat.reduceAdd, Nat.zero_add, zh, f0, h1.run_len B]
 refine hK1 _ _ (zc fun σ2 hσ => ?_)
 have g0 := hσ 0
 have g1 := hσ 1
 have g4 := hσ 4
 have g5 := hσ 5
 simp +decide only [bE, Nat.reduceBeqDiff, BEq.rfl, Nat.reduceAdd, Nat.zero_add, zh, f0, f1] at g0 g1 g4 g5
 clear hσ hK1 K1
 refine zwl (i := 5) (l := 4) (c := 6) (k := 0) hlo hl (fun j σ w' => σ 0 = v1 ∧ σ 1 = v2 ∧ σ 4 = .int .i64 l.length ∧ σ 5 = .int .i64 j ∧ j ≤ l.length ∧ Mod w w' zad) (fun j σ w h => ⟨h.2.2.2.1, h.2.2.1, h.2.2.2.2.1⟩) (fun j σ w b h => ?_) ⟨g0, g1, g4, g5, Nat.zero_le _, .refl _ _⟩ (fun σ' w' h => hK _ _ ?_) (fun j σ' w' hj h => ?_)
 ·obtain ⟨a, b, c, d, e, f⟩ := h
  exact ⟨by rw [zh (by decide)]; exact a, by rw [zh (by decide)]; exact b, by rw [zh (by decide)]; exact c, by rw [zh (by decide)]; exact d, e, f⟩
 ·refine zd fun K2 hK2 => zak (hK2 _ _ (zay ⟨.inr rfl, _, rfl, upd_same _ _ _, h.2.2.2.2.2⟩))
 ·obtain ⟨a, b, c, d, e, f⟩ := h
  have hx : l[j]? = some l[j] := List.getElem?_eq_getElem hj
  have md : Mod w w'.drew zad := f.trans' (Mod.drew _ _)
  obtain ⟨b1, o1, hi1, hc1⟩ := (h1.stay md).get B hx
  obtain ⟨b2, o2, hi2, hc2⟩ := (h2.stay md).get B hx
  refine zd fun K2 hK2 => zj fun τ => ?_
  simp +decide (disch := omega) only [bK, bE, BEq.rfl, Nat.reduceAdd, d]
  refine hK2 _ _ (zc fun σ3 hσ => ?_)
  have p0 := hσ 0
  have p1 := hσ 1
  have p4 := hσ 4
  have p5 := hσ 5
  have p7 := hσ 7
  simp +decide only [bE, Nat.reduceBeqDiff, BEq.rfl, Nat.reduceAdd, Nat.zero_add, a, b, c, d] at p0 p1 p4 p5 p7
  clear hσ hK2 K2
  refine zd fun K2 hK2 => zwk B.mixed (by kernel_rfl) fun τ => ?_
  simp +decide (disch := omega) only [bK, bE, zik, Nat.reduceBeqDiff, BEq.rfl, Nat.reduceAdd, Nat.zero_add, true_and, p0, p1, p7, hi1, hi2, B.uint8.run_load1 rfl, hc1, hc2]
  refine hK2 _ _ (zc fun σ4 hσ => ?_)
  have q0 := hσ 0
  have q1 := hσ 1
  have q4 := hσ 4
  have q5 := hσ 5
  have q8 := hσ 8
  simp +decide only [bE, Nat.reduceBeqDiff, BEq.rfl, Nat.reduceAdd, Nat.zero_add, p0, p1, p4, p5] at q0 q1 q4 q5 q8
  clear hσ hK2 K2
  refine W_if hlo q8 ?_
  rw [show ((l[j].toNat : Int) != (l[j].toNat : Int)) = false from by simp, if_neg (by simp)]
  refine zbe ⟨q5, ?_⟩
  exact ⟨by rw [zh (by decide)]; exact q0, by rw [zh (by decide)]; exact q1, by rw [zh (by decide)]; exact q4, upd_same _ _ _, by omega, md⟩
end
section
variable {P : Program} {N : Nums} {M : zcr}
end
section
variable {a b c d e : Value}
end
section
variable {P : Program} {N : Nums} {M : zcr}
end
section
variable {P : Program} {N : Nums} {M : zcr}
end
section
variable {P : Program} {N : Nums} {M : zcr}
end
section
variable {P : Program} {N : Nums} {M : zcr}
end
section
variable {P : Program} {N : Nums} {M : zcr}
end
section
variable {P : Program} {N : Nums} {M : zcr}
end
section
variable {P : Program} {N : Nums} {M : zcr}
end
def rs (l : List UInt8) : RS := ⟨l, false, false⟩
theorem be_foldl (l : List UInt8) (a : Nat) : l.foldl (fun a x => a * 256 + x.toNat) a = a * 256 ^ l.length + be l := by
 unfold be
 induction l generalizing a with
 | nil => simp
 | cons x l ih =>
  rw [List.foldl_cons, List.foldl_cons, ih, ih (0 * 256 + x.toNat), List.length_cons, Nat.pow_succ, Nat.add_mul, Nat.zero_mul, Nat.zero_add, Nat.mul_assoc, Nat.mul_comm 256, Nat.add_assoc]
theorem zwe (x : UInt8) (l : List UInt8) : be (x :: l) = x.toNat * 256 ^ l.length + be l := by
 rw [be, List.foldl_cons, be_foldl, Nat.zero_mul, Nat.zero_add]
theorem zoi (n : Int) : IntKind.u8.wrap n = n % 256 := by simp [IntKind.wrap, IntKind.bits, IntKind.signed]
theorem zii (n : Int) : ∀ k : Nat, (be (fixB n k) : Int) = n % (256 ^ k : Nat)
 | 0 => by simp [fixB, be]
 | k + 1 => by
  rw [fixB, zwe, zcb, Int.natCast_add, zii n k, zoi]
  have hp : (2 : Int) ^ (8 * k) = ((256 ^ k : Nat) : Int) := by
   rw [show (256 : Nat) = 2 ^ 8 from rfl, ← Nat.pow_mul, Int.natCast_pow]; rfl
  rw [hp]
  obtain ⟨p, hpk⟩ : ∃ p : Nat, p = 256 ^ k := ⟨_, rfl⟩
  have hp0 : 0 < p := by rw [hpk]; exact Nat.pow_pos (by decide)
  rw [← hpk, Nat.pow_succ, ← hpk]
  rw [Int.fdiv_eq_ediv_of_nonneg _ (by omega)]
  have hd : (UInt8.ofNat ((n / (p : Int)) % 256).toNat).toNat = ((n / (p : Int)) % 256).toNat := by
   rw [UInt8.toNat_ofNat']; omega
  rw [hd]
  have h1 : ((((n / (p : Int)) % 256).toNat : Nat) : Int) = (n / (p : Int)) % 256 := by omega
  rw [Int.natCast_mul, h1]
  have e1 := Int.emod_add_mul_ediv n (p : Int)
  have e2 := Int.emod_add_mul_ediv (n / (p : Int)) 256
  have l1 := Int.emod_nonneg n (show (p : Int) ≠ 0 by omega)
  have l2 := Int.emod_lt_of_pos n (show (0 : Int) < p by omega)
  have l3 := Int.emod_nonneg (n / (p : Int)) (show (256 : Int) ≠ 0 by decide)
  have l4 := Int.emod_lt_of_pos (n / (p : Int)) (show (0 : Int) < 256 by decide)
  generalize n % (p : Int) = m at *
  generalize (n / (p : Int)) % 256 = d at *
  generalize (n / (p : Int)) / 256 = q at *
  generalize n / (p : Int) = z at *
  subst e2
  have hn : n = (d * p + m) + ((p * 256 : Nat) : Int) * q := by
   rw [← e1, Int.natCast_mul, Int.mul_add, Int.mul_comm d, Int.mul_assoc]
   have : ((256 : Nat) : Int) = 256 := rfl
   rw [this]
   omega
  rw [hn, Int.add_mul_emod_self_left, Int.emod_eq_of_lt]
  ·have := Int.mul_nonneg l3 (show (0 : Int) ≤ p by omega); omega
  ·have : d * p ≤ 255 * p := Int.mul_le_mul_of_nonneg_right (by omega) (by omega)
   rw [Int.natCast_mul]; omega
theorem zkx (k : IntKind) (n : Int) : k.wrap (n % (2 ^ k.bits : Int)) = k.wrap n := by
 unfold IntKind.wrap
 simp only [Int.emod_emod_of_dvd n (Int.dvd_refl _)]
theorem take_app {α : Type} (x r : List α) {k : Nat} (h : x.length = k) : (x ++ r).take k = x := by subst h; simp
theorem drop_app {α : Type} (x r : List α) {k : Nat} (h : x.length = k) : (x ++ r).drop k = r := by subst h; simp
theorem zxm {c : Nat} {g : List UInt8 → Int} {x r : List UInt8} (h : x.length = c) : zow c g (rs (x ++ r)) = (g x, rs r) := by
 unfold zow rs
 simp only [List.length_append]
 rw [if_neg (by omega), take_app x r h, drop_app x r h]
theorem zgi {c : Nat} {g : List UInt8 → Value} {z : Value} {x r : List UInt8} (h : x.length = c) : zea c g z (rs (x ++ r)) = (g x, rs r) := by
 unfold zea rs
 simp only [List.length_append]
 rw [if_neg (by omega), take_app x r h, drop_app x r h]
theorem zzp (n : Int) (r : List UInt8) : i16N (rs (fixB n 2 ++ r)) = (IntKind.i16.wrap n, rs r) := by
 rw [i16N, zxm (zcb n 2), zii]
 congr 1
 exact zkx .i16 n
theorem zsq (n : Int) (r : List UInt8) : i32N (rs (fixB n 4 ++ r)) = (IntKind.i32.wrap n, rs r) := by
 rw [i32N, zxm (zcb n 4), zii]
 congr 1
 exact zkx .i32 n
theorem zni {n : Nat} (hn : n < 4294967296) (r : List UInt8) : uvN (rs (uvB n ++ r)) = (n, rs r) := by
 have t : ∀ m, m < 256 → (UInt8.ofNat m).toNat = m := fun m hm => by rw [UInt8.toNat_ofNat']; omega
 by_cases h1 : n < 128
 ·have e : uvB n = [UInt8.ofNat n] := zdq h1
  have d : uvD ([UInt8.ofNat n] ++ r) = (n, 1) := by simp only [List.cons_append, List.nil_append, uvD, t n (by omega)]; rw [if_pos h1]
  unfold uvN rs; rw [e]; simp only [d]; rfl
 rw [zfp h1]
 by_cases h2 : n / 128 < 128
 ·rw [zdq h2]
  have d : uvD ((UInt8.ofNat (n % 128 + 128) :: [UInt8.ofNat (n / 128)]) ++ r) = (n, 2) := by
   simp only [List.cons_append, List.nil_append, uvD, t (n % 128 + 128) (by omega), t (n / 128) (by omega)]
   rw [if_neg (by omega), if_pos h2]
   congr 1; omega
  unfold uvN rs; simp only [d]; rfl
 rw [zfp h2]
 by_cases h3 : n / 128 / 128 < 128
 ·rw [zdq h3]
  have d : uvD ((UInt8.ofNat (n % 128 + 128) :: UInt8.ofNat (n / 128 % 128 + 128) :: [UInt8.ofNat (n / 128 / 128)]) ++ r) = (n, 3) := by
   simp only [List.cons_append, List.nil_append, uvD, t (n % 128 + 128) (by omega), t (n / 128 % 128 + 128) (by omega), t (n / 128 / 128) (by omega)]
   rw [if_neg (by omega), if_neg (by omega), if_pos h3]
   congr 1; omega
  unfold uvN rs; simp only [d]; rfl
 rw [zfp h3]
 by_cases h4 : n / 128 / 128 / 128 < 128
 ·rw [zdq h4]
  have d : uvD ((UInt8.ofNat (n % 128 + 128) :: UInt8.ofNat (n / 128 % 128 + 128) :: UInt8.ofNat (n / 128 / 128 % 128 + 128) :: [UInt8.ofNat (n / 128 / 128 / 128)]) ++ r) = (n, 4) := by
   simp only [List.cons_append, List.nil_append, uvD, t (n % 128 + 128) (by omega), t (n / 128 % 128 + 128) (by omega), t (n / 128 / 128 % 128 + 128) (by omega), t (n / 128 / 128 / 128) (by omega)]
   rw [if_neg (by omega), if_neg (by omega), if_neg (by omega), if_pos h4]
   congr 1; omega
  unfold uvN rs; simp only [d]; rfl
 rw [zfp h4, zdq (by omega)]
 have d : uvD ((UInt8.ofNat (n % 128 + 128) :: UInt8.ofNat (n / 128 % 128 + 128) :: UInt8.ofNat (n / 128 / 128 % 128 + 128) :: UInt8.ofNat (n / 128 / 128 / 128 % 128 + 128) :: [UInt8.ofNat (n / 128 / 128 / 128 / 128)]) ++ r) = (n, 5) := by
  simp only [List.cons_append, List.nil_append, uvD, t (n % 128 + 128) (by omega), t (n / 128 % 128 + 128) (by omega), t (n / 128 / 128 % 128 + 128) (by omega), t (n / 128 / 128 / 128 % 128 + 128) (by omega), t (n / 128 / 128 / 128 / 128) (by omega)]
  rw [if_neg (by omega), if_neg (by omega), if_neg (by omega), if_neg (by omega), if_pos (by omega)]
  congr 1; omega
 unfold uvN rs; simp only [d]; rfl
theorem zuy (n : Nat) : 0 < (uvB n).length := by
 by_cases h : n < 128
 ·rw [zdq h]; simp
 ·rw [zfp h]; simp
theorem zvi (x r : List UInt8) : zqy (x.length : Int) (rs (x ++ r)) = false := by
 unfold zqy rs; simp; omega
theorem zms (x r : List UInt8) : zed (x.length : Int) (rs (x ++ r)) = x := by
 unfold zed; rw [zvi, if_neg (by simp)]; simp [rs]
theorem zjr (x r : List UInt8) : ziq (x.length : Int) (rs (x ++ r)) = rs r := by
 unfold ziq; rw [zvi, if_neg (by simp)]; simp [rs]
theorem zrj (x r : List UInt8) : zoq (x.length : Int) (rs (x ++ r)) = some x := by
 unfold zoq zvg; rw [zvi, zms]; simp [rs]
theorem zru {n : Nat} (h : n ≤ 32767) : IntKind.i16.wrap (n : Int) = n := by
 show (let m := (n : Int) % 65536; if (true && decide (m ≥ 32768)) = true then m - 65536 else m) = n
 have : (n : Int) % 65536 = n := by omega
 simp only [this]
 rw [if_neg (by simp; omega)]
theorem zlp {n : Nat} (h : n < 2147483648) : IntKind.i32.wrap (n : Int) = n := by
 show (let m := (n : Int) % 4294967296; if (true && decide (m ≥ 2147483648)) = true then m - 4294967296 else m) = n
 have : (n : Int) % 4294967296 = n := by omega
 simp only [this]
 rw [if_neg (by simp; omega)]
theorem str_rs {s : List UInt8} (h : s.length ≤ 32767) (r : List UInt8) : strR (rs (fixB s.length 2 ++ (s ++ r))) = (s, rs r) := by
 unfold strR; rw [zzp, zru h, zms, zjr]
theorem cstr_rs {s : List UInt8} (h : s.length ≤ 32767) (r : List UInt8) : zrb (rs (uvB (s.length + 1) ++ (s ++ r))) = (s, rs r) := by
 unfold zrb; rw [zni (by omega)]
 have : (((s.length + 1 : Nat) : Int) - 1) = (s.length : Int) := by omega
 simp only [this]
 rw [zms, zjr]
theorem nstr_rs {s : List UInt8} (h : s.length ≤ 32767) (r : List UInt8) : znd (rs (fixB s.length 2 ++ (s ++ r))) = (some s, rs r) := by
 unfold znd; rw [str_rs h, zzp, zru h, if_neg (by simp)]
theorem nstr_rs0 (r : List UInt8) : znd (rs (fixB (-1) 2 ++ r)) = (none, rs r) := by
 unfold znd; rw [zzp, if_pos (by show IntKind.i16.wrap (-1) < 0; decide)]
theorem cnstr_rs {s : List UInt8} (h : s.length ≤ 32767) (r : List UInt8) : zim (rs (uvB (s.length + 1) ++ (s ++ r))) = (some s, rs r) := by
 unfold zim; rw [cstr_rs h, zni (by omega), if_neg (by simp only; omega)]
theorem uv0_rs (r : List UInt8) : uvN (rs ([0] ++ r)) = (0, rs r) := by
 have := zni (n := 0) (by decide) r
 rwa [zdq (by decide)] at this
theorem cnstr_rs0 (r : List UInt8) : zim (rs ([0] ++ r)) = (none, rs r) := by
 unfold zim; rw [uv0_rs, if_pos (by show (((0 : Nat) : Int) - 1) < 0; decide)]
theorem byt_rs {s : List UInt8} (h : s.length ≤ 32767) (r : List UInt8) : bytR (rs (fixB s.length 4 ++ (s ++ r))) = (some s, rs r) := by
 unfold bytR; rw [zsq, zlp (by omega), if_neg (by simp only; omega), zrj, zjr]
theorem cbyt_rs {s : List UInt8} (h : s.length ≤ 32767) (r : List UInt8) : zvz (rs (uvB (s.length + 1) ++ (s ++ r))) = (some s, rs r) := by
 unfold zvz; rw [zni (by omega)]
 have : (((s.length + 1 : Nat) : Int) - 1) = (s.length : Int) := by omega
 simp only [this]
 rw [if_neg (by omega), zrj, zjr]
theorem nbyt_rs {s : List UInt8} (h : s.length ≤ 32767) (r : List UInt8) : zsn (rs (fixB s.length 4 ++ (s ++ r))) = (some s, rs r) := by
 unfold zsn; rw [zsq, zlp (by omega), if_neg (by simp only; omega), zrj, zjr]
theorem nbyt_rs0 (r : List UInt8) : zsn (rs (fixB (-1) 4 ++ r)) = (none, rs r) := by
 unfold zsn; rw [zsq, if_pos (by show IntKind.i32.wrap (-1) < 0; decide)]
theorem cnbyt_rs {s : List UInt8} (h : s.length ≤ 32767) (r : List UInt8) : zmd (rs (uvB (s.length + 1) ++ (s ++ r))) = (some s, rs r) := by
 unfold zmd; rw [zni (by omega)]
 have : (((s.length + 1 : Nat) : Int) - 1) = (s.length : Int) := by omega
 simp only [this]
 rw [if_neg (by omega), zrj, zjr]
theorem cnbyt_rs0 (r : List UInt8) : zmd (rs ([0] ++ r)) = (none, rs r) := by
 unfold zmd; rw [uv0_rs, if_pos (by show (((0 : Nat) : Int) - 1) < 0; decide)]
theorem arr_rs {n : Nat} (h : n ≤ 32767) {x : List UInt8} (hx : n ≤ x.length) : arrR (rs (fixB n 4 ++ x)) = ((n : Int), rs x) := by
 unfold arrR; rw [zsq, zlp (by omega)]
 rw [if_neg (by show ¬ ((x.length : Int) < (n : Int)); omega)]
theorem zzw (x : List UInt8) : arrR (rs (fixB (-1) 4 ++ x)) = (-1, rs x) := by
 unfold arrR; rw [zsq]
 rw [if_neg (by show ¬ ((x.length : Int) < (-1 : Int)); omega)]
 rfl
theorem zzt {n : Nat} (h : n ≤ 32767) {x : List UInt8} (hx : n ≤ x.length) : zle (rs (uvB (n + 1) ++ x)) = ((n : Int), rs x) := by
 have e : zng (rs (uvB (n + 1) ++ x)) = (n : Int) := by
  unfold zng; rw [zni (by omega)]
  simp only
  rw [zlp (n := n + 1) (by omega), show (((n + 1 : Nat) : Int) - 1) = (n : Int) by omega, zlp (by omega)]
 unfold zle; rw [e, zni (by omega)]
 rw [if_neg (by show ¬ ((x.length : Int) < (n : Int)); omega)]
theorem zwa (x : List UInt8) : zle (rs ([0] ++ x)) = (-1, rs x) := by
 have e : zng (rs ([0] ++ x)) = (-1 : Int) := by
  unfold zng; rw [uv0_rs]; show IntKind.i32.wrap (IntKind.i32.wrap ((0 : Nat) : Int) - 1) = -1; decide
 unfold zle; rw [e, uv0_rs]
 rw [if_neg (by show ¬ ((x.length : Int) < (-1 : Int)); omega)]
def zgw : PK → Int → Bool
 | .bool, k => decide (k = 0) | .i8, k => decide (k = 1) | .i16, k => decide (k = 2) | .u16, k => decide (k = 5) | .i32, k => decide (k = 3) | .i64, k => decide (k = 4) | .uuid, k => decide (k = 7)
theorem zem {n : Int} (h1 : -9223372036854775808 ≤ n) (h2 : n < 9223372036854775808) : IntKind.i64.wrap n = n := by
 rw [IntKind.wrap_i64]; omega
theorem wrap_i8_r (n : Int) : -128 ≤ IntKind.i8.wrap n ∧ IntKind.i8.wrap n < 128 := by
 have e : IntKind.i8.wrap n = (let m := n % 256; if (true && decide (m ≥ 128)) = true then m - 256 else m) := rfl
 rw [e]; simp only [Bool.true_and, decide_eq_true_eq]; split <;> omega
theorem wrap_i16_r (n : Int) : -32768 ≤ IntKind.i16.wrap n ∧ IntKind.i16.wrap n < 32768 := by
 have e : IntKind.i16.wrap n = (let m := n % 65536; if (true && decide (m ≥ 32768)) = true then m - 65536 else m) := rfl
 rw [e]; simp only [Bool.true_and, decide_eq_true_eq]; split <;> omega
theorem wrap_i32_r (n : Int) : -2147483648 ≤ IntKind.i32.wrap n ∧ IntKind.i32.wrap n < 2147483648 := by
 rw [IntKind.wrap_i32]; omega
theorem zrm (l : List UInt8) : (l.map zy).map (fun v => match v with | .int _ n => UInt8.ofNat n.toNat | _ => 0) = l := by
 rw [List.map_map]
 conv => rhs; rw [← List.map_id l]
 refine List.map_congr_left fun x _ => ?_
 simp [zy]
theorem zzo (s : List UInt8) : (idB s).length = 16 := by
 unfold idB; rw [List.length_append, List.length_take, List.length_replicate]; omega
theorem pr_rd {k : PK} {kind : Int} (h : zgw k kind = true) (fl : Bool) (pt : Tr → List UInt8) (pt' : Tr → Tr → Prop) (null : Bool) {t : Tr} (hw : wfT t) (r : List UInt8) :
  ∃ v, k.rd (rs (valB fl kind pt null t ++ r)) = (v, rs r) ∧ zlq kind pt' t (k.tr v) ∧ (k.tr v).nl = false ∧ 0 < (valB fl kind pt null t).length := by
 cases k with
 | bool =>
  have h : kind = 0 := by simpa [zgw] using h
  subst h
  have hm : t.n % 2 = 0 ∨ t.n % 2 = 1 := by omega
  refine ⟨.bool (be [UInt8.ofNat (t.n % 2).toNat] != 0), by rw [valB, if_pos rfl]; show zea 1 (fun l => .bool (be l != 0)) (.bool false) _ = _; rw [zgi (c := 1) (x := [UInt8.ofNat (t.n % 2).toNat]) rfl], ?_, rfl, by rw [valB, if_pos rfl]; simp⟩
  rw [zlq, if_neg (by decide), if_neg (by decide), if_neg (by decide), numK, if_pos rfl, band1]
  rcases hm with hm | hm <;> rw [hm] <;> rfl
 | i8 =>
  have h : kind = 1 := by simpa [zgw] using h
  subst h
  have e : valB fl 1 pt null t = fixB t.n 1 := by simp [valB, zfl]
  refine ⟨.int .i8 (IntKind.i8.wrap (be (fixB t.n 1))), by rw [e]; show zea 1 (fun l => .int .i8 (IntKind.i8.wrap (be l))) (.int .i8 0) _ = _; rw [zgi (zcb t.n 1)], ?_, rfl, by rw [e, zcb]; decide⟩
  rw [zlq, if_neg (by decide), if_neg (by decide), if_neg (by decide), numK, if_neg (by decide), if_pos rfl, zii]
  have := wrap_i8_r t.n
  rw [zem (by omega) (by omega)]
  exact zkx .i8 t.n
 | i16 =>
  have h : kind = 2 := by simpa [zgw] using h
  subst h
  have e : valB fl 2 pt null t = fixB t.n 2 := by simp [valB, zfl]
  refine ⟨.int .i16 (IntKind.i16.wrap (be (fixB t.n 2))), by rw [e]; show zea 2 (fun l => .int .i16 (IntKind.i16.wrap (be l))) (.int .i16 0) _ = _; rw [zgi (zcb t.n 2)], ?_, rfl, by rw [e, zcb]; decide⟩
  rw [zlq, if_neg (by decide), if_neg (by decide), if_neg (by decide), numK, if_neg (by decide), if_neg (by decide), if_pos rfl, zii]
  have := wrap_i16_r t.n
  rw [zem (by omega) (by omega)]
  exact zkx .i16 t.n
 | u16 =>
  have h : kind = 5 := by simpa [zgw] using h
  subst h
  have e : valB fl 5 pt null t = fixB t.n 2 := by simp [valB, zfl]
  refine ⟨.int .u16 (be (fixB t.n 2)), by rw [e]; show zea 2 (fun l => .int .u16 (be l)) (.int .u16 0) _ = _; rw [zgi (zcb t.n 2)], ?_, rfl, by rw [e, zcb]; decide⟩
  rw [zlq, if_neg (by decide), if_neg (by decide), if_neg (by decide), numK, if_neg (by decide), if_neg (by decide), if_neg (by decide), if_neg (by decide), if_pos rfl]
  have hw : IntKind.u16.wrap t.n = t.n % 65536 := by simp [IntKind.wrap, IntKind.bits, IntKind.signed]
  rw [hw, zem (by omega) (by omega)]
  show (be (fixB t.n 2) : Int) = _
  rw [zii]; rfl
 | i32 =>
  have h : kind = 3 := by simpa [zgw] using h
  subst h
  have e : valB fl 3 pt null t = fixB t.n 4 := by simp [valB, zfl]
  refine ⟨.int .i32 (IntKind.i32.wrap (be (fixB t.n 4))), by rw [e]; show zea 4 (fun l => .int .i32 (IntKind.i32.wrap (be l))) (.int .i32 0) _ = _; rw [zgi (zcb t.n 4)], ?_, rfl, by rw [e, zcb]; decide⟩
  rw [zlq, if_neg (by decide), if_neg (by decide), if_neg (by decide), numK, if_neg (by decide), if_neg (by decide), if_neg (by decide), if_pos rfl, zii]
  have := wrap_i32_r t.n
  rw [zem (by omega) (by omega)]
  exact zkx .i32 t.n
 | i64 =>
  have h : kind = 4 := by simpa [zgw] using h
  subst h
  have e : valB fl 4 pt null t = fixB t.n 8 := by simp [valB, zfl]
  refine ⟨.int .i64 (IntKind.i64.wrap (be (fixB t.n 8))), by rw [e]; show zea 8 (fun l => .int .i64 (IntKind.i64.wrap (be l))) (.int .i64 0) _ = _; rw [zgi (zcb t.n 8)], ?_, rfl, by rw [e, zcb]; decide⟩
  rw [zlq, if_neg (by decide), if_neg (by decide), if_neg (by decide), numK, if_neg (by decide), if_neg (by decide), if_neg (by decide), if_neg (by decide), if_neg (by decide), zii]
  have h1 := zkx .i64 t.n
  have h2 := zem hw.n.1 hw.n.2
  show IntKind.i64.wrap (t.n % (256 ^ 8 : Nat)) = t.n
  rw [← h2]
  rw [h2]
  exact h1.trans h2
 | uuid =>
  have h : kind = 7 := by simpa [zgw] using h
  subst h
  have e : valB fl 7 pt null t = idB t.s := by simp [valB, idB]
  have hl := zzo t.s
  have h1 : zed 16 (rs (idB t.s ++ r)) = idB t.s := by have := zms (idB t.s) r; rwa [hl] at this
  have h2 : ziq 16 (rs (idB t.s ++ r)) = rs r := by have := zjr (idB t.s) r; rwa [hl] at this
  refine ⟨zuz (idB t.s), by rw [e]; show (zuz (zed 16 _), ziq 16 _) = _; rw [h1, h2], ?_, rfl, by rw [e, hl]; decide⟩
  rw [zlq, if_neg (by decide), if_pos rfl]
  show zgm (zuz (idB t.s)) = idB t.s
  unfold zuz zgm
  rw [hl, Nat.sub_self, List.replicate_zero, List.append_nil, List.take_of_length_le (by omega)]
  exact zrm _
theorem zhh (s : List UInt8) : (zbk s).length ≤ 32767 := by simp [zbk, most]; omega
theorem zrf {fl : Bool} {pt : Tr → List UInt8} {null : Bool} {t : Tr} : valB fl 8 pt null t = zr fl null (if null then [] else zbk t.s).length 2 ++ (if null then [] else zbk t.s) := by simp [valB]
theorem zrg {fl : Bool} {pt : Tr → List UInt8} {null : Bool} {t : Tr} : valB fl 9 pt null t = zr fl null (if null then [] else zbk t.s).length 4 ++ (if null then [] else zbk t.s) := by simp [valB]
theorem zej (fl null : Bool) (n size : Nat) (h : 0 < size) : 0 < (zr fl null n size).length := by
 unfold zr
 split
 ·simp
 ·split
  ·exact zuy _
  ·split <;> rw [zcb] <;> exact h
def Txt.kind : Txt → Int | .str => 8 | .nstr => 8 | .byt => 9 | .nbyt => 9
theorem txt_rs (k : Txt) (fl null : Bool) (hn : k = .str ∨ k = .byt → null = false) (pt : Tr → List UInt8) (t : Tr) (r : List UInt8) (kind : Int) (hk : kind = k.kind) :
  ∃ v, k.rd fl (rs (valB fl kind pt null t ++ r)) = (v, rs r) ∧ ((Ty.txt k).tr v).nl = null ∧ (null = false → ((Ty.txt k).tr v).s = zbk t.s) ∧ (El.txt k).tr v = (Ty.txt k).tr v ∧ 0 < (valB fl kind pt null t).length := by
 have hw := zhh t.s
 cases k with
 | str =>
  have hk : kind = 8 := hk
  subst hk
  have hn := hn (.inl rfl)
  subst hn
  rw [zrf]
  simp only [Bool.false_eq_true, if_false, List.append_assoc]
  have hp := zej fl false (zbk t.s).length 2 (by decide)
  refine ⟨.num (strV (zbk t.s)), ?_, rfl, fun _ => by show zgm (strV _) = _; simp [zgm, strV], rfl, by rw [List.length_append]; omega⟩
  unfold Txt.rd zr
  cases fl with
  | true => simp only [Bool.and_false, Bool.false_eq_true, if_false, if_true]; rw [cstr_rs hw]
  | false => simp only [Bool.and_false, Bool.false_eq_true, if_false]; rw [str_rs hw]
 | nstr =>
  have hk : kind = 8 := hk
  subst hk
  rw [zrf]
  cases null with
  | true =>
   have hp := zej fl true (zbk t.s).length 2 (by decide)
   simp only [if_true, List.append_nil, List.length_nil]
   refine ⟨.nstr none, ?_, rfl, (fun h => by cases h), rfl, zej _ _ _ _ (by decide)⟩
   unfold Txt.rd zr
   cases fl with
   | true => simp only [Bool.and_true, if_true]; rw [cnstr_rs0]
   | false => simp only [Bool.false_and, Bool.false_eq_true, if_false, if_true]; rw [nstr_rs0]
  | false =>
   have hp := zej fl false (zbk t.s).length 2 (by decide)
   simp only [Bool.false_eq_true, if_false, List.append_assoc]
   refine ⟨.nstr (some (zbk t.s)), ?_, rfl, fun _ => rfl, rfl, by rw [List.length_append]; omega⟩
   unfold Txt.rd zr
   cases fl with
   | true => simp only [Bool.and_false, Bool.false_eq_true, if_false, if_true]; rw [cnstr_rs hw]
   | false => simp only [Bool.and_false, Bool.false_eq_true, if_false]; rw [nstr_rs hw]
 | byt =>
  have hk : kind = 9 := hk
  subst hk
  have hn := hn (.inr rfl)
  subst hn
  rw [zrg]
  simp only [Bool.false_eq_true, if_false, List.append_assoc]
  have hp := zej fl false (zbk t.s).length 4 (by decide)
  refine ⟨.oct (some (zbk t.s)), ?_, rfl, fun _ => rfl, rfl, by rw [List.length_append]; omega⟩
  unfold Txt.rd zr
  cases fl with
  | true => simp only [Bool.and_false, Bool.false_eq_true, if_false, if_true]; rw [cbyt_rs hw]
  | false => simp only [Bool.and_false, Bool.false_eq_true, if_false]; rw [byt_rs hw]
 | nbyt =>
  have hk : kind = 9 := hk
  subst hk
  rw [zrg]
  cases null with
  | true =>
   simp only [if_true, List.append_nil, List.length_nil]
   refine ⟨.oct none, ?_, rfl, (fun h => by cases h), rfl, zej _ _ _ _ (by decide)⟩
   unfold Txt.rd zr
   cases fl with
   | true => simp only [Bool.and_true, if_true]; rw [cnbyt_rs0]
   | false => simp only [Bool.false_and, Bool.false_eq_true, if_false, if_true]; rw [nbyt_rs0]
  | false =>
   have hp := zej fl false (zbk t.s).length 4 (by decide)
   simp only [Bool.false_eq_true, if_false, List.append_assoc]
   refine ⟨.oct (some (zbk t.s)), ?_, rfl, fun _ => rfl, rfl, by rw [List.length_append]; omega⟩
   unfold Txt.rd zr
   cases fl with
   | true => simp only [Bool.and_false, Bool.false_eq_true, if_false, if_true]; rw [cnbyt_rs hw]
   | false => simp only [Bool.and_false, Bool.false_eq_true, if_false]; rw [nbyt_rs hw]
theorem zsp {k : Nat} {x : List UInt8} : ∀ {a : List (Nat × List UInt8)}, (a.map Prod.fst).Pairwise (· < ·) → ((insT k x a).map Prod.fst).Pairwise (· < ·)
 | [], _ => by simp [insT]
 | (k', y) :: a, h => by
  rw [List.map_cons, List.pairwise_cons] at h
  rw [insT]
  split
  ·rw [List.map_cons, List.pairwise_cons]
   refine ⟨fun z hz => ?_, zsp h.2⟩
   obtain ⟨p, hp, rfl⟩ := List.mem_map.1 hz
   rcases zvu hp with rfl | hp
   ·assumption
   ·exact h.1 _ (List.mem_map.2 ⟨p, hp, rfl⟩)
  ·split
   ·rw [List.map_cons, List.pairwise_cons]; exact h
   ·rw [List.map_cons, List.map_cons, List.pairwise_cons, List.pairwise_cons]
    refine ⟨fun z hz => ?_, h⟩
    rcases List.mem_cons.1 hz with e | hz
    ·rw [e]; show k < k'; omega
    ·have := h.1 z hz
     show k < z
     have h2 : k' < z := this
     omega
theorem zss : ∀ (u a : List (Nat × List UInt8)), (a.map Prod.fst).Pairwise (· < ·) → ((u.foldl (fun a x => insT x.1 x.2 a) a).map Prod.fst).Pairwise (· < ·)
 | [], a, h => h
 | x :: u, a, h => zss u _ (zsp h)
theorem znu (u : List (Nat × List UInt8)) : ((unkT u).map Prod.fst).Pairwise (· < ·) := zss _ _ (by simp)
theorem tagsN_rs (r : List UInt8) : ∀ (l acc : List (Nat × List UInt8)), (∀ x ∈ l, x.1 < 4294967296) → ((acc ++ l).map Prod.fst).Nodup →
  ztn l.length acc (rs (l.flatMap tagB ++ r)) = (acc ++ l.map (fun x => (x.1, zbk x.2)), rs r)
 | [], acc, _, _ => by simp [ztn]
 | x :: l, acc, hk, hn => by
  rw [List.length_cons, ztn, List.flatMap_cons, tagB]
  simp only [List.append_assoc]
  rw [zni (hk x (by simp))]
  have hw := zhh x.2
  rw [zni (n := (zbk x.2).length) (by omega)]
  simp only []
  rw [zms, zjr]
  have hne : (acc.map Prod.fst).contains x.1 = false := by
   rw [List.map_append, List.nodup_append] at hn
   have := hn.2.2
   simp only [List.contains_eq_mem, decide_eq_false_iff_not]
   intro hc
   exact this _ hc x.1 (by simp) rfl
  have hp : tput acc x.1 (zbk x.2) = acc ++ [(x.1, zbk x.2)] := by unfold tput; rw [hne]; simp
  rw [hp, tagsN_rs r l _ (fun y hy => hk y (by simp [hy])) (by simpa using hn)]
  simp
theorem zvd (u : List (Nat × List UInt8)) (hk : ∀ x ∈ u, x.1 < 4294967296) (r : List UInt8) : ztm (rs ((uvB (unkT u).length ++ (unkT u).flatMap tagB) ++ r)) = ((unkT u).map (fun x => (x.1, zbk x.2)), rs r) := by
 have hl := zrh u
 unfold ztm
 rw [List.append_assoc, zni (by omega)]
 simp only []
 rw [tagsN_rs r (unkT u) [] (fun x hx => hk x (zva hx)) (by
  rw [List.nil_append]
  exact (znu u).imp (fun h => Nat.ne_of_lt h))]
 simp
theorem zsb {l : List (Nat × List UInt8)} (h : (l.map Prod.fst).Pairwise (· < ·)) : zdi l = l := by
 unfold zdi
 refine List.mergeSort_of_pairwise ?_
 rw [List.pairwise_map] at h
 exact h.imp fun h => by simpa using Nat.le_of_lt h
def Ty.dflB : Ty → Fld → Bool
 | .pr k d, f => zgw k f.kind && (if k = .uuid then decide (((Ty.pr k d).tr (Ty.iniV (.pr k d))).s = List.replicate 16 0) else decide (((Ty.pr k d).tr (Ty.iniV (.pr k d))).n = numK f.kind f.dflt))
 | .txt .str, f => decide (f.kind = 8) && decide (f.null < 0)
 | .txt .nstr, f => decide (f.kind = 8) && decide (0 ≤ f.null)
 | .txt _, f => decide (f.kind = 9)
 | .arr .., f => decide (f.kind = 11)
 | .row .., _ => false
mutual
def Ty.matB (fl : Bool) (ver : Int) : Ty → Fld → Bool
 | .pr k _, f => zgw k f.kind && !f.may ver
 | .txt .str, f => decide (f.kind = 8) && !f.may ver
 | .txt .nstr, f => decide (f.kind = 8)
 | .txt .byt, f => decide (f.kind = 9) && !f.may ver
 | .txt .nbyt, f => decide (f.kind = 9)
 | .arr _ nul e, f => decide (f.kind = 11) && (match nul with | none => !f.may ver | some k => !f.may ver || decide (k ≤ ver)) && e.matB fl ver f.of f.sub
 | .row .., _ => false
def El.matB (fl : Bool) (ver : Int) : El → Int → List Fld → Bool
 | .pr k, o, _ => zgw k o
 | .txt .str, o, _ => decide (o = 8)
 | .txt .nstr, o, _ => decide (o = 8)
 | .txt _, o, _ => decide (o = 9)
 | .row _ _ _ fs, o, sub => decide (o = 10) && fs.matB fl ver sub && (fl || sub.any fun f => f.has ver)
def Fds.matB (fl : Bool) (ver : Int) : Fds → List Fld → Bool
 | .nil, [] => !fl
 | .tags, [] => true
 | .cons g ty r, f :: fs => (g.on ver == f.has ver) && (if f.has ver then ty.matB fl ver f else ty.dflB f) && r.matB fl ver fs
 | _, _ => false
end
theorem dfl_usual : ∀ {ty : Ty} {f : Fld}, ty.dflB f = true → zlj f (ty.tr ty.iniV)
 | .pr k d, f, h => by
  simp only [Ty.dflB, Bool.and_eq_true] at h
  obtain ⟨h1, h2⟩ := h
  unfold zlj
  cases k with
  | uuid =>
   have hk : f.kind = 7 := by simpa [zgw] using h1
   rw [if_neg (by omega), if_pos hk]
   simpa using h2
  | bool =>
   have hk : f.kind = 0 := by simpa [zgw] using h1
   rw [if_neg (by omega), if_neg (by omega), if_neg (by omega)]
   simpa using h2
  | i8 =>
   have hk : f.kind = 1 := by simpa [zgw] using h1
   rw [if_neg (by omega), if_neg (by omega), if_neg (by omega)]
   simpa using h2
  | i16 =>
   have hk : f.kind = 2 := by simpa [zgw] using h1
   rw [if_neg (by omega), if_neg (by omega), if_neg (by omega)]
   simpa using h2
  | u16 =>
   have hk : f.kind = 5 := by simpa [zgw] using h1
   rw [if_neg (by omega), if_neg (by omega), if_neg (by omega)]
   simpa using h2
  | i32 =>
   have hk : f.kind = 3 := by simpa [zgw] using h1
   rw [if_neg (by omega), if_neg (by omega), if_neg (by omega)]
   simpa using h2
  | i64 =>
   have hk : f.kind = 4 := by simpa [zgw] using h1
   rw [if_neg (by omega), if_neg (by omega), if_neg (by omega)]
   simpa using h2
 | .txt .str, f, h => by
  simp only [Ty.dflB, Bool.and_eq_true, decide_eq_true_eq] at h
  unfold zlj
  rw [if_pos h.1]
  exact ⟨by show false = _; rw [decide_eq_false (by omega)], rfl⟩
 | .txt .nstr, f, h => by
  simp only [Ty.dflB, Bool.and_eq_true, decide_eq_true_eq] at h
  unfold zlj
  rw [if_pos h.1]
  exact ⟨by show true = _; rw [decide_eq_true h.2], rfl⟩
 | .txt .byt, f, h => by
  simp only [Ty.dflB, decide_eq_true_eq] at h
  unfold zlj
  rw [if_neg (by omega), if_neg (by omega), if_pos (.inl h)]
  exact ⟨rfl, rfl⟩
 | .txt .nbyt, f, h => by
  simp only [Ty.dflB, decide_eq_true_eq] at h
  unfold zlj
  rw [if_neg (by omega), if_neg (by omega), if_pos (.inl h)]
  exact ⟨rfl, rfl⟩
 | .arr .., f, h => by
  simp only [Ty.dflB, decide_eq_true_eq] at h
  unfold zlj
  rw [if_neg (by omega), if_neg (by omega), if_pos (.inr h)]
  exact ⟨rfl, rfl⟩
 | .row .., f, h => by simp [Ty.dflB] at h
theorem zrw {flex : Bool} {v : Int} : ∀ {fs : List Fld} {i : Nat} {t g : Tr}, (∀ (j : Nat) (f : Fld) (y : Tr), fs[j]? = some f → g.l[i + j]? = some y → if f.has v then zws flex v f (atT t (i + j)) y else zlj f y) → zrx flex v fs i t g
 | [], _, _, _, _ => by rw [zrx]; trivial
 | f :: r, i, t, g, h => by
  rw [zrx]
  refine ⟨fun y hy => by have := h 0 f y rfl (by simpa using hy); simpa using this, zrw fun j f' y hf hy => ?_⟩
  have := h (j + 1) f' y (by simpa using hf) (by rwa [show i + (j + 1) = i + 1 + j by omega])
  rwa [show i + (j + 1) = i + 1 + j by omega] at this
def zdr (flex : Bool) (v : Int) (fs : List Fld) (i : Nat) (t : Tr) : List UInt8 := zca flex v fs i t ++ if flex then uvB (unkT t.u).length ++ (unkT t.u).flatMap tagB else []
def TyRd (fl : Bool) (ver : Int) (ty : Ty) (f : Fld) : Prop := ∀ (t : Tr) (r : List UInt8), wfT t →
 ∃ v, ty.rd ver fl (rs (zee fl ver f t ++ r)) = some (v, rs r) ∧ zws fl ver f t (ty.tr v) ∧ 0 < (zee fl ver f t).length
def ElRd (fl : Bool) (ver : Int) (e : El) (o : Int) (sub : List Fld) : Prop := ∀ (t : Tr) (r : List UInt8), wfT t →
 ∃ v, e.rd ver fl (rs (valB fl o (zci fl ver sub) false t ++ r)) = some (v, rs r) ∧ ((o = 8 ∨ o = 10 → (e.tr v).nl = false) ∧ zlq o (zyv fl ver sub) t (e.tr v)) ∧ 0 < (valB fl o (zci fl ver sub) false t).length
def FdsRd (fl : Bool) (ver : Int) (fs : Fds) (sf : List Fld) : Prop := ∀ (i : Nat) (t : Tr) (r : List UInt8), wfT t →
 ∃ l, fs.rd ver fl (rs (zdr fl ver sf i t ++ r)) = some (l, rs r) ∧ (fs.trs l).length = sf.length ∧ fs.tgs l = zwr fl t.u ∧
  ∀ (j : Nat) (f : Fld) (y : Tr), sf[j]? = some f → (fs.trs l)[j]? = some y → if f.has ver then zws fl ver f (atT t (i + j)) y else zlj f y
theorem rdN_rs {e : El} {fl : Bool} {ver o : Int} {sub : List Fld} (he : ElRd fl ver e o sub) : ∀ (l : List Tr) (r : List UInt8), (∀ x ∈ l, wfT x) →
  ∃ vs, rdN (e.rd ver fl) l.length (rs (l.flatMap (valB fl o (zci fl ver sub) false) ++ r)) = some (vs, rs r) ∧ vs.length = l.length ∧ l.length ≤ (l.flatMap (valB fl o (zci fl ver sub) false)).length ∧
   ∀ (i : Nat) (x z : Tr), l[i]? = some x → (vs.map e.tr)[i]? = some z → (o = 8 ∨ o = 10 → z.nl = false) ∧ zlq o (zyv fl ver sub) x z
 | [], r, _ => ⟨[], rfl, rfl, Nat.zero_le _, fun i x z hx => by simp at hx⟩
 | x :: l, r, hw => by
  obtain ⟨v, h1, h2, h3⟩ := he x (l.flatMap (valB fl o (zci fl ver sub) false) ++ r) (hw x (by simp))
  obtain ⟨vs, g1, g2, g3, g4⟩ := rdN_rs he l r fun y hy => hw y (by simp [hy])
  refine ⟨v :: vs, ?_, by simp [g2], ?_, fun i y z hy hz => ?_⟩
  ·rw [List.length_cons, rdN, List.flatMap_cons, List.append_assoc, h1]
   simp only [g1]
  ·rw [List.flatMap_cons, List.length_append, List.length_cons]; omega
  ·cases i with
   | zero => simp at hy hz; subst hy hz; exact h2
   | succ i => exact g4 i y z (by simpa using hy) (by simpa using hz)
theorem zfs {fl : Bool} {ver : Int} {f : Fld} {t : Tr} (h : f.kind ≠ 11) : zee fl ver f t = valB fl f.kind (zci fl ver f.sub) (f.nullB ver t) t := zpy h
theorem zgv {f : Fld} {ver : Int} {t : Tr} (h : f.may ver = false) : f.nullB ver t = false := by
 unfold Fld.may at h; unfold Fld.nullB; rw [Bool.and_assoc, h]; simp
theorem zzn {k : PK} {n : Int} (h : zgw k n = true) : n ≠ 11 ∧ n ≠ 8 ∧ n ≠ 10 ∧ n ≠ 9 := by
 cases k <;> simp [zgw] at h <;> omega
theorem pr_told {k : PK} {f : Fld} {fl : Bool} {ver : Int} (h : zgw k f.kind = true) (hm : f.may ver = false) (d : Option Value) : TyRd fl ver (.pr k d) f := by
 intro t r hw
 obtain ⟨h11, h8, h10, _⟩ := zzn h
 rw [zfs h11, zgv hm]
 obtain ⟨v, h1, h2, h3, h4⟩ := pr_rd h fl (zci fl ver f.sub) (zyv fl ver f.sub) false hw r
 refine ⟨.num v, by rw [Ty.rd, h1], ?_, h4⟩
 rw [zmr, zgv hm]
 refine ⟨fun hc => ?_, fun _ => by rw [if_neg h11]; exact h2⟩
 rcases hc with hc | hc | hc
 ·exact absurd hc h8
 ·exact absurd hc h10
 ·rw [hm] at hc; cases hc
theorem zri {k : Txt} {f : Fld} {fl : Bool} {ver : Int} (hk : f.kind = k.kind) (hm : k = .str ∨ k = .byt → f.may ver = false) : TyRd fl ver (.txt k) f := by
 intro t r hw
 have h89 : f.kind = 8 ∨ f.kind = 9 := by rw [hk]; cases k <;> simp [Txt.kind]
 have h11 : f.kind ≠ 11 := by omega
 rw [zfs h11]
 obtain ⟨v, h1, h2, h3, _, h4⟩ := txt_rs k fl (f.nullB ver t) (fun h => zgv (hm h)) (zci fl ver f.sub) t r f.kind hk
 refine ⟨v, by rw [Ty.rd, h1], ?_, h4⟩
 rw [zmr]
 refine ⟨fun _ => h2, fun hn => ?_⟩
 rw [if_neg h11, zlq, if_pos h89]
 exact h3 hn
mutual
theorem Ty.rd_of {fl : Bool} {ver : Int} : ∀ (ty : Ty) (f : Fld), ty.matB fl ver f = true → TyRd fl ver ty f
 | .pr k d, f, h => by
  simp only [Ty.matB, Bool.and_eq_true, Bool.not_eq_true'] at h
  exact pr_told h.1 h.2 d
 | .txt .str, f, h => by
  simp only [Ty.matB, Bool.and_eq_true, Bool.not_eq_true', decide_eq_true_eq] at h
  exact zri h.1 fun _ => h.2
 | .txt .nstr, f, h => by
  simp only [Ty.matB, decide_eq_true_eq] at h
  exact zri h fun hc => by rcases hc with hc | hc <;> cases hc
 | .txt .byt, f, h => by
  simp only [Ty.matB, Bool.and_eq_true, Bool.not_eq_true', decide_eq_true_eq] at h
  exact zri h.1 fun _ => h.2
 | .txt .nbyt, f, h => by
  simp only [Ty.matB, decide_eq_true_eq] at h
  exact zri h fun hc => by rcases hc with hc | hc <;> cases hc
 | .arr st nul e, f, h => by
  simp only [Ty.matB, Bool.and_eq_true, decide_eq_true_eq] at h
  obtain ⟨⟨h11, hnul⟩, he⟩ := h
  have he := El.rd_of e f.of f.sub he
  intro t r hw
  rw [zjh h11]
  have hlz : (zdl t.l).length ≤ 32767 := by simp [zdl, most]; omega
  cases hnb : f.nullB ver t with
  | true =>
   have hmay : f.may ver = true := by
    cases hm : f.may ver with
    | true => rfl
    | false => rw [zgv hm] at hnb; cases hnb
   have hk : ∃ k, nul = some k ∧ k ≤ ver := by
    cases nul with
    | none => simp [hmay] at hnul
    | some k => exact ⟨k, rfl, by simpa [hmay] using hnul⟩
   obtain ⟨k, rfl, hk⟩ := hk
   simp only [if_true, List.length_nil, List.flatMap_nil, List.append_nil]
   have hx : (if fl then zle (rs (zr fl true 0 4 ++ r)) else arrR (rs (zr fl true 0 4 ++ r))) = (-1, rs r) := by
    unfold zr
    cases fl with
    | true => simp only [Bool.and_true, if_true]; exact zwa r
    | false => simp only [Bool.false_and, Bool.false_eq_true, if_false, if_true]; exact zzw r
   refine ⟨.nilA, ?_, ?_, zej _ _ _ _ (by decide)⟩
   ·unfold Ty.rd; rw [hx]
    simp only [rs, Bool.false_eq_true, if_false]
    rw [if_neg (by decide)]
    try simp only
    rw [if_neg (by omega)]
   ·rw [zmr, hnb]
    exact ⟨fun _ => rfl, fun hc => by cases hc⟩
  | false =>
   simp only [Bool.false_eq_true, if_false]
   obtain ⟨l, hl⟩ : ∃ l, l = zdl t.l := ⟨_, rfl⟩
   rw [← hl] at hlz ⊢
   have hwl : ∀ x ∈ l, wfT x := fun x hx => hw.l x (by rw [hl] at hx; exact List.mem_of_mem_take hx)
   obtain ⟨vs, g1, g2, g3, g4⟩ := rdN_rs he l r hwl
   rw [List.append_assoc]
   have hx : (if fl then zle (rs (zr fl false l.length 4 ++ (l.flatMap (valB fl f.of (zci fl ver f.sub) false) ++ r))) else arrR (rs (zr fl false l.length 4 ++ (l.flatMap (valB fl f.of (zci fl ver f.sub) false) ++ r)))) = ((l.length : Int), rs (l.flatMap (valB fl f.of (zci fl ver f.sub) false) ++ r)) := by
    unfold zr
    cases fl with
    | true => simp only [Bool.and_false, Bool.false_eq_true, if_false, if_true]; exact zzt hlz (by rw [List.length_append]; omega)
    | false => simp only [Bool.and_false, Bool.false_eq_true, if_false]; exact arr_rs hlz (by rw [List.length_append]; omega)
   have hpos : 0 < (zr fl false l.length 4 ++ l.flatMap (valB fl f.of (zci fl ver f.sub) false)).length := by
    have := zej fl false l.length 4 (by decide)
    rw [List.length_append]; omega
   by_cases h0 : l.length = 0
   ·have hl0 : l = [] := List.length_eq_zero_iff.1 h0
    rw [hl0] at hx g1 hpos ⊢
    simp only [List.length_nil, List.flatMap_nil, List.nil_append] at hx g1 hpos ⊢
    cases nul with
    | none =>
     have hm : f.may ver = false := by simpa using hnul
     refine ⟨.nilA, ?_, ?_, by simpa using hpos⟩
     ·unfold Ty.rd; rw [hx]
      simp only [rs, Bool.false_eq_true, if_false]
      rw [if_neg (by decide)]
     ·rw [zmr, hnb]
      refine ⟨fun hc => ?_, fun _ => ?_⟩
      ·rcases hc with hc | hc | hc
       ·omega
       ·omega
       ·rw [hm] at hc; cases hc
      ·rw [if_pos h11, ← hl, hl0]
       exact ⟨rfl, fun i x z hx => by simp at hx⟩
    | some k =>
     refine ⟨.arr e.sz [], ?_, ?_, by simpa using hpos⟩
     ·unfold Ty.rd; rw [hx]
      simp only [rs, Bool.false_eq_true, if_false]
      rw [if_neg (by decide)]
      simp
     ·rw [zmr, hnb]
      refine ⟨fun hc => rfl, fun _ => ?_⟩
      rw [if_pos h11, ← hl, hl0]
      exact ⟨rfl, fun i x z hx => by simp at hx⟩
   ·refine ⟨.arr e.sz vs, ?_, ?_, hpos⟩
    ·unfold Ty.rd; rw [hx]
     simp only [rs, Bool.false_eq_true, if_false]
     rw [if_pos (by omega)]
     have : ((l.length : Nat) : Int).toNat = l.length := by omega
     simp only [rs] at g1
     rw [this, g1]
    ·rw [zmr, hnb]
     refine ⟨fun _ => rfl, fun _ => ?_⟩
     rw [if_pos h11, ← hl]
     refine ⟨by show (vs.map e.tr).length = _; rw [List.length_map, g2], fun i x z hx hz => g4 i x z hx hz⟩
 | .row .., f, h => by simp [Ty.matB] at h
theorem El.rd_of {fl : Bool} {ver : Int} : ∀ (e : El) (o : Int) (sub : List Fld), e.matB fl ver o sub = true → ElRd fl ver e o sub
 | .pr k, o, sub, h => by
  simp only [El.matB] at h
  intro t r hw
  obtain ⟨h11, h8, h10, _⟩ := zzn h
  obtain ⟨v, h1, h2, h3, h4⟩ := pr_rd h fl (zci fl ver sub) (zyv fl ver sub) false hw r
  exact ⟨.num v, by rw [El.rd, h1], ⟨fun hc => h3, h2⟩, h4⟩
 | .txt k, o, sub, h => by
  have hk : o = k.kind := by cases k <;> simpa [El.matB, Txt.kind] using h
  intro t r hw
  have h89 : o = 8 ∨ o = 9 := by rw [hk]; cases k <;> simp [Txt.kind]
  obtain ⟨v, h1, h2, h3, h5, h4⟩ := txt_rs k fl false (fun _ => rfl) (zci fl ver sub) t r o hk
  refine ⟨v, by rw [El.rd, h1], ⟨fun _ => by rw [h5]; exact h2, ?_⟩, h4⟩
  rw [h5, zlq, if_pos h89]
  exact h3 rfl
 | .row T pT d fs, o, sub, h => by
  simp only [El.matB, Bool.and_eq_true, decide_eq_true_eq] at h
  obtain ⟨⟨h10, hfs⟩, hne⟩ := h
  have hfs' := Fds.rd_of fs sub hfs
  intro t r hw
  have hv : valB fl o (zci fl ver sub) false t = zdr fl ver sub 0 t := by rw [h10]; simp [valB, zci, endB, zdr]
  rw [hv]
  obtain ⟨l, h1, h2, h3, h4⟩ := hfs' 0 t r hw
  refine ⟨.row l, by rw [El.rd, h1], ⟨fun _ => rfl, ?_⟩, ?_⟩
  ·rw [zlq, if_neg (by omega), if_neg (by omega), if_pos h10]
   refine ⟨h2, zrw fun j f y hf hy => ?_, h3⟩
   have := h4 j f y hf (by rw [Nat.zero_add] at hy; exact hy)
   exact this
  ·unfold zdr
   rw [List.length_append]
   cases fl with
   | true => have := zuy (unkT t.u).length; simp only [if_true, List.length_append]; omega
   | false =>
    simp only [Bool.false_or, List.any_eq_true] at hne
    obtain ⟨f, hf, hhas⟩ := hne
    have := Fds.pos_of fs sub hfs 0 t hw f hf hhas
    omega
theorem Fds.pos_of {fl : Bool} {ver : Int} : ∀ (fs : Fds) (sf : List Fld), fs.matB fl ver sf = true → ∀ (i : Nat) (t : Tr), wfT t → ∀ f ∈ sf, f.has ver = true → 0 < (zca fl ver sf i t).length
 | .nil, [], _, _, _, _, f, hf, _ => by cases hf
 | .tags, [], _, _, _, _, f, hf, _ => by cases hf
 | .cons g ty r, f' :: sf, h, i, t, hw, f, hf, hh => by
  simp only [Fds.matB, Bool.and_eq_true, beq_iff_eq] at h
  obtain ⟨⟨hg, hty⟩, hr⟩ := h
  rw [zca, List.length_append]
  rcases List.mem_cons.1 hf with e | hf
  ·subst e
   rw [hh] at hty
   simp only [if_true] at hty
   rw [hh, if_pos rfl]
   obtain ⟨v, _, _, h4⟩ := Ty.rd_of ty f hty (atT t i) [] (hw.at i)
   omega
  ·have := Fds.pos_of r sf hr (i + 1) t hw f hf hh
   omega
 | .nil, _ :: _, h, _, _, _, _, _, _ => by simp [Fds.matB] at h
 | .tags, _ :: _, h, _, _, _, _, _, _ => by simp [Fds.matB] at h
 | .cons .., [], h, _, _, _, _, _, _ => by simp [Fds.matB] at h
theorem Fds.rd_of {fl : Bool} {ver : Int} : ∀ (fs : Fds) (sf : List Fld), fs.matB fl ver sf = true → FdsRd fl ver fs sf
 | .nil, [], h => by
  have h : fl = false := by simpa [Fds.matB] using h
  subst h
  intro i t r hw
  refine ⟨[], ?_, rfl, ?_, fun j f y hf => by simp at hf⟩
  ·simp [zdr, zca, Fds.rd]
  ·simp [Fds.tgs, zwr]
 | .tags, [], _ => by
  intro i t r hw
  cases fl with
  | true =>
   refine ⟨[.tags ((unkT t.u).map fun x => (x.1, zbk x.2))], ?_, rfl, ?_, fun j f y hf => by simp at hf⟩
   ·simp only [zdr, zca, Fds.rd, if_true, List.nil_append]
    rw [zvd t.u hw.u r]
   ·simp only [Fds.tgs, zwr, if_true]
    refine zsb ?_
    have := znu t.u
    rw [List.map_map]
    exact this
  | false =>
   refine ⟨[.tags []], ?_, rfl, ?_, fun j f y hf => by simp at hf⟩
   ·simp [zdr, zca, Fds.rd]
   ·simp [Fds.tgs, zwr, zdi]
 | .cons g ty r', f :: sf, h => by
  simp only [Fds.matB, Bool.and_eq_true, beq_iff_eq] at h
  obtain ⟨⟨hg, hty⟩, hr⟩ := h
  have hr' := Fds.rd_of r' sf hr
  intro i t r hw
  obtain ⟨l, h1, h2, h3, h4⟩ := hr' (i + 1) t r hw
  have key : ∀ v, (if g.on ver then ty.rd ver fl (rs (zdr fl ver (f :: sf) i t ++ r)) else some (ty.iniV, rs (zdr fl ver (f :: sf) i t ++ r))) = some (v, rs (zdr fl ver sf (i + 1) t ++ r)) → (if f.has ver then zws fl ver f (atT t i) (ty.tr v) else zlj f (ty.tr v)) →
    ∃ l, (Fds.cons g ty r').rd ver fl (rs (zdr fl ver (f :: sf) i t ++ r)) = some (l, rs r) ∧ ((Fds.cons g ty r').trs l).length = (f :: sf).length ∧ (Fds.cons g ty r').tgs l = zwr fl t.u ∧
     ∀ (j : Nat) (f' : Fld) (y : Tr), (f :: sf)[j]? = some f' → ((Fds.cons g ty r').trs l)[j]? = some y → if f'.has ver then zws fl ver f' (atT t (i + j)) y else zlj f' y := by
   intro v hv ht
   refine ⟨v :: l, ?_, ?_, h3, fun j f' y hf' hy => ?_⟩
   ·rw [Fds.rd, hv]
    simp only [h1]
   ·show (ty.tr v :: r'.trs l).length = _
    simp [h2]
   ·cases j with
    | zero =>
     simp at hf'
     have hy : some (ty.tr v) = some y := hy
     injection hy with hy
     subst hf' hy
     exact ht
    | succ j =>
     have := h4 j f' y (by simpa using hf') hy
     rwa [show i + 1 + j = i + (j + 1) by omega] at this
  cases hh : f.has ver with
  | true =>
   rw [hh] at hty hg
   simp only [if_true] at hty
   obtain ⟨v, g1, g2, _⟩ := Ty.rd_of ty f hty (atT t i) (zdr fl ver sf (i + 1) t ++ r) (hw.at i)
   refine key v ?_ (by rw [hh]; exact g2)
   rw [hg, if_pos rfl]
   have : zdr fl ver (f :: sf) i t ++ r = zee fl ver f (atT t i) ++ (zdr fl ver sf (i + 1) t ++ r) := by
    unfold zdr; rw [zca, hh]; simp only [if_true, List.append_assoc]
   rw [this]; exact g1
  | false =>
   rw [hh] at hty hg
   simp only [Bool.false_eq_true, if_false] at hty
   refine key ty.iniV ?_ (by rw [hh]; simpa using dfl_usual hty)
   rw [hg]
   simp only [Bool.false_eq_true, if_false]
   have : zdr fl ver (f :: sf) i t = zdr fl ver sf (i + 1) t := by
    unfold zdr; rw [zca, hh]; simp
   rw [this]
 | .nil, _ :: _, h => by simp [Fds.matB] at h
 | .tags, _ :: _, h => by simp [Fds.matB] at h
 | .cons .., [], h => by simp [Fds.matB] at h
end
def Fds.offB (fl : Bool) (ver : Int) : Fds → Bool
 | .nil => true
 | .tags => !fl
 | .cons g _ r => !g.on ver && r.offB fl ver
theorem Fds.off_rd {fl : Bool} {ver : Int} : ∀ {l : Fds}, l.offB fl ver = true → ∃ x, ∀ s, l.rd ver fl s = some (x, s)
 | .nil, _ => ⟨_, fun _ => by rw [Fds.rd]⟩
 | .tags, h => by simp only [Fds.offB, Bool.not_eq_true'] at h; exact ⟨[.tags []], fun s => by rw [Fds.rd, h]; rfl⟩
 | .cons g ty r, h => by
  simp only [Fds.offB, Bool.and_eq_true, Bool.not_eq_true'] at h
  obtain ⟨x, hx⟩ := Fds.off_rd h.2
  exact ⟨ty.iniV :: x, fun s => by rw [Fds.rd, h.1]; simp [hx]⟩
theorem msg_rd {m : Msg} {fx : Bool} {ver : Int} {sf : List Fld} {t : Tr} (hw : wfT t) (hm : m.fs.matB (fx && decide (ver ≥ m.fl)) ver sf = true) :
  ((fx && decide (ver ≥ m.fl)) = true ∨ (sf.any fun f => f.has ver) = true → zci (fx && decide (ver ≥ m.fl)) ver sf t ≠ []) ∧ ∃ l, m.rd fx ver (rs (zci (fx && decide (ver ≥ m.fl)) ver sf t)) = some l ∧ zyv (fx && decide (ver ≥ m.fl)) ver sf t (m.fs.tr l) := by
 obtain ⟨fl, hfl⟩ : ∃ fl, fl = (fx && decide (ver ≥ m.fl)) := ⟨_, rfl⟩
 rw [← hfl] at hm ⊢
 have hp : zci fl ver sf t = zdr fl ver sf 0 t := by simp [zci, endB, zdr]
 obtain ⟨l, h1, h2, h3, h4⟩ := Fds.rd_of m.fs sf hm 0 t [] hw
 rw [List.append_nil] at h1
 rw [hp]
 refine ⟨fun hne he => ?_, l, ?_, ?_⟩
 ·have hl : 0 < (zdr fl ver sf 0 t).length := by
   unfold zdr
   rw [List.length_append]
   rcases hne with hne | hne
   ·have := zuy (unkT t.u).length; rw [hne]; simp only [if_true, List.length_append]; omega
   ·rw [List.any_eq_true] at hne
    obtain ⟨f, hf, hh⟩ := hne
    have := Fds.pos_of m.fs sf hm 0 t hw f hf hh
    omega
  rw [he] at hl; simp at hl
 ·unfold Msg.rd
  rw [← hfl, h1]
  simp [rs]
 ·refine ⟨h2, zrw fun j f y hf hy => ?_, h3⟩
  exact h4 j f y hf (by rw [Nat.zero_add] at hy; exact hy)
def szU (u : List (Nat × List UInt8)) : Nat := (u.map fun x => 1 + x.2.length).sum
mutual
def szT : Tr → Nat
 | .mk _ s _ l u => 1 + s.length + szTs l + szU u
def szTs : List Tr → Nat
 | [] => 0
 | t :: l => szT t + szTs l
end
theorem zty (t : Tr) : szT t = 1 + t.s.length + szTs t.l + szU t.u := by cases t; rfl
theorem zyx (t : Tr) : 1 ≤ szT t := by rw [zty]; omega
theorem szU_ins (k : Nat) (x : List UInt8) : ∀ a : List (Nat × List UInt8), szU (insT k x a) ≤ szU a + (1 + x.length)
 | [] => by simp [insT, szU]
 | (k', y) :: a => by
  have ih := szU_ins k x a
  rw [insT]
  split
  ·simp only [szU, List.map_cons, List.sum_cons] at ih ⊢; omega
  ·split
   ·omega
   ·simp only [szU, List.map_cons, List.sum_cons]; omega
theorem szU_fold : ∀ u a : List (Nat × List UInt8), szU (u.foldl (fun a x => insT x.1 x.2 a) a) ≤ szU a + szU u
 | [], a => by simp [szU]
 | x :: u, a => by
  have h1 := szU_ins x.1 x.2 a
  have h2 := szU_fold u (insT x.1 x.2 a)
  have e : szU (x :: u) = 1 + x.2.length + szU u := by simp [szU]
  rw [List.foldl_cons]; omega
theorem szU_take (n : Nat) : ∀ u : List (Nat × List UInt8), szU (u.take n) ≤ szU u := by
 induction n with
 | zero => intro u; simp [szU]
 | succ n ih =>
  intro u
  cases u with
  | nil => simp
  | cons x u => have := ih u; simp only [szU, List.take_succ_cons, List.map_cons, List.sum_cons] at this ⊢; omega
theorem szU_unk (u : List (Nat × List UInt8)) : szU (unkT u) ≤ szU u := by
 have h1 := szU_fold (u.take most) []
 have h2 := szU_take most u
 have : szU ([] : List (Nat × List UInt8)) = 0 := rfl
 unfold unkT; omega
theorem uvB_le {n : Nat} (h : n < 2 ^ 64) : (uvB n).length ≤ 10 := ziz h
theorem tags_len : ∀ (u : List (Nat × List UInt8)), (∀ x ∈ u, x.1 < 4294967296) → (u.flatMap tagB).length ≤ 20 * szU u
 | [], _ => by simp [szU]
 | x :: u, h => by
  have ih := tags_len u fun y hy => h y (by simp [hy])
  have h1 := uvB_le (n := x.1) (by have := h x (by simp); omega)
  have hw := zhh x.2
  have h2 := uvB_le (n := (zbk x.2).length) (by omega)
  have h3 : (zbk x.2).length ≤ x.2.length := by simp [zbk]; omega
  have e : szU (x :: u) = 1 + x.2.length + szU u := by simp [szU]
  rw [List.flatMap_cons, List.length_append, e, tagB]
  simp only [List.length_append]; omega
theorem end_len {flex : Bool} {u : List (Nat × List UInt8)} (h : ∀ x ∈ u, x.1 < 4294967296) : (if flex then uvB (unkT u).length ++ (unkT u).flatMap tagB else []).length ≤ 10 + 20 * szU u := by
 cases flex with
 | false => simp
 | true =>
  have h1 := zrh u
  have h2 := uvB_le (n := (unkT u).length) (by omega)
  have h3 := tags_len (unkT u) fun x hx => h x (zva hx)
  have h4 := szU_unk u
  simp only [if_true, List.length_append]; omega
def K0 : Nat := 40000
theorem zsv (fl null : Bool) (n size : Nat) (hn : n ≤ 32767) (hs : size ≤ 8) : (zr fl null n size).length ≤ 10 := zqr fl null n size hn hs
theorem valB_len {fl : Bool} {kind : Int} {pt : Tr → List UInt8} {null : Bool} {t : Tr} (hp : kind = 10 → (pt t).length ≤ K0 * szT t) : (valB fl kind pt null t).length ≤ K0 * szT t ∧ (kind ≠ 10 → (valB fl kind pt null t).length ≤ 20 + t.s.length) := by
 have h1 := zyx t
 have hs : t.s.length ≤ szT t := by rw [zty]; omega
 have hw : (zbk t.s).length ≤ t.s.length := by simp [zbk]; omega
 have hw2 := zhh t.s
 have key : (valB fl kind pt null t).length ≤ 20 + t.s.length → (valB fl kind pt null t).length ≤ K0 * szT t ∧ (kind ≠ 10 → (valB fl kind pt null t).length ≤ 20 + t.s.length) := fun h => ⟨by unfold K0; omega, fun _ => h⟩
 have hc : ∀ size, size ≤ 8 → (zr fl null (if null then [] else zbk t.s).length size ++ (if null then [] else zbk t.s)).length ≤ 20 + t.s.length := by
  intro size hsz
  have hl : (if null then [] else zbk t.s).length ≤ t.s.length ∧ (if null then [] else zbk t.s).length ≤ 32767 := by cases null <;> simp <;> omega
  have := zsv fl null _ size hl.2 hsz
  rw [List.length_append]; omega
 by_cases e0 : kind = 0
 ·exact key (by rw [valB, if_pos e0]; simp; omega)
 by_cases e7 : kind = 7
 ·exact key (by rw [valB, if_neg e0, if_pos e7]; have := zzo t.s; unfold idB at this; omega)
 by_cases e8 : kind = 8
 ·exact key (by rw [valB, if_neg e0, if_neg e7, if_pos e8]; exact hc 2 (by decide))
 by_cases e9 : kind = 9
 ·exact key (by rw [valB, if_neg e0, if_neg e7, if_neg e8, if_pos e9]; exact hc 4 (by decide))
 by_cases e10 : kind = 10
 ·rw [valB, if_neg e0, if_neg e7, if_neg e8, if_neg e9, if_pos e10]
  exact ⟨hp e10, fun h => absurd e10 h⟩
 ·refine key ?_
  rw [valB, if_neg e0, if_neg e7, if_neg e8, if_neg e9, if_neg e10, zcb]
  have : zfl kind ≤ 8 := by unfold zfl; (repeat' split) <;> omega
  omega
theorem flat_len {f : Tr → List UInt8} : ∀ {l : List Tr}, (∀ x ∈ l, (f x).length ≤ K0 * szT x) → (l.flatMap f).length ≤ K0 * szTs l
 | [], _ => by simp
 | x :: l, h => by
  have h1 := h x (by simp)
  have h2 := flat_len fun y hy => h y (List.mem_cons_of_mem _ hy)
  rw [List.flatMap_cons, List.length_append, szTs, Nat.mul_add]; omega
theorem szTs_take (n : Nat) : ∀ l : List Tr, szTs (l.take n) ≤ szTs l := by
 induction n with
 | zero => intro l; simp [szTs]
 | succ n ih =>
  intro l
  cases l with
  | nil => simp
  | cons x l => have := ih l; simp only [szTs, List.take_succ_cons]; omega
def ztq (t : Tr) (i : Nat) : Nat := szTs (t.l.drop i)
theorem restS_at (t : Tr) (i : Nat) : (i < t.l.length → ztq t i = szT (atT t i) + ztq t (i + 1)) ∧ (¬ i < t.l.length → atT t i = tr0 ∧ ztq t (i + 1) = 0) := by
 refine ⟨fun h => ?_, fun h => ?_⟩
 ·unfold ztq atT
  rw [List.drop_eq_getElem_cons h, szTs, List.getD, List.getElem?_eq_getElem h]; rfl
 ·unfold ztq atT
  rw [List.getD, List.getElem?_eq_none (by omega), List.drop_of_length_le (by omega)]
  exact ⟨rfl, rfl⟩
mutual
theorem fieldB_len {fl : Bool} {v : Int} : ∀ (f : Fld), okFB f = true → ∀ t, wfT t → (zee fl v f t).length ≤ K0 * szT t ∧ (t.l = [] → (zee fl v f t).length ≤ 20 + t.s.length)
 | .mk k fr to n g d o sub, h, t, hw => by
  simp only [okFB, Bool.and_eq_true, decide_eq_true_eq, Bool.or_eq_true] at h
  obtain ⟨⟨h1, h2⟩, h3⟩ := h
  have h1 := zyx t
  by_cases e11 : k = 11
  ·have hp : o = 10 → ∀ x, wfT x → (zci fl v sub x).length ≤ K0 * szT x := by
    intro ho x hx
    rcases h3 with (h3 | h3) | ⟨h3, h4⟩
    ·exact absurd e11 h3
    ·exact absurd ho h3
    ·have hs : sub.length < 1000 := by simpa using h3
     have hf := zof (fl := fl) (v := v) sub h4 0 x hx
     have he := end_len (flex := fl) (u := x.u) hx.u
     have hx0 : ztq x 0 = szTs x.l := by simp [ztq]
     unfold zci endB
     rw [List.length_append]
     rw [hx0] at hf
     rw [zty x]
     have : K0 * (1 + x.s.length + szTs x.l + szU x.u) = K0 + K0 * x.s.length + K0 * szTs x.l + K0 * szU x.u := by simp only [Nat.mul_add, Nat.mul_one]
     rw [this]
     have : 20 * szU x.u ≤ K0 * szU x.u := Nat.mul_le_mul_right _ (by decide)
     have : 20 * sub.length + 10 ≤ K0 := by unfold K0; omega
     omega
   have e : zee fl v (.mk k fr to n g d o sub) t = _ := zjh (f := .mk k fr to n g d o sub) e11
   rw [e]
   obtain ⟨l, hl⟩ : ∃ l, l = (if (Fld.mk k fr to n g d o sub).nullB v t then [] else zdl t.l) := ⟨_, rfl⟩
   rw [← hl]
   have hsub : szTs l ≤ szTs t.l ∧ l.length ≤ 32767 ∧ (∀ x ∈ l, wfT x) ∧ (t.l = [] → l = []) := by
    rw [hl]
    cases (Fld.mk k fr to n g d o sub).nullB v t with
    | true => exact ⟨by simp [szTs], by simp, (fun x hx => by cases hx), fun _ => rfl⟩
    | false => exact ⟨szTs_take most t.l, by simp [zdl, most]; omega, fun x hx => hw.l x (List.mem_of_mem_take hx), fun h => by simp [zdl, h]⟩
   obtain ⟨s1, s2, s3, s4⟩ := hsub
   have hc := zsv fl ((Fld.mk k fr to n g d o sub).nullB v t) l.length 4 s2 (by decide)
   have hfl : (l.flatMap (valB fl o (zci fl v sub) false)).length ≤ K0 * szTs l := flat_len fun x hx => (valB_len (fun ho => hp ho x (s3 x hx))).1
   have hm : K0 * szTs l ≤ K0 * szTs t.l := Nat.mul_le_mul_left _ s1
   refine ⟨?_, fun h0 => ?_⟩
   ·rw [List.length_append]
    show _ + (l.flatMap (valB fl o (zci fl v sub) false)).length ≤ _
    rw [zty t]
    have : K0 * (1 + t.s.length + szTs t.l + szU t.u) = K0 + K0 * t.s.length + K0 * szTs t.l + K0 * szU t.u := by simp only [Nat.mul_add, Nat.mul_one]
    rw [this]
    have : 10 ≤ K0 := by decide
    omega
   ·rw [List.length_append]
    have := s4 h0
    rw [this] at hc ⊢
    simp only [List.flatMap_nil, List.length_nil] at hc ⊢
    omega
  ·have e : zee fl v (.mk k fr to n g d o sub) t = _ := zpy (f := .mk k fr to n g d o sub) e11
   rw [e]
   have := valB_len (fl := fl) (kind := k) (pt := zci fl v sub) (null := (Fld.mk k fr to n g d o sub).nullB v t) (t := t) (fun hc => absurd hc h2)
   exact ⟨this.1, fun _ => this.2 h2⟩
theorem zof {fl : Bool} {v : Int} : ∀ (fs : List Fld), ztr fs = true → ∀ (i : Nat) (t : Tr), wfT t → (zca fl v fs i t).length ≤ 20 * fs.length + K0 * ztq t i
 | [], _, i, t, _ => by simp [zca]
 | f :: r, h, i, t, hw => by
  simp only [ztr, Bool.and_eq_true] at h
  have h1 := fieldB_len (fl := fl) (v := v) f h.1 (atT t i) (hw.at i)
  have h2 := zof (fl := fl) (v := v) r h.2 (i + 1) t hw
  rw [zca, List.length_append, List.length_cons]
  have h3 : (if f.has v then zee fl v f (atT t i) else []).length ≤ (zee fl v f (atT t i)).length := by split <;> simp
  have hm : 20 * (r.length + 1) = 20 * r.length + 20 := by omega
  rw [hm]
  obtain ⟨r1, r2⟩ := restS_at t i
  by_cases hi : i < t.l.length
  ·rw [r1 hi, Nat.mul_add]
   have h5 := h1.1
   omega
  ·obtain ⟨e1, e2⟩ := r2 hi
   have h4 := h1.2 (by rw [e1]; rfl)
   have e3 : (atT t i).s.length = 0 := by rw [e1]; rfl
   rw [e2] at h2
   have : K0 * 0 = 0 := rfl
   omega
end
theorem partB_len {fl : Bool} {v : Int} {fs : List Fld} (h : ztr fs = true) (hl : fs.length < 1000) {t : Tr} (hw : wfT t) : (zci fl v fs t).length ≤ K0 * szT t := by
 have hf := zof (fl := fl) (v := v) fs h 0 t hw
 have he := end_len (flex := fl) (u := t.u) hw.u
 have hx0 : ztq t 0 = szTs t.l := by simp [ztq]
 unfold zci endB
 rw [List.length_append]
 rw [hx0] at hf
 rw [zty t]
 have : K0 * (1 + t.s.length + szTs t.l + szU t.u) = K0 + K0 * t.s.length + K0 * szTs t.l + K0 * szU t.u := by simp only [Nat.mul_add, Nat.mul_one]
 rw [this]
 have : 20 * szU t.u ≤ K0 * szU t.u := Nat.mul_le_mul_right _ (by decide)
 have : 20 * fs.length + 10 ≤ K0 := by unfold K0; omega
 omega
section
open Go Go.RowKit Go.ChangeShapes Go.WideShapes
structure BulkF {H : Type} (B : DataW H → Nat) (BA : List (DataW H) → Nat) : Prop where
 lit : ∀ l, 1 ≤ B (.lit l)
 slice : ∀ e s, B (.slice e s) = BA e + BA s + 1
 agg : ∀ l, B (.agg l) = BA l + 1
 nil : B .nil = 1
 anil : BA [] = 0
 acons : ∀ d l, BA (d :: l) = B d + BA l
structure TreeO (P : Program) (N : Nums) : Prop where
 tree : ∃ fs, P.underlying N.zf = some (.struct fs) ∧ fs.toList.map (fun f => (f.offset, f.type)) = [(0, N.zde), (1, N.za), (2, N.zav), (3, N.zab), (4, N.zn)]
 tag : ∃ fs, P.underlying N.zac = some (.struct fs) ∧ fs.toList.map (fun f => (f.offset, f.type)) = [(0, N.zb), (1, N.za)]
 cTree : P.cellsOf N.zf = 5
 cTag : P.cellsOf N.zac = 2
 c1 : P.cellsOf N.zde = 1 ∧ P.cellsOf N.za = 1 ∧ P.cellsOf N.zav = 1 ∧ P.cellsOf N.zab = 1 ∧ P.cellsOf N.zn = 1 ∧ P.cellsOf N.zb = 1 ∧ P.cellsOf N.zg = 1
theorem zul {w : World} {a : Addr} : ∀ {n k : Nat} {cs : List Value}, ((List.range' k n).mapM fun i => w.cell? (a.add i)) = some cs → cs.length = n ∧ ∀ j, j < n → w.cell? (a.add (k + j)) = cs[j]?
 | 0, k, cs, h => by simp at h; subst h; exact ⟨rfl, fun j hj => by omega⟩
 | n + 1, k, cs, h => by
  rw [List.range'_succ, List.mapM_cons] at h
  simp only [Option.bind_eq_bind, Option.bind_eq_some_iff, Option.pure_def, Option.some.injEq] at h
  obtain ⟨c, hc, r, hr, rfl⟩ := h
  obtain ⟨g1, g2⟩ := zul hr
  refine ⟨by simp [g1], fun j hj => ?_⟩
  cases j with
  | zero => simpa using hc
  | succ j => have := g2 j (by omega); rw [show k + (j + 1) = k + 1 + j by omega, this]; simp
theorem zzs {w : World} {base : Nat} {a : Addr} {n : Nat} {cs : List Value} (h : w.cells? base a n = some cs) (hn : 0 < n) : ∃ b o, a = ⟨b, o, none⟩ ∧ cs.length = n ∧ w.rangeAt b o cs := by
 unfold World.cells? at h
 split at h
 case isFalse => cases h
 rw [List.range_eq_range'] at h
 obtain ⟨h1, h2⟩ := zul h
 have h0 := h2 0 hn
 have e0 : a.add (0 + 0) = a := by simp [Addr.add]
 rw [e0, List.getElem?_eq_getElem (by omega)] at h0
 obtain ⟨b, o, s⟩ := a
 have hs : s = none := by
  cases s with
  | none => rfl
  | some x =>
   unfold World.cell? at h0
   split at h0
   ·simp at h0
   ·cases h0
 subst hs
 refine ⟨b, o, rfl, h1, fun j v hj => ?_⟩
 have hl := (List.getElem?_eq_some_iff.1 hj).1
 have := h2 j (by omega)
 rw [hj, Nat.zero_add] at this
 rwa [Addr.add_mid] at this
theorem add_next {a : Addr} {m b o n : Nat} (h : a.add m = ⟨b, o, none⟩) : a.add (m + n) = ⟨b, o + n, none⟩ := by
 unfold Addr.add at h ⊢
 split at h
 ·rename_i hm
  subst hm h
  split
  ·rename_i h2; have : n = 0 := by omega
   subst this; rfl
  ·simp
 ·rename_i hm
  rw [if_neg (by omega)]
  simp only [Addr.mk.injEq, and_true] at h ⊢
  omega
inductive RelL {α : Type} (R : α → List Value → Prop) : List α → List (List Value) → Prop
 | nil : RelL R [] []
 | cons {x l c r} : R x c → RelL R l r → RelL R (x :: l) (c :: r)
theorem zmu {H α : Type} {w : World} {a : Addr} {sz : Nat} (hsz : 0 < sz) (R : α → List Value → Prop) (S : α → Nat) {B : DataW H → Nat} {BA : List (DataW H) → Nat} (hB : BulkF B BA) : ∀ (elems : List (DataW H × List MemPlace)) (k : Nat),
  (∀ i (h : i < elems.length), ∃ cs x, w.cells? 0 (a.add ((k + i) * sz)) sz = some cs ∧ R x cs ∧ S x ≤ B (elems[i]).1) →
  ∃ l css, l.length = elems.length ∧ RelL R l css ∧ (l.map S).sum ≤ BA (elems.map (·.1)) ∧ (elems ≠ [] → ∃ b o, a.add (k * sz) = ⟨b, o, none⟩ ∧ w.rangeAt b o css.flatten)
 | [], k, _ => ⟨[], [], rfl, .nil, by simp, fun h => absurd rfl h⟩
 | e :: elems, k, h => by
  obtain ⟨cs, x, hc, hR, hS⟩ := h 0 (by simp)
  obtain ⟨b, o, ha, hl, hr⟩ := zzs hc hsz
  rw [Nat.add_zero] at ha
  obtain ⟨l, css, g1, g2, g3, g4⟩ := zmu hsz R S hB elems (k + 1) fun i hi => by
   have := h (i + 1) (by simp; omega)
   rw [show k + (i + 1) = k + 1 + i by omega] at this
   simpa using this
  refine ⟨x :: l, cs :: css, by simp [g1], .cons hR g2, ?_, fun _ => ⟨b, o, ha, ?_⟩⟩
  ·rw [List.map_cons, List.sum_cons, List.map_cons, hB.acons]
   have hS : S x ≤ B e.1 := hS
   omega
  ·rw [List.flatten_cons, zae]
   refine ⟨hr, ?_⟩
   cases elems with
   | nil =>
    have : l = [] := List.length_eq_zero_iff.1 (by simpa using g1)
    subst this
    cases g2
    intro j v hj; simp at hj
   | cons e' elems =>
    obtain ⟨b2, o2, ha2, hr2⟩ := g4 (by simp)
    have := add_next (n := sz) ha
    rw [show k * sz + sz = (k + 1) * sz by rw [Nat.add_mul, Nat.one_mul], ha2] at this
    injection this with e1 e2
    subst e1 e2
    rw [hl]; exact hr2
theorem wf_i64 {n : Int} (h : (Lit.int .i64 n).wf = true) : -9223372036854775808 ≤ n ∧ n < 9223372036854775808 := by
 simp [Lit.wf, IntKind.min, IntKind.max, IntKind.signed, IntKind.bits] at h
 omega
theorem wf_u32 {n : Int} (h : (Lit.int .u32 n).wf = true) : 0 ≤ n ∧ n < 4294967296 := by
 simp [Lit.wf, IntKind.min, IntKind.max, IntKind.signed, IntKind.bits] at h
 omega
section
variable {P : Program} {N : Nums} {H : Type} {enc : TypeId × Value → H} {w : World} {B : DataW H → Nat} {BA : List (DataW H) → Nat}
theorem oct_open (T : TreeO P N) (Bs : Base P N) (hB : BulkF B BA) {fuel : Nat} {c : Value} {x : DataW H × List MemPlace} (h : DataW.trod enc P w 0 (fun _ => true) true fuel N.za [c] = some x) : ∃ s, OctA w c s ∧ s.length + 1 ≤ B x.1 := by
 have he : P.underlying N.zg = some (.int .u8) := Bs.uint8.und
 rcases DataW.trod_slice Bs.Lu8.und h with ⟨hc, rfl⟩ | ⟨a, len, cap, elems, rest, n, rfl, hc, rfl, hb, hl, hm, hlen, hel, hsp, _⟩
 ·injection hc with hc
  exact ⟨[], .inl ⟨none, 0, hc, rfl⟩, by rw [hB.nil]; simp⟩
 ·injection hc with hc
  rw [T.c1.2.2.2.2.2.2] at hel
  obtain ⟨l, css, g1, g2, g3, g4⟩ := zmu (a := a) (sz := 1) (by decide) (fun (y : UInt8) cs => cs = [zy y]) (fun _ => 1) hB elems 0 fun i hi => by
   have h1 := hel i (by omega)
   rw [List.getElem?_eq_getElem hi, Option.bind_eq_some_iff] at h1
   obtain ⟨cs, hcs, hy⟩ := h1
   obtain ⟨m, rfl, hx, hw⟩ := DataW.trod_int he hy
   refine ⟨_, UInt8.ofNat m.toNat, by rw [Nat.zero_add]; exact hcs, by rw [zvt hw], ?_⟩
   rw [hx]; exact hB.lit _
  have hcs : ∀ {l : List UInt8} {css : List (List Value)}, RelL (fun (y : UInt8) cs => cs = [zy y]) l css → css.flatten = l.map zy := by
   intro l css hr
   induction hr with
   | nil => rfl
   | cons h _ ih => subst h; simp [ih]
  have hs : (l.map fun _ => 1).sum = l.length := by
   clear g1 g2 g3 g4
   induction l with
   | nil => rfl
   | cons y l ih => simp [ih]; omega
  refine ⟨l, ?_, ?_⟩
  ·by_cases h0 : len = 0
   ·exact .inl ⟨some a, cap, by rw [hc, h0], List.length_eq_zero_iff.1 (by omega)⟩
   ·obtain ⟨b, o, ha, hr⟩ := g4 (fun e => by rw [e] at hlen; simp at hlen; omega)
    have ha : a = ⟨b, o, none⟩ := by simpa [Addr.add] using ha
    exact .inr ⟨b, o, cap, by rw [hc, ha, g1, hlen], by omega, by rw [← hcs g2]; exact hr⟩
  ·rw [hB.slice]; omega
theorem tags_open (T : TreeO P N) (Bs : Base P N) (hT : zrd P N N.zf N.zac N.zab N.zn) (hB : BulkF B BA) {fuel : Nat} {c : Value} {x : DataW H × List MemPlace} (h : DataW.trod enc P w 0 (fun _ => true) true fuel N.zn [c] = some x) : ∃ u, zkf w c u ∧ (∀ y ∈ u, y.1 < 4294967296) ∧ szU u + 1 ≤ B x.1 := by
 rcases DataW.trod_slice hT.lg.und h with ⟨hc, rfl⟩ | ⟨a, len, cap, elems, rest, n, rfl, hc, rfl, hb, hl, hm, hlen, hel, hsp, _⟩
 ·injection hc with hc
  exact ⟨[], .inl ⟨none, 0, hc, rfl⟩, (fun y hy => by cases hy), by rw [hB.nil]; simp [szU]⟩
 ·injection hc with hc
  rw [T.cTag] at hel
  obtain ⟨fs, hu, hfs⟩ := T.tag
  obtain ⟨l, css, g1, g2, g3, g4⟩ := zmu (a := a) (sz := 2) (by decide) (fun (y : Nat × List UInt8) cs => ∃ s, cs = [.int .u32 y.1, s] ∧ OctA w s y.2 ∧ y.1 < 4294967296) (fun y => 1 + y.2.length) hB elems 0 fun i hi => by
   have h1 := hel i (by omega)
   rw [List.getElem?_eq_getElem hi, Option.bind_eq_some_iff] at h1
   obtain ⟨cs, hcs, hy⟩ := h1
   obtain ⟨xs, n', rfl, hx, hcl, hxl, hfi⟩ := DataW.trod_struct hu hy
   rw [T.cTag] at hcl
   have hfl : fs.toList.length = 2 := by have := congrArg List.length hfs; simpa using this
   match cs, hcl with
   | [c0, c1], _ =>
    have f0 : ∃ f, fs[0]? = some f ∧ f.offset = 0 ∧ f.type = N.zb := by
     have := congrArg (fun l => l[0]?) hfs
     simp only [List.getElem?_map, Array.getElem?_toList] at this
     cases hf : fs[0]? with
     | none => rw [hf] at this; simp at this
     | some f => rw [hf] at this; simp at this; exact ⟨f, rfl, this.1, this.2⟩
    have f1 : ∃ f, fs[1]? = some f ∧ f.offset = 1 ∧ f.type = N.za := by
     have := congrArg (fun l => l[1]?) hfs
     simp only [List.getElem?_map, Array.getElem?_toList] at this
     cases hf : fs[1]? with
     | none => rw [hf] at this; simp at this
     | some f => rw [hf] at this; simp at this; exact ⟨f, rfl, this.1, this.2⟩
    obtain ⟨f0, e0, o0, t0⟩ := f0
    obtain ⟨f1, e1, o1, t1⟩ := f1
    have h0 := hfi 0 f0 e0
    have h1 := hfi 1 f1 e1
    rw [o0, t0, T.c1.2.2.2.2.2.1, List.getElem?_eq_getElem (by rw [hxl, ← Array.length_toList, hfl]; decide)] at h0
    rw [o1, t1, T.c1.2.1, List.getElem?_eq_getElem (by rw [hxl, ← Array.length_toList, hfl]; decide)] at h1
    obtain ⟨m, hm1, hm2, hm3⟩ := DataW.trod_int Bs.uint32.und h0
    obtain ⟨s, hs1, hs2⟩ := oct_open T Bs hB h1
    have hw := wf_u32 hm3
    refine ⟨_, (m.toNat, s), by rw [Nat.zero_add]; exact hcs, ⟨c1, ?_, hs1, by show m.toNat < _; omega⟩, ?_⟩
    ·have : c0 = .int .u32 m := by simpa using hm1
     rw [this, show ((m.toNat : Nat) : Int) = m by omega]
    ·rw [hx, hB.agg]
     have hx2 : xs.length = 2 := by rw [hxl, ← Array.length_toList, hfl]
     match xs, hx2 with
     | [x0, x1], _ =>
      simp only [List.map_cons, hB.acons]
      have hs2 : s.length + 1 ≤ B x1.1 := hs2
      show 1 + s.length ≤ _
      omega
  have hcs : ∀ {l : List (Nat × List UInt8)} {css : List (List Value)}, RelL (fun (y : Nat × List UInt8) cs => ∃ s, cs = [.int .u32 y.1, s] ∧ OctA w s y.2 ∧ y.1 < 4294967296) l css → UsA w l css.flatten ∧ ∀ y ∈ l, y.1 < 4294967296 := by
   intro l css hr
   induction hr with
   | nil => exact ⟨rfl, fun y hy => by cases hy⟩
   | cons h _ ih =>
    obtain ⟨s, rfl, h1, h2⟩ := h
    refine ⟨⟨s, _, rfl, h1, ih.1⟩, fun y hy => ?_⟩
    rcases List.mem_cons.1 hy with e | hy
    ·rw [e]; exact h2
    ·exact ih.2 y hy
  obtain ⟨k1, k2⟩ := hcs g2
  refine ⟨l, ?_, k2, by rw [hB.slice]; unfold szU; omega⟩
  by_cases h0 : len = 0
  ·exact .inl ⟨some a, cap, by rw [hc, h0], List.length_eq_zero_iff.1 (by omega)⟩
  ·obtain ⟨b, o, ha, hr⟩ := g4 (fun e => by rw [e] at hlen; simp at hlen; omega)
   have ha : a = ⟨b, o, none⟩ := by simpa [Addr.add] using ha
   exact .inr ⟨b, o, cap, css.flatten, by rw [hc, ha, g1, hlen], by omega, k1, hr⟩
theorem tree_open (T : TreeO P N) (Bs : Base P N) (hT : zrd P N N.zf N.zac N.zab N.zn) (hB : BulkF B BA) : ∀ (fuel : Nat) (cs : List Value) (x : DataW H × List MemPlace), DataW.trod enc P w 0 (fun _ => true) true fuel N.zf cs = some x → ∃ t, RepA w t cs ∧ wfT t ∧ szT t ≤ B x.1 := by
 intro fuel
 induction fuel using Nat.strongRecOn with
 | _ fuel ih =>
 intro cs x h
 obtain ⟨fs, hu, hfs⟩ := T.tree
 obtain ⟨xs, n', rfl, hx, hcl, hxl, hfi⟩ := DataW.trod_struct hu h
 rw [T.cTree] at hcl
 have hfl : fs.toList.length = 5 := by have := congrArg List.length hfs; simpa using this
 have hf : ∀ (k : Nat) (o : Nat) (t : TypeId), [(0, N.zde), (1, N.za), (2, N.zav), (3, N.zab), (4, N.zn)][k]? = some (o, t) → ∃ f, fs[k]? = some f ∧ f.offset = o ∧ f.type = t := by
  intro k o t hk
  have := congrArg (fun l => l[k]?) hfs
  simp only [List.getElem?_map, Array.getElem?_toList] at this
  rw [hk] at this
  cases hf : fs[k]? with
  | none => rw [hf] at this; simp at this
  | some f => rw [hf] at this; simp at this; exact ⟨f, rfl, this.1, this.2⟩
 have hx5 : xs.length = 5 := by rw [hxl, ← Array.length_toList, hfl]
 match cs, hcl, xs, hx5 with
 | [c0, c1, c2, c3, c4], _, [x0, x1, x2, x3, x4], _ =>
  obtain ⟨f0, e0, o0, t0⟩ := hf 0 _ _ rfl
  obtain ⟨f1, e1, o1, t1⟩ := hf 1 _ _ rfl
  obtain ⟨f2, e2, o2, t2⟩ := hf 2 _ _ rfl
  obtain ⟨f3, e3, o3, t3⟩ := hf 3 _ _ rfl
  obtain ⟨f4, e4, o4, t4⟩ := hf 4 _ _ rfl
  have h0 := hfi 0 f0 e0
  have h1 := hfi 1 f1 e1
  have h2 := hfi 2 f2 e2
  have h3 := hfi 3 f3 e3
  have h4 := hfi 4 f4 e4
  rw [o0, t0, T.c1.1] at h0
  rw [o1, t1, T.c1.2.1] at h1
  rw [o2, t2, T.c1.2.2.1] at h2
  rw [o3, t3, T.c1.2.2.2.1] at h3
  rw [o4, t4, T.c1.2.2.2.2.1] at h4
  have h0 : DataW.trod enc P w 0 (fun _ => true) true n' N.zde [c0] = some x0 := h0
  have h1 : DataW.trod enc P w 0 (fun _ => true) true n' N.za [c1] = some x1 := h1
  have h2 : DataW.trod enc P w 0 (fun _ => true) true n' N.zav [c2] = some x2 := h2
  have h3 : DataW.trod enc P w 0 (fun _ => true) true n' N.zab [c3] = some x3 := h3
  have h4 : DataW.trod enc P w 0 (fun _ => true) true n' N.zn [c4] = some x4 := h4
  obtain ⟨m, hm1, hm2, hm3⟩ := DataW.trod_int Bs.int64.und h0
  obtain ⟨s, hs1, hs2⟩ := oct_open T Bs hB h1
  obtain ⟨nl, hn1, hn2⟩ := DataW.trod_bool Bs.bool.und h2
  obtain ⟨u, hu1, hu2, hu3⟩ := tags_open T Bs hT hB h4
  have hc0 : c0 = .int .i64 m := by simpa using hm1
  have hc2 : c2 = .bool nl := by simpa using hn1
  have hb0 : 1 ≤ B x0.1 := by rw [hm2]; exact hB.lit _
  have trees : ∃ l, zhd w c3 l ∧ (∀ y ∈ l, wfT y) ∧ szTs l + 1 ≤ B x3.1 := by
   rcases DataW.trod_slice hT.lt.und h3 with ⟨hc, hx3⟩ | ⟨a, len, cap, elems, rest, n, hn', hc, hx3, hb, hl, hm, hlen, hel, hsp, _⟩
   ·injection hc with hc
    exact ⟨[], .inl ⟨none, 0, hc, rfl⟩, (fun y hy => by cases hy), by rw [hx3, hB.nil]; simp [szTs]⟩
   ·injection hc with hc
    rw [T.cTree] at hel
    obtain ⟨l, css, g1, g2, g3, g4⟩ := zmu (a := a) (sz := 5) (by decide) (fun (y : Tr) cs => RepA w y cs ∧ wfT y) szT hB elems 0 fun i hi => by
     have h1 := hel i (by omega)
     rw [List.getElem?_eq_getElem hi, Option.bind_eq_some_iff] at h1
     obtain ⟨cs, hcs, hy⟩ := h1
     obtain ⟨y, y1, y2, y3⟩ := ih n (by omega) cs _ hy
     exact ⟨cs, y, by rw [Nat.zero_add]; exact hcs, ⟨y1, y2⟩, y3⟩
    have hcs : ∀ {l : List Tr} {css : List (List Value)}, RelL (fun (y : Tr) cs => RepA w y cs ∧ wfT y) l css → zjq w l css ∧ ∀ y ∈ l, wfT y := by
     intro l css hr
     induction hr with
     | nil => exact ⟨rfl, fun y hy => by cases hy⟩
     | cons h _ ih =>
      refine ⟨⟨_, _, rfl, h.1, ih.1⟩, fun y hy => ?_⟩
      rcases List.mem_cons.1 hy with e | hy
      ·rw [e]; exact h.2
      ·exact ih.2 y hy
    obtain ⟨k1, k2⟩ := hcs g2
    have hsum : ∀ l : List Tr, (l.map szT).sum = szTs l := by
     intro l
     induction l with
     | nil => rfl
     | cons y l ih => rw [List.map_cons, List.sum_cons, szTs, ih]
    rw [hsum] at g3
    refine ⟨l, ?_, k2, by rw [hx3, hB.slice]; omega⟩
    by_cases h0 : len = 0
    ·exact .inl ⟨some a, cap, by rw [hc, h0], List.length_eq_zero_iff.1 (by omega)⟩
    ·obtain ⟨b, o, ha, hr⟩ := g4 (fun e => by rw [e] at hlen; simp at hlen; omega)
     have ha : a = ⟨b, o, none⟩ := by simpa [Addr.add] using ha
     exact .inr ⟨b, o, cap, css, by rw [hc, ha, g1, hlen], by omega, k1, hr⟩
  obtain ⟨l, hl1, hl2, hl3⟩ := trees
  have hwfs : ∀ l : List Tr, (∀ y ∈ l, wfT y) → wfTs l := by
   intro l
   induction l with
   | nil => intro _; trivial
   | cons y l ih => intro h; exact ⟨h y (by simp), ih fun z hz => h z (List.mem_cons_of_mem _ hz)⟩
  refine ⟨.mk m s nl l u, ?_, ⟨wf_i64 hm3, hu2, hwfs l hl2⟩, ?_⟩
  ·rw [hc0, hc2]
   exact RepA.mk' (t := .mk m s nl l u) hs1 hl1 hu1
  ·rw [hx, hB.agg]
   simp only [List.map_cons, List.map_nil, hB.acons, hB.anil, szT]
   omega
end
end
inductive SC where
 | mk (parts : List (Nat × Int)) (sub : Option FuncId) (fs : List SC)
def zxl (parts : List (Nat × Int)) : List Int := parts.foldl (fun l p => l.set p.1 p.2) [0, 0, 0, 0, 0, 0, 0]
def mkF (l : List Int) (sub : List Fld) : Fld := .mk (l.getD 0 0) (l.getD 1 0) (l.getD 2 0) (l.getD 3 0) (l.getD 4 0) (l.getD 5 0) (l.getD 6 0) sub
mutual
def SC.fld : SC → Fld
 | .mk parts _ fs => mkF (zxl parts) (SC.flds fs)
def SC.flds : List SC → List Fld
 | [] => []
 | s :: l => s.fld :: SC.flds l
end
def SC.parts : SC → List (Nat × Int) | .mk p _ _ => p
def SC.sub : SC → Option FuncId | .mk _ s _ => s
def SC.fs : SC → List SC | .mk _ _ l => l
theorem SC.flds_len : ∀ l : List SC, (SC.flds l).length = l.length
 | [] => rfl
 | _ :: l => by simp [SC.flds, SC.flds_len l]
section
variable (N : Nums) (M : zcr)
def partO (p : Nat × Int) : Nat × Operand := (p.1, .const (.int .i64 p.2))
def zzb : List SC → Nat → List ROp
 | [], _ => []
 | .mk parts none _ :: l, k => ⟨some k, .build M.zi (parts.map partO).toArray, 0, none, []⟩ :: zzb l (k + 1)
 | .mk parts (some f) _ :: l, k => ⟨some k, .call ⟨.value (.func f), #[], #[]⟩, M.zal, none, []⟩ :: ⟨some (k + 1), .build M.zi (parts.map partO ++ [(7, T k)]).toArray, 0, none, []⟩ :: zzb l (k + 2)
def scSl : List SC → Nat → List Nat
 | [], _ => []
 | .mk _ none _ :: l, k => k :: scSl l (k + 1)
 | .mk _ (some _) _ :: l, k => (k + 1) :: scSl l (k + 2)
def zny : List SC → Nat → Nat
 | [], k => k
 | .mk _ none _ :: l, k => zny l (k + 1)
 | .mk _ (some _) _ :: l, k => zny l (k + 2)
def zvk (l : List SC) (k : Nat) : ROp := ⟨some (zny l k), .buildSlice M.zal l.length ((scSl l k).zipIdx.map fun p => (p.2, T p.1)).toArray, 0, none, []⟩
def c_flds (l : List SC) : C := seqs [.ops [⟨some 100, .assign (.const (.slice none 0 0)), 0, none, []⟩], .ops (zzb M l 0 ++ [zvk M l 0, ⟨some 100, .assign (T (zny l 0)), 0, none, []⟩]), .ret]
def c_msg (l : List SC) (fl : Int) : C := seqs [.ops [⟨some 100, .alloc M.zas, 0, none, []⟩],
 .ops (zzb M l 0 ++ [zvk M l 0, ⟨some (zny l 0 + 1), .build M.zas #[(1, .const (.int .i64 fl)), (0, T (zny l 0))], 0, none, []⟩, ⟨none, .store M.zas (V 0) (T (zny l 0 + 1)), 0, none, []⟩]), .ret]
end
def SC.partsB (s : SC) : Bool := s.parts.all fun p => Nat.blt p.1 7
def scB (l : List SC) : Bool := l.all SC.partsB && Nat.blt (zny l 0) 90 && Nat.blt 0 l.length && Nat.blt l.length 1000
theorem zrk : ∀ (l : List SC) (k : Nat), k ≤ zny l k
 | [], k => Nat.le_refl _
 | .mk _ none _ :: l, k => Nat.le_trans (Nat.le_succ k) (zrk l (k + 1))
 | .mk _ (some _) _ :: l, k => Nat.le_trans (by omega) (zrk l (k + 2))
theorem zvl : ∀ (l : List SC) (k : Nat), (scSl l k).length = l.length
 | [], k => rfl
 | .mk _ none _ :: l, k => by simp [scSl, zvl l]
 | .mk _ (some _) _ :: l, k => by simp [scSl, zvl l]
def zjm (l : List Int) (v : Value) : List Value := l.map (fun n => Value.int .i64 n) ++ [v]
def zvs : Array (Nat × Nat) := [(0, 1), (1, 1), (2, 1), (3, 1), (4, 1), (5, 1), (6, 1), (7, 1)].toArray
theorem zuk : ∀ i, i < 8 → zvs[i]? = some (i, 1)
 | 0, _ => rfl | 1, _ => rfl | 2, _ => rfl | 3, _ => rfl | 4, _ => rfl | 5, _ => rfl | 6, _ => rfl | 7, _ => rfl
 | n + 8, h => by omega
theorem zvw (rest : List (Nat × Value)) : ∀ (parts : List (Nat × Int)) (l : List Int) (v : Value), l.length = 7 → (parts.all fun p => Nat.blt p.1 7) = true →
  Instr.fill (zvs[·]?) (zjm l v).toArray (parts.map (fun (p : Nat × Int) => (p.1, Value.int .i64 p.2)) ++ rest) = Instr.fill (zvs[·]?) (zjm (parts.foldl (fun l p => l.set p.1 p.2) l) v).toArray rest
 | [], l, v, _, _ => rfl
 | (i, n) :: parts, l, v, hl, h => by
  simp only [List.all_cons, Bool.and_eq_true] at h
  have hi : i < 7 := by simpa using h.1
  rw [List.map_cons, List.cons_append, Instr.fill, zuk i (by omega)]
  simp only
  have hc : (Value.int .i64 n).cells = #[.int .i64 n] := rfl
  rw [hc, if_neg (by simp [zjm, hl]; omega)]
  have e : (((#[Value.int .i64 n] : Array Value).zipIdx.foldl (fun cs x => cs.setIfInBounds (i + x.2) x.1) (zjm l v).toArray)) = (zjm (l.set i n) v).toArray := by
   have : (#[Value.int .i64 n] : Array Value).zipIdx = #[(Value.int .i64 n, 0)] := rfl
   rw [this]
   simp only [List.foldl_toArray', List.foldl_cons, List.foldl_nil, Nat.add_zero, zjm, List.setIfInBounds_toArray]
   congr 1
   rw [List.set_append_left _ _ (by simp [hl]; exact hi), List.map_set]
  rw [e, List.foldl_cons]
  exact zvw rest parts (l.set i n) v (by simp [hl]) h.2
theorem zrn : ∀ (parts : List (Nat × Int)) (l : List Int), (parts.foldl (fun l p => l.set p.1 p.2) l).length = l.length
 | [], l => rfl
 | p :: parts, l => by rw [List.foldl_cons, zrn]; simp
section
variable {P : Program} {N : Nums} {M : zcr}
theorem zuq {w : World} {l : List Int} (hl : l.length = 7) {v : Value} {sub : List Fld} (h : zhn w v sub) : RepF w (mkF l sub) (zjm l v) := by
 match l, hl with
 | [a, b, c, d, e, f, g], _ => exact RepF.mk' (f := mkF [a, b, c, d, e, f, g] sub) h
theorem build_num (S : SpT P N M) {w : World} {parts : List (Nat × Int)} (h : (parts.all fun p => Nat.blt p.1 7) = true) :
  (Instr.build M.zi ((parts.map fun (p : Nat × Int) => (p.1, Value.int .i64 p.2)).toArray)).run P w = .ok (.agg (zjm (zxl parts) (.slice none 0 0)).toArray) w :=
 S.fld.run_build (by
  have := zvw [] parts [0, 0, 0, 0, 0, 0, 0] (.slice none 0 0) rfl h
  rw [List.append_nil] at this
  exact this)
theorem build_sub (S : SpT P N M) {w : World} {parts : List (Nat × Int)} (h : (parts.all fun p => Nat.blt p.1 7) = true) {v : Value} (hv : v.oneCell' = true) :
  (Instr.build M.zi ((parts.map (fun (p : Nat × Int) => (p.1, Value.int .i64 p.2)) ++ [(7, v)]).toArray)).run P w = .ok (.agg (zjm (zxl parts) v).toArray) w :=
 S.fld.run_build (by
  have := zvw [(7, v)] parts [0, 0, 0, 0, 0, 0, 0] (.slice none 0 0) rfl h
  refine this.trans ?_
  have hl := zrn parts [0, 0, 0, 0, 0, 0, 0]
  show Instr.fill (zvs[·]?) (zjm (zxl parts) (.slice none 0 0)).toArray [(7, v)] = _
  have hl : (zxl parts).length = 7 := hl
  rw [Instr.fill, zuk 7 (by decide)]
  simp only
  rw [zet hv, if_neg (by simp [zjm, hl])]
  have e : (#[v] : Array Value).zipIdx = #[(v, 0)] := rfl
  rw [e]
  simp only [List.foldl_toArray', List.foldl_cons, List.foldl_nil, Nat.add_zero, zjm, List.setIfInBounds_toArray, Instr.fill]
  congr 2
  rw [List.set_append_right _ _ (by simp [hl])]
  simp [hl])
def MkOk (P : Program) (f : FuncId) (l : List Fld) : Prop := ∀ w, Call P f #[] w fun r w' => zhn w' r l ∧ Mod w w' zad
def scOk (P : Program) : List SC → Prop
 | [] => True
 | .mk parts none fs :: l => fs = [] ∧ scOk P l
 | .mk parts (some f) fs :: l => (MkOk P f (SC.flds fs) ∧ zcs P f) ∧ scOk P l
theorem step_callZ {f : FuncId} {d : Option Nat} {ty : TypeId} {af : List Nat} {ρ : Env} {w : World} {K : Env → World → Prop} (hf : zcs P f) : zcn P ⟨d, .call ⟨.value (.func f), #[], #[]⟩, ty, none, af⟩ ρ w K = Call P f #[] w fun v w' => K (put ρ d v) w' := zkg hf
theorem zos (S : SpT P N M) {K : Env → World → Prop} : ∀ (l : List SC) (k : Nat) (ρ : Env) (w w0 : World), (l.all SC.partsB) = true → scOk P l → Mod w0 w zad →
  (∀ (ρ' : Env) (w' : World) (css : List (List Value)), (∀ t, t < k ∨ 100 ≤ t → ρ' t = ρ t) → zgh w' (SC.flds l) css → (∀ (j s : Nat), (scSl l k)[j]? = some s → ∃ c : List Value, css[j]? = some c ∧ ρ' s = .agg c.toArray) → Mod w0 w' zad → K ρ' w') → zny l k < 90 →
  runR P (zzb M l k) ρ w K
 | [], k, ρ, w, w0, _, _, m, hK, _ => hK ρ w [] (fun _ _ => rfl) rfl (fun j s h => by simp [scSl] at h) m
 | .mk parts none fs :: l, k, ρ, w, w0, hp, ⟨hfs, hok⟩, m, hK, he => by
  subst hfs
  simp only [List.all_cons, Bool.and_eq_true] at hp
  have he2 := zrk l (k + 1)
  rw [zzb, runR]
  have e1 : ((parts.map partO).toArray.map fun (p : Nat × Operand) => (p.1, ev ρ p.2)) = (parts.map fun (p : Nat × Int) => (p.1, Value.int .i64 p.2)).toArray := by
   simp [partO, Function.comp_def]
  rw [zkh, e1, build_num S (parts := parts) hp.1]
  simp only [stepV_ok]
  have hrep : ∀ w', RepF w' (SC.fld (.mk parts none [])) (zjm (zxl parts) (.slice none 0 0)) := fun w' => zuq (zrn _ _) (.inl ⟨_, _, rfl, rfl⟩)
  refine zos S l (k + 1) _ w w0 hp.2 hok m (fun ρ' w' css h1 h2 h3 h4 => ?_) he
  refine hK ρ' w' (zjm (zxl parts) (.slice none 0 0) :: css) (fun t ht => ?_) ⟨_, _, rfl, hrep w', h2⟩ (fun j s hs => ?_) h4
  ·rw [h1 t (by omega), zhw]
   have : (t == k) = false := beq_eq_false_iff_ne.2 (by have : zny l (k + 1) < 90 := he; omega)
   rw [this]; rfl
  ·cases j with
   | zero =>
    simp [scSl] at hs
    subst hs
    exact ⟨_, rfl, by rw [h1 k (by omega), zhw]; simp [sel]⟩
   | succ j => exact h3 j s (by simpa [scSl] using hs)
 | .mk parts (some f) fs :: l, k, ρ, w, w0, hp, ⟨⟨hmk, hbody⟩, hok⟩, m, hK, he => by
  simp only [List.all_cons, Bool.and_eq_true] at hp
  have he2 := zrk l (k + 2)
  have he3 : zny l (k + 2) < 90 := he
  rw [zzb, runR, step_callZ hbody]
  refine (hmk w).mono ?_
  rintro r w1 ⟨hr, m1⟩
  rw [runR]
  have e1 : (((parts.map partO ++ [((7 : Nat), T k)]).toArray : Array (Nat × Operand)).map fun (p : Nat × Operand) => (p.1, ev (put ρ (some k) r) p.2)) = (parts.map (fun (p : Nat × Int) => (p.1, Value.int .i64 p.2)) ++ [(7, r)]).toArray := by
   simp [partO, Function.comp_def, zhw, sel]
  rw [zkh, e1, build_sub S (parts := parts) hp.1 hr.one]
  simp only [stepV_ok]
  have m01 := m.trans' m1
  refine zos S l (k + 2) _ w1 w1 hp.2 hok (.refl _ _) (fun ρ' w' css h1 h2 h3 h4 => ?_) he
  refine hK ρ' w' (zjm (zxl parts) r :: css) (fun t ht => ?_) ⟨_, _, rfl, zuq (zrn _ _) (hr.stay h4), h2⟩ (fun j s hs => ?_) (m01.trans' h4)
  ·rw [h1 t (by omega), zhw, zhw]
   have : (t == k + 1) = false := beq_eq_false_iff_ne.2 (by omega)
   have h2 : (t == k) = false := beq_eq_false_iff_ne.2 (by omega)
   rw [this, h2]; rfl
  ·cases j with
   | zero =>
    simp [scSl] at hs
    subst hs
    exact ⟨_, rfl, by rw [h1 (k + 1) (by omega), zhw]; simp [sel]⟩
   | succ j => exact h3 j s (by simpa [scSl] using hs)
end
theorem zxq (off : Nat) : ∀ (l : List Value) (k : Nat) (arr : Array Value), (l.zipIdx k).foldl (fun cs (x : Value × Nat) => cs.setIfInBounds (off + x.2) x.1) arr = (l.zipIdx (off + k)).foldl (fun cs (x : Value × Nat) => cs.setIfInBounds x.2 x.1) arr
 | [], k, arr => rfl
 | v :: l, k, arr => by
  rw [List.zipIdx_cons, List.zipIdx_cons, List.foldl_cons, List.foldl_cons, zxq off l (k + 1), Nat.add_assoc]
theorem zxr (sz : Nat) : ∀ (css : List (List Value)) (k : Nat) (arr : Array Value), (∀ c ∈ css, c.length = sz) → (k + css.length) * sz ≤ arr.size →
  ∃ out, Instr.fill (fun i => some (i * sz, sz)) arr ((css.zipIdx k).map fun p => (p.2, Value.agg p.1.toArray)) = some out ∧ out.toList = arr.toList.take (k * sz) ++ css.flatten ++ arr.toList.drop ((k + css.length) * sz)
 | [], k, arr, _, h => ⟨arr, rfl, by simp⟩
 | c :: css, k, arr, hc, h => by
  have hcl := hc c (by simp)
  have h1 : (k + 1) * sz + css.length * sz ≤ arr.size := by
   rw [← Nat.add_mul]; simp only [List.length_cons] at h; rwa [show k + 1 + css.length = k + (css.length + 1) by omega]
  have h2 : (k + 1) * sz = k * sz + sz := by rw [Nat.add_mul, Nat.one_mul]
  rw [List.zipIdx_cons, List.map_cons, Instr.fill]
  simp only
  have hcells : (Value.agg c.toArray).cells = c.toArray := rfl
  rw [hcells, if_neg (by simp [hcl]; omega)]
  have e : c.toArray.zipIdx = (c.zipIdx 0).toArray := by simp
  obtain ⟨arr1, harr1⟩ : ∃ arr1, arr1 = c.toArray.zipIdx.foldl (fun cs (x : Value × Nat) => cs.setIfInBounds (k * sz + x.2) x.1) arr := ⟨_, rfl⟩
  have hl1 : arr1.toList = arr.toList.take (k * sz) ++ c ++ arr.toList.drop (k * sz + c.length) := by
   rw [harr1, e, List.foldl_toArray, zxq, Nat.add_zero]
   exact zpx c (k * sz) arr (by rw [hcl]; omega)
  have hs1 : arr1.size = arr.size := by
   have := congrArg List.length hl1
   simp only [Array.length_toList, List.length_append, List.length_take, List.length_drop] at this
   omega
  obtain ⟨out, g1, g2⟩ := zxr sz css (k + 1) arr1 (fun x hx => hc x (List.mem_cons_of_mem _ hx)) (by rw [hs1, Nat.add_mul]; exact h1)
  refine ⟨out, ?_, ?_⟩
  ·rw [← harr1]; exact g1
  ·rw [g2, hl1, List.flatten_cons]
   have t1 : (arr.toList.take (k * sz) ++ c ++ arr.toList.drop (k * sz + c.length)).take ((k + 1) * sz) = arr.toList.take (k * sz) ++ c := by
    rw [List.take_append_of_le_length (by simp [hcl]; omega), List.take_of_length_le (by simp [hcl]; omega)]
   have t2 : (arr.toList.take (k * sz) ++ c ++ arr.toList.drop (k * sz + c.length)).drop ((k + 1 + css.length) * sz) = arr.toList.drop ((k + (c :: css).length) * sz) := by
    have hm : (k + 1 + css.length) * sz = k * sz + sz + css.length * sz := by rw [Nat.add_mul, Nat.add_mul, Nat.one_mul]
    have hm2 : (k + (c :: css).length) * sz = k * sz + sz + css.length * sz := by rw [← hm, List.length_cons]; congr 1; omega
    have hle : (arr.toList.take (k * sz) ++ c).length = k * sz + sz := by simp [hcl]; omega
    rw [List.drop_append, hle, List.drop_of_length_le (by rw [hle]; omega), List.nil_append, List.drop_drop, hm, hm2, hcl]
    congr 1; omega
   rw [t1, t2]
   simp
theorem zuo {w w' : World} {k b o : Nat} {fs : List Fld} {css : List (List Value)} (hm : Mod w w' (blk k)) (hk : ∀ i, 7 ≤ i → w.cell? ⟨k, i, none⟩ = none) (hr : zgh w fs css) (h : w.rangeAt b o css.flatten) : w'.rangeAt b o css.flatten := by
 cases fs with
 | nil => simp only [zgh] at hr; subst hr; intro j v hj; simp at hj
 | cons f fs =>
  obtain ⟨c, r, rfl, hc, hr⟩ := hr
  have h8 := hc.len
  match c, h8 with
  | [x0, x1, x2, x3, x4, x5, x6, x7], _ =>
   have h7 := h 7 x7 (by simp)
   have hne : b ≠ k := fun e => by
    subst e
    rw [hk (o + 7) (by omega)] at h7; cases h7
   have hb : b < w.heap.size := zfj (by rw [h7]; rfl)
   exact hm.rangeAt hb (fun i _ _ e => hne e) h
mutual
theorem RepF.but {w w' : World} {k : Nat} (hm : Mod w w' (blk k)) (hk : ∀ i, 7 ≤ i → w.cell? ⟨k, i, none⟩ = none) : ∀ (t : Fld) {cs : List Value}, RepF w t cs → RepF w' t cs
 | .mk _ _ _ _ _ _ _ sub, _, ⟨v, h1, h3⟩ => ⟨v, h1, h3.imp id fun ⟨b, o, c, css, g1, g2, g3, g4⟩ => ⟨b, o, c, css, g1, g2, zgh.but hm hk sub g3, zuo hm hk g3 g4⟩⟩
theorem zgh.but {w w' : World} {k : Nat} (hm : Mod w w' (blk k)) (hk : ∀ i, 7 ≤ i → w.cell? ⟨k, i, none⟩ = none) : ∀ (l : List Fld) {css : List (List Value)}, zgh w l css → zgh w' l css
 | [], _, hr => hr
 | t :: l, _, ⟨c, r, h1, h2, h3⟩ => ⟨c, r, h1, RepF.but hm hk t h2, zgh.but hm hk l h3⟩
end
theorem zhn.but {w w' : World} {k : Nat} (hm : Mod w w' (blk k)) (hk : ∀ i, 7 ≤ i → w.cell? ⟨k, i, none⟩ = none) {v : Value} {fs : List Fld} (hs : zhn w v fs) : zhn w' v fs :=
 hs.imp id fun ⟨b, o, c, css, h1, h2, h3, h4⟩ => ⟨b, o, c, css, h1, h2, zgh.but hm hk fs h3, zuo hm hk h3 h4⟩
section
variable {P : Program} {N : Nums} {M : zcr}
theorem run_bsFs (S : SpT P N M) {w : World} {l : List Fld} {css : List (List Value)} (h : zgh w l css) (h0 : 0 < l.length) (h1 : l.length < 1000) :
  ∃ w1, (Instr.buildSlice M.zal l.length ((css.zipIdx 0).map fun p => (p.2, Value.agg p.1.toArray)).toArray).run P w = .ok (.slice (some ⟨w.heap.size, 0, none⟩) l.length l.length) w1 ∧ Mod w w1 zad ∧ zhn w1 (.slice (some ⟨w.heap.size, 0, none⟩) l.length l.length) l := by
 obtain ⟨fs', hti⟩ := S.fld.out
 obtain ⟨i, hi, hsz, _, hz⟩ := hti.1.info
 have hsz : i.size = 8 := hsz
 have hlen : css.length = l.length := by
  have : ∀ (l : List Fld) (css : List (List Value)), zgh w l css → css.length = l.length := by
   intro l
   induction l with
   | nil => intro css h; simp only [zgh] at h; subst h; rfl
   | cons f l ih => rintro _ ⟨c, r, rfl, _, hr⟩; simp [ih r hr]
  exact this l css h
 have h8 := h.len8
 have hlz : ((Array.range (l.length * 8)).map ((Value.agg ([Value.int .i64 0, .int .i64 0, .int .i64 0, .int .i64 0, .int .i64 0, .int .i64 0, .int .i64 0, .slice none 0 0] : List Value).toArray).cells[· % (Value.agg ([Value.int .i64 0, .int .i64 0, .int .i64 0, .int .i64 0, .int .i64 0, .int .i64 0, .int .i64 0, .slice none 0 0] : List Value).toArray).cells.size]!)).size = l.length * 8 := by simp
 obtain ⟨out, g1, g2⟩ := zxr 8 css 0 _ h8 (by rw [hlz, Nat.zero_add, hlen]; exact Nat.le_refl _)
 have hr := run_buildSlice (P := P) w M.zal M.zi l.length ((css.zipIdx 0).map fun p => (p.2, Value.agg p.1.toArray)).toArray out i _ S.lf.und hi hz (by rw [hsz]; omega) (by rw [hsz]; omega) (by rw [hsz]; exact g1)
 have hout : out = css.flatten.toArray := by
  apply Array.ext'
  rw [g2]
  rw [Nat.zero_mul, List.take_zero, List.nil_append, Nat.zero_add, hlen, List.drop_of_length_le (by rw [Array.length_toList, hlz]; exact Nat.le_refl _)]
  simp
 rw [hout] at hr
 have m : Mod w (w.alloc (.cells css.flatten.toArray M.zi)) zad := Mod.alloc _ _ _
 refine ⟨_, hr, m, .inr ⟨w.heap.size, 0, l.length, css, rfl, Nat.le_refl _, zgh.stay m _ h, ?_⟩⟩
 have := zz w css.flatten.toArray M.zi (0, 0)
 simpa using this
theorem zsd (S : SpT P N M) {l : List SC} {k : Nat} {ρ : Env} {w : World} {css : List (List Value)} {K : Env → World → Prop} (hr : zgh w (SC.flds l) css) (hs : ∀ (j s : Nat), (scSl l k)[j]? = some s → ∃ c : List Value, css[j]? = some c ∧ ρ s = .agg c.toArray) (h0 : 0 < l.length) (h1 : l.length < 1000)
  (hK : ∀ (r : Value) (w1 : World), Mod w w1 zad → zhn w1 r (SC.flds l) → K (put ρ (some (zny l k)) r) w1) : zcn P (zvk M l k) ρ w K := by
 unfold zvk
 have hfl := SC.flds_len l
 obtain ⟨w1, hb, m1, hf1⟩ := run_bsFs S hr (by omega) (by omega)
 have hcl : css.length = l.length := by
  have : ∀ (l : List Fld) (css : List (List Value)), zgh w l css → css.length = l.length := by
   intro l
   induction l with
   | nil => intro css h; simp only [zgh] at h; subst h; rfl
   | cons f l ih => rintro _ ⟨c, r, rfl, _, hr⟩; simp [ih r hr]
  rw [this _ _ hr, hfl]
 have e : (((scSl l k).zipIdx.map fun p => (p.2, T p.1)).toArray.map fun (p : Nat × Operand) => (p.1, ev ρ p.2)) = ((css.zipIdx 0).map fun p => (p.2, Value.agg p.1.toArray)).toArray := by
  rw [List.map_toArray, List.map_map]
  congr 1
  apply List.ext_getElem?
  intro j
  rw [List.getElem?_map, List.getElem?_map, List.getElem?_zipIdx, List.getElem?_zipIdx]
  cases hj : (scSl l k)[j]? with
  | none =>
   have : css[j]? = none := by
    rw [List.getElem?_eq_none_iff] at hj ⊢
    rw [zvl] at hj; omega
   rw [this]; rfl
  | some s =>
   obtain ⟨c, hc, hv⟩ := hs j s hj
   rw [hc]
   simp [hv]
 rw [hfl] at hb
 rw [zjb, e, hb]
 simp only [stepV_ok]
 rw [hfl] at hf1
 exact hK _ _ m1 hf1
theorem zvm {l : List SC} (h : scB l = true) : (l.all SC.partsB) = true ∧ zny l 0 < 90 ∧ 0 < l.length ∧ l.length < 1000 := by
 unfold scB at h
 simp only [Bool.and_eq_true] at h
 obtain ⟨⟨⟨h1, h2⟩, h3⟩, h4⟩ := h
 exact ⟨h1, by simpa using h2, by simpa using h3, by simpa using h4⟩
theorem mk_flds (S : SpT P N M) {l : List SC} (hB : scB l = true) (hok : scOk P l) {f : FuncId} (hf : FOk P f 0 (c_flds M l) [.var 0]) : MkOk P f (SC.flds l) := by
 intro w
 obtain ⟨b1, b2, b3, b4⟩ := zvm hB
 refine hf.call rfl fun loc N' hlo => ?_
 unfold c_flds seqs seqs seqs
 refine zd fun K hK => zak (hK _ _ ?_)
 clear hK K
 refine zd fun K hK => zj fun τ => zoc _ _ _ _ (zos S l 0 _ w w b1 hok (.refl _ _) (fun ρ w1 css h1 h2 h3 m1 => ?_) b2)
 rw [runR]
 refine zsd S h2 h3 b3 b4 fun r w2 m2 hr => ?_
 simp +decide only [runR, znw, ev_tmp, zhw, sel_true, BEq.rfl]
 refine hK _ _ (zc fun σ' hσ => zay ⟨.inr rfl, _, rfl, ?_⟩)
 have q := hσ 0
 simp +decide only [bE, BEq.rfl, Nat.zero_add] at q
 rw [q]
 exact ⟨hr, m1.trans' m2⟩
theorem mk_msg (S : SpT P N M) {l : List SC} {fl : Int} (hB : scB l = true) (hok : scOk P l) {f : FuncId} (hf : FOk P f 0 (c_msg M l fl) [.cell 0 M.zas]) (w : World) :
  Call P f #[] w fun r w' => ∃ fv, r = .agg [fv, .int .i64 fl].toArray ∧ zhn w' fv (SC.flds l) ∧ Mod w w' zad := by
 obtain ⟨b1, b2, b3, b4⟩ := zvm hB
 refine hf.call rfl fun loc N' hlo => ?_
 unfold c_msg seqs seqs seqs
 obtain ⟨fs', hti, _⟩ := S.msg.out
 obtain ⟨w0, hw0⟩ : ∃ w0, w0 = w.alloc (.cells (Value.cells (.agg ([.slice none 0 0, .int .i64 0] : List Value).toArray)) M.zas) := ⟨_, rfl⟩
 have hal := fun old => hti.run_alloc (P := P) (w := w) old
 rw [← hw0] at hal
 have m0 : Mod w w0 zad := by rw [hw0]; exact Mod.alloc _ _ _
 have s0 : w0.heap.size = w.heap.size + 1 := by rw [hw0]; exact zau _ _
 have t0 : w0.there w.heap.size 0 2 := by rw [hw0]; exact zbz w _ M.zas
 have r0 : w0.rangeAt w.heap.size 0 [.slice none 0 0, .int .i64 0] := by rw [hw0]; exact zz w _ _ _
 have c0 : ∀ i, 2 ≤ i → w0.cell? ⟨w.heap.size, i, none⟩ = none := by
  intro i hi
  rw [hw0]
  simp only [World.cell?, zmq]
  have : (Value.cells (.agg ([.slice none 0 0, .int .i64 0] : List Value).toArray)).size = 2 := rfl
  simp [this]; omega
 clear hw0
 refine zd fun K hK => zj fun τ => ?_
 simp +decide only [runR, zpo, hal, stepV_ok]
 refine hK _ _ (zc fun σ1 hσ => ?_)
 have a0 := hσ 0
 simp +decide only [bE, BEq.rfl, Nat.zero_add] at a0
 clear hσ hK K
 refine zd fun K hK => zj fun τ => zoc _ _ _ _ (zos S l 0 _ w0 w0 b1 hok (.refl _ _) (fun ρ w1 css h1 h2 h3 m1 => ?_) b2)
 rw [runR]
 refine zsd S h2 h3 b3 b4 fun r w2 m2 hr => ?_
 have hv0 : ρ 100 = .pointer (some ⟨w.heap.size, 0, none⟩) := by
  rw [h1 100 (.inr (Nat.le_refl _)), zmc]; simp +decide only [bE, decide_false, Nat.reduceSub, a0]
 obtain ⟨n, hn⟩ : ∃ n, n = zny l 0 := ⟨_, rfl⟩
 rw [← hn] at b2 ⊢
 have hbuild : (Instr.build M.zas #[(1, .int .i64 fl), (0, r)]).run P w2 = .ok (.agg [r, .int .i64 fl].toArray) w2 := S.msg.run_build (by simp [Instr.fill, zet hr.one, zet (show (Value.int .i64 fl).oneCell' = true from rfl)])
 have m02 := m1.trans' m2
 have hst := hti.run_store (w := w2) (b := w.heap.size) (o := 0) (v := .agg [r, .int .i64 fl].toArray) (cs := [r, .int .i64 fl]) rfl rfl (m02.there (by omega) t0) (by
  intro c hc; simp at hc; rcases hc with rfl | rfl
  ·exact hr.one
  ·rfl)
 obtain ⟨w3, hw3⟩ : ∃ w3, w3 = w2.setCells w.heap.size 0 [r, .int .i64 fl] := ⟨_, rfl⟩
 have m3 : Mod w2 w3 (blk w.heap.size) := by rw [hw3]; exact Mod.setCells _ _ _ fun _ _ _ _ => rfl
 have r3 : w3.rangeAt w.heap.size 0 [r, .int .i64 fl] := by
  rw [hw3]
  exact zaw [r, .int .i64 fl] 0 w2 _ (zam m02 r0) (Nat.le_refl _)
 rw [← hw3] at hst
 clear hw3
 have e1 : (n == n + 1) = false := beq_eq_false_iff_ne.2 (by omega)
 have e2 : (100 == n + 1) = false := beq_eq_false_iff_ne.2 (by omega)
 have e3 : (100 == n) = false := beq_eq_false_iff_ne.2 (by omega)
 have ep : (#[(1, Operand.const (.int .i64 fl)), (0, T n)].map fun (p : Nat × Operand) => (p.1, ev (put ρ (some n) r) p.2)) = #[(1, .int .i64 fl), (0, r)] := by simp [zhw, sel]
 simp +decide only [runR, zkh, ep, hbuild, stepV_ok, zpn, ev_tmp, zhw, sel_true, sel_false, BEq.rfl, e2, e3, hv0, hst, stepU_ok]
 have m03 : Mod w w3 zad := (m0.trans' m02).fresh m3 fun k o h => by have : k = w.heap.size := h; omega
 refine hK _ _ (zc fun σ' hσ => zay ⟨.inr rfl, .agg [r, .int .i64 fl].toArray, ?_, r, rfl, ?_, m03⟩)
 ·have q := hσ 0
  rw [show (0 + 100 : Nat) = 100 from rfl] at q
  simp +decide only [zhw, e2, e3, sel_false, hv0] at q
  refine ⟨_, q, ?_⟩
  have := hti.run_load (w := w3) (b := w.heap.size) (o := 0) r3 rfl (fun h => by cases h)
  have e : (Instr.loadAt M.zas (.pointer (some ⟨w.heap.size, 0, none⟩))).run P w3 = (loadVar M.zas ⟨w.heap.size, 0, none⟩).run P w3 := by simp [Instr.loadAt, Instr.sureAddr]
  rw [← e, this]; rfl
 ·refine hr.but m3 fun i hi => ?_
  have h1 := m02.isCell w.heap.size i (by omega)
  have h2 : w0.cell? ⟨w.heap.size, i, none⟩ = none := c0 i (by omega)
  rw [h2] at h1
  cases hc : w2.cell? ⟨w.heap.size, i, none⟩ with
  | none => rfl
  | some x => rw [hc] at h1; cases h1
end
section
variable {P : Program} {N : Nums} {M : zcr}
theorem OctA.argOct {w : World} {v : Value} {s : List UInt8} (h : OctA w v s) : zgb w v s := by
 rcases h with ⟨ad, c, e, h⟩ | ⟨b, o, c, e, h1, h2⟩
 ·exact .inl ⟨ad, c, e, h⟩
 ·cases s with
  | nil => exact .inl ⟨_, c, e, rfl⟩
  | cons x s =>
   have h0 := h2 0 (zy x) rfl
   refine .inr ⟨_, c, e, h1, zfj (by rw [h0]; rfl), fun j y hj => ?_⟩
   rw [Addr.add_mid]
   exact h2 j (zy y) (by rw [List.getElem?_map, hj]; rfl)
def verB (m : Msg) (fx : Bool) (sf : List Fld) (fl : Int) (k : Nat) : Bool :=
 (List.range (k + 1)).all fun v => m.fs.matB (fx && decide ((v : Int) ≥ m.fl)) v sf && (fx && decide ((v : Int) ≥ m.fl) || (sf.any fun f => f.has v) || m.fs.offB (fx && decide ((v : Int) ≥ m.fl)) v) && (zoz fl v == (fx && decide ((v : Int) ≥ m.fl)))
theorem verB_at {m : Msg} {fx : Bool} {sf : List Fld} {fl : Int} {k : Nat} (h : verB m fx sf fl k = true) {v : Nat} (hv : v ≤ k) : m.fs.matB (fx && decide ((v : Int) ≥ m.fl)) v sf = true ∧ (((fx && decide ((v : Int) ≥ m.fl)) = true ∨ (sf.any fun f => f.has v) = true) ∨ m.fs.offB (fx && decide ((v : Int) ≥ m.fl)) v = true) ∧ zoz fl v = (fx && decide ((v : Int) ≥ m.fl)) := by
 unfold verB at h
 rw [List.all_eq_true] at h
 have := h v (List.mem_range.2 (by omega))
 simp only [Bool.and_eq_true, Bool.or_eq_true, beq_iff_eq] at this
 obtain ⟨⟨h1, h2⟩, h3⟩ := this
 exact ⟨h1, by simpa using h2, h3⟩
theorem fits_of {t : Tr} (h : szT t ≤ 1048576) : fitsT t := by
 have h1 := zty t
 have hl : ∀ l : List Tr, l.length ≤ szTs l := by
  intro l
  induction l with
  | nil => simp
  | cons x l ih => have := zyx x; simp only [szTs, List.length_cons]; omega
 have hu : ∀ u : List (Nat × List UInt8), u.length ≤ szU u ∧ ∀ x ∈ u, x.2.length ≤ szU u := by
  intro u
  induction u with
  | nil => exact ⟨by simp, fun x hx => by cases hx⟩
  | cons x u ih =>
   have e : szU (x :: u) = 1 + x.2.length + szU u := by simp [szU]
   refine ⟨by rw [e, List.length_cons]; omega, fun y hy => ?_⟩
   rcases List.mem_cons.1 hy with hy | hy
   ·rw [hy, e]; omega
   ·have := ih.2 y hy; rw [e]; omega
 have h2 := hl t.l
 have h3 := hu t.u
 exact ⟨by omega, by omega, by omega, fun x hx => by have := h3.2 x hx; omega⟩
end
section
open Go Go.RowKit Go.ChangeShapes Go.WideShapes
theorem treeArg_of {P : Program} {N : Nums} {H : Type} {enc : TypeId × Value → H} {B : DataW H → Nat} {BA : List (DataW H) → Nat} {W : World} {v : Value} {d : DataW H} {p : List MemPlace} {base : Nat} (T : TreeO P N) (Bs : Base P N) (hT : zrd P N N.zf N.zac N.zab N.zn) (hB : BulkF B BA)
  (hok : Value.okWide P W .any base N.zf v) (h : DataW.Trod enc P W 0 (fun _ => true) true N.zf v d p) : ∃ t ct, v = .agg ct.toArray ∧ RepA W t ct ∧ wfT t ∧ szT t ≤ B d := by
 obtain ⟨fs, hu, _⟩ := T.tree
 unfold Value.okWide at hok
 rw [hu] at hok
 obtain ⟨cs, rfl, _⟩ := hok
 obtain ⟨fuel, hf⟩ := h
 obtain ⟨t, h1, h2, h3⟩ := tree_open T Bs hT hB fuel cs.toList (d, p) hf
 exact ⟨t, cs.toList, by simp, h1, h2, h3⟩
end
section
variable {P : Program} {N : Nums}
end
section
variable (N : Nums)
end
section
variable {P : Program} {N : Nums}
end
section
variable {P : Program} {N : Nums} {M : zcr}
end
section
variable {P : Program} {N : Nums} {M : zcr}
end
def PK.wr : PK → Value → List UInt8
 | .bool, .bool b => [if b then 1 else 0]
 | .i8, .int _ n => fixB n 1
 | .i16, .int _ n => fixB n 2
 | .u16, .int _ n => fixB n 2
 | .i32, .int _ n => fixB n 4
 | .i64, .int _ n => fixB n 8
 | .uuid, v => zgm v
 | _, _ => []
def Txt.wr (fl : Bool) : Txt → Val → List UInt8
 | .str, .num v => zr fl false (zgm v).length 2 ++ zgm v
 | .nstr, .nstr none => zr fl true 0 2
 | .nstr, .nstr (some l) => zr fl false l.length 2 ++ l
 | .byt, .oct o => zr fl false (o.getD []).length 4 ++ o.getD []
 | .nbyt, .oct none => zr fl true 0 4
 | .nbyt, .oct (some l) => zr fl false l.length 4 ++ l
 | _, _ => []
def tagW (x : Nat × List UInt8) : List UInt8 := uvB x.1 ++ (uvB x.2.length ++ x.2)
def zwt (l : List (Nat × List UInt8)) : List UInt8 := uvB l.length ++ (zdi l).flatMap tagW
section
variable (ver : Int) (fl : Bool)
def nulAt : Option Int → Bool
 | none => false
 | some k => decide (k ≤ ver)
mutual
def Ty.wr : Ty → Val → List UInt8
 | .pr k _, .num v => k.wr v
 | .txt k, v => k.wr fl v
 | .arr _ nul _, .nilA => zr fl (nulAt ver nul) 0 4
 | .arr _ _ e, .arr _ l => zr fl false l.length 4 ++ l.flatMap e.wr
 | .row _ _ _ fs, .row l => fs.wr l
 | _, _ => []
def El.wr : El → Val → List UInt8
 | .pr k, .num v => k.wr v
 | .txt k, v => k.wr fl v
 | .row _ _ _ fs, .row l => fs.wr l
 | _, _ => []
def Fds.wr : Fds → List Val → List UInt8
 | .tags, [.tags l] => if fl then zwt l else []
 | .cons g ty r, v :: l => (if g.on ver then ty.wr v else []) ++ r.wr l
 | _, _ => []
end
end
theorem be_lt : ∀ l : List UInt8, be l < 256 ^ l.length
 | [] => by simp [be]
 | x :: l => by
  rw [zwe, List.length_cons, Nat.pow_succ]
  have h1 := be_lt l
  have h2 : x.toNat < 256 := x.toNat_lt
  have : x.toNat * 256 ^ l.length ≤ 255 * 256 ^ l.length := Nat.mul_le_mul_right _ (by omega)
  omega
theorem be_inj : ∀ {l l' : List UInt8}, l.length = l'.length → be l = be l' → l = l'
 | [], [], _, _ => rfl
 | [], _ :: _, h, _ => by simp at h
 | _ :: _, [], h, _ => by simp at h
 | x :: l, y :: l', h, e => by
  have hl : l.length = l'.length := by simpa using h
  rw [zwe, zwe, ← hl] at e
  have h1 := be_lt l
  have h2 := be_lt l'
  rw [← hl] at h2
  obtain ⟨p, hp⟩ : ∃ p, p = 256 ^ l.length := ⟨_, rfl⟩
  rw [← hp] at e h1 h2
  have ex : x.toNat = y.toNat := by
   have d1 : (x.toNat * p + be l) / p = x.toNat := by
    rw [Nat.mul_comm, Nat.mul_add_div (by omega), Nat.div_eq_of_lt h1]; omega
   have d2 : (y.toNat * p + be l') / p = y.toNat := by
    rw [Nat.mul_comm, Nat.mul_add_div (by omega), Nat.div_eq_of_lt h2]; omega
   rw [← d1, e, d2]
  rw [ex] at e
  rw [UInt8.toNat_inj.1 ex, be_inj hl (by omega)]
theorem zpw {a b : Int} {k : Nat} (h : a % (256 ^ k : Nat) = b % (256 ^ k : Nat)) : fixB a k = fixB b k := by
 refine be_inj (by rw [zcb, zcb]) ?_
 have h1 := zii a k
 have h2 := zii b k
 rw [h] at h1
 have : (be (fixB a k) : Int) = be (fixB b k) := h1.trans h2.symm
 exact Int.ofNat_inj.1 this
theorem zpa {K : IntKind} {k : Nat} (hk : K.bits = 8 * k) (n : Int) : fixB (K.wrap (be (fixB n k))) k = fixB n k := by
 refine zpw ?_
 rw [zii]
 have hp : (2 : Int) ^ K.bits = ((256 ^ k : Nat) : Int) := by
  rw [hk, show (256 : Nat) = 2 ^ 8 from rfl, ← Nat.pow_mul, Int.natCast_pow]; rfl
 rw [← hp, zkx]
 have hm : ∀ m : Int, K.wrap m % 2 ^ K.bits = m % 2 ^ K.bits := by
  intro m
  unfold IntKind.wrap
  simp only
  split
  ·rw [Int.sub_emod, Int.emod_self, Int.sub_zero, Int.emod_emod_of_dvd _ (Int.dvd_refl _), Int.emod_emod_of_dvd _ (Int.dvd_refl _)]
  ·rw [Int.emod_emod_of_dvd _ (Int.dvd_refl _)]
 exact hm n
theorem pr_wr {k : PK} {kind : Int} (h : zgw k kind = true) (fl : Bool) (pt : Tr → List UInt8) (null : Bool) {t : Tr} {r r' : List UInt8} {v : Value} (hr : k.rd (rs (valB fl kind pt null t ++ r)) = (v, rs r')) : k.wr v = valB fl kind pt null t := by
 cases k with
 | bool =>
  have h : kind = 0 := by simpa [zgw] using h
  subst h
  have e : valB fl 0 pt null t = [UInt8.ofNat (t.n % 2).toNat] := by simp [valB]
  rw [e] at hr ⊢
  have hr : zea 1 (fun l => Value.bool (be l != 0)) (.bool false) (rs ([UInt8.ofNat (t.n % 2).toNat] ++ r)) = (v, rs r') := hr
  rw [zgi (c := 1) rfl] at hr
  injection hr with hr _
  subst hr
  have hm : t.n % 2 = 0 ∨ t.n % 2 = 1 := by omega
  rcases hm with hm | hm <;> rw [hm] <;> rfl
 | i8 =>
  have h : kind = 1 := by simpa [zgw] using h
  subst h
  have e : valB fl 1 pt null t = fixB t.n 1 := by simp [valB, zfl]
  rw [e] at hr ⊢
  have hr : zea 1 (fun l => Value.int .i8 (IntKind.i8.wrap (be l))) (.int .i8 0) (rs (fixB t.n 1 ++ r)) = (v, rs r') := hr
  rw [zgi (zcb t.n 1)] at hr
  injection hr with hr _
  subst hr
  exact zpa rfl _
 | i16 =>
  have h : kind = 2 := by simpa [zgw] using h
  subst h
  have e : valB fl 2 pt null t = fixB t.n 2 := by simp [valB, zfl]
  rw [e] at hr ⊢
  have hr : zea 2 (fun l => Value.int .i16 (IntKind.i16.wrap (be l))) (.int .i16 0) (rs (fixB t.n 2 ++ r)) = (v, rs r') := hr
  rw [zgi (zcb t.n 2)] at hr
  injection hr with hr _
  subst hr
  exact zpa rfl _
 | u16 =>
  have h : kind = 5 := by simpa [zgw] using h
  subst h
  have e : valB fl 5 pt null t = fixB t.n 2 := by simp [valB, zfl]
  rw [e] at hr ⊢
  have hr : zea 2 (fun l => Value.int .u16 (be l)) (.int .u16 0) (rs (fixB t.n 2 ++ r)) = (v, rs r') := hr
  rw [zgi (zcb t.n 2)] at hr
  injection hr with hr _
  subst hr
  show fixB (be (fixB t.n 2)) 2 = _
  refine zpw ?_
  rw [zii, Int.emod_emod_of_dvd _ (Int.dvd_refl _)]
 | i32 =>
  have h : kind = 3 := by simpa [zgw] using h
  subst h
  have e : valB fl 3 pt null t = fixB t.n 4 := by simp [valB, zfl]
  rw [e] at hr ⊢
  have hr : zea 4 (fun l => Value.int .i32 (IntKind.i32.wrap (be l))) (.int .i32 0) (rs (fixB t.n 4 ++ r)) = (v, rs r') := hr
  rw [zgi (zcb t.n 4)] at hr
  injection hr with hr _
  subst hr
  exact zpa rfl _
 | i64 =>
  have h : kind = 4 := by simpa [zgw] using h
  subst h
  have e : valB fl 4 pt null t = fixB t.n 8 := by simp [valB, zfl]
  rw [e] at hr ⊢
  have hr : zea 8 (fun l => Value.int .i64 (IntKind.i64.wrap (be l))) (.int .i64 0) (rs (fixB t.n 8 ++ r)) = (v, rs r') := hr
  rw [zgi (zcb t.n 8)] at hr
  injection hr with hr _
  subst hr
  exact zpa rfl _
 | uuid =>
  have h : kind = 7 := by simpa [zgw] using h
  subst h
  have e : valB fl 7 pt null t = idB t.s := by simp [valB, idB]
  have hl := zzo t.s
  have h1 : zed 16 (rs (idB t.s ++ r)) = idB t.s := by have := zms (idB t.s) r; rwa [hl] at this
  rw [e] at hr ⊢
  have hr : (zuz (zed 16 (rs (idB t.s ++ r))), ziq 16 (rs (idB t.s ++ r))) = (v, rs r') := hr
  rw [h1] at hr
  injection hr with hr _
  subst hr
  show zgm (zuz (idB t.s)) = idB t.s
  unfold zuz zgm
  rw [hl, Nat.sub_self, List.replicate_zero, List.append_nil, List.take_of_length_le (by omega)]
  exact zrm _
theorem zov (l : List UInt8) : zgm (strV l) = l := by simp [zgm, strV]
theorem zwp (k : Txt) (fl null : Bool) (hn : k = .str ∨ k = .byt → null = false) (pt : Tr → List UInt8) (t : Tr) (r r' : List UInt8) (kind : Int) (hk : kind = k.kind) (v : Val) (hr : k.rd fl (rs (valB fl kind pt null t ++ r)) = (v, rs r')) : k.wr fl v = valB fl kind pt null t := by
 obtain ⟨v', h1, h2, h3, _, _⟩ := txt_rs k fl null hn pt t r kind hk
 rw [h1] at hr
 injection hr with hr _
 subst hr
 have hw := zhh t.s
 cases k with
 | str =>
  have hk : kind = 8 := hk
  subst hk
  have hn := hn (.inl rfl)
  subst hn
  rw [zrf]
  have e : ∃ x, v' = .num (strV x) := ⟨_, (congrArg Prod.fst h1).symm⟩
  obtain ⟨x, rfl⟩ := e
  have h3 : zgm (strV x) = zbk t.s := h3 rfl
  simp only [Txt.wr, h3, Bool.false_eq_true, if_false]
 | nstr =>
  have hk : kind = 8 := hk
  subst hk
  rw [zrf]
  have e : ∃ x, v' = .nstr x := ⟨_, (congrArg Prod.fst h1).symm⟩
  obtain ⟨x, rfl⟩ := e
  have h2 : x.isNone = null := h2
  cases x with
  | none =>
   have h2 : true = null := h2
   subst h2
   simp only [Txt.wr, if_true, List.length_nil, List.append_nil]
  | some x =>
   have h2 : false = null := h2
   subst h2
   have h3 : x = zbk t.s := h3 rfl
   subst h3
   simp only [Txt.wr, Bool.false_eq_true, if_false]
 | byt =>
  have hk : kind = 9 := hk
  subst hk
  have hn := hn (.inr rfl)
  subst hn
  rw [zrg]
  have e : ∃ x, v' = .oct x := ⟨_, (congrArg Prod.fst h1).symm⟩
  obtain ⟨x, rfl⟩ := e
  have h3 : x.getD [] = zbk t.s := h3 rfl
  simp only [Txt.wr, h3, Bool.false_eq_true, if_false]
 | nbyt =>
  have hk : kind = 9 := hk
  subst hk
  rw [zrg]
  have e : ∃ x, v' = .oct x := ⟨_, (congrArg Prod.fst h1).symm⟩
  obtain ⟨x, rfl⟩ := e
  have h2 : x.isNone = null := h2
  cases x with
  | none =>
   have h2 : true = null := h2
   subst h2
   simp only [Txt.wr, if_true, List.length_nil, List.append_nil]
  | some x =>
   have h2 : false = null := h2
   subst h2
   have h3 : x = zbk t.s := h3 rfl
   subst h3
   simp only [Txt.wr, Bool.false_eq_true, if_false]
theorem tags_wr (u : List (Nat × List UInt8)) : zwt ((unkT u).map fun x => (x.1, zbk x.2)) = uvB (unkT u).length ++ (unkT u).flatMap tagB := by
 unfold zwt
 rw [zsb, List.length_map, List.flatMap_map]
 ·rfl
 ·have := znu u
  rw [List.map_map]
  exact this
theorem rdN_wr {e : El} {fl : Bool} {ver o : Int} {sub : List Fld} (he : ElRd fl ver e o sub) (hw : ∀ (t : Tr) (r : List UInt8) (v : Val), wfT t → e.rd ver fl (rs (valB fl o (zci fl ver sub) false t ++ r)) = some (v, rs r) → e.wr ver fl v = valB fl o (zci fl ver sub) false t) :
  ∀ (l : List Tr) (r : List UInt8) (vs : List Val), (∀ x ∈ l, wfT x) → rdN (e.rd ver fl) l.length (rs (l.flatMap (valB fl o (zci fl ver sub) false) ++ r)) = some (vs, rs r) → vs.flatMap (e.wr ver fl) = l.flatMap (valB fl o (zci fl ver sub) false) ∧ vs.length = l.length
 | [], r, vs, _, h => by
  simp only [List.length_nil, rdN, Option.some.injEq, Prod.mk.injEq] at h
  rw [← h.1]; exact ⟨rfl, rfl⟩
 | x :: l, r, vs, hwf, h => by
  obtain ⟨v, h1, _, _⟩ := he x (l.flatMap (valB fl o (zci fl ver sub) false) ++ r) (hwf x (by simp))
  rw [List.length_cons, rdN, List.flatMap_cons, List.append_assoc, h1] at h
  simp only at h
  split at h
  ·cases h
  ·rename_i l' s' h2
   simp only [Option.some.injEq, Prod.mk.injEq] at h
   obtain ⟨rfl, rfl⟩ := h
   have := rdN_wr he hw l r l' (fun y hy => hwf y (by simp [hy])) h2
   rw [List.flatMap_cons, List.flatMap_cons, this.1, hw x _ v (hwf x (by simp)) h1]
   exact ⟨rfl, by simp [this.2]⟩
mutual
theorem Ty.wr_of {fl : Bool} {ver : Int} : ∀ (ty : Ty) (f : Fld), ty.matB fl ver f = true → ∀ (t : Tr) (r : List UInt8) (v : Val), wfT t → ty.rd ver fl (rs (zee fl ver f t ++ r)) = some (v, rs r) → ty.wr ver fl v = zee fl ver f t
 | .pr k d, f, h, t, r, v, hw, hr => by
  simp only [Ty.matB, Bool.and_eq_true, Bool.not_eq_true'] at h
  rw [zfs (zzn h.1).1] at hr ⊢
  simp only [Ty.rd, Option.some.injEq] at hr
  obtain ⟨rfl, h2⟩ := Prod.mk.inj hr
  exact pr_wr h.1 fl _ _ (r := r) (r' := r) (by rw [← h2])
 | .txt .str, f, h, t, r, v, hw, hr => by
  simp only [Ty.matB, Bool.and_eq_true, Bool.not_eq_true', decide_eq_true_eq] at h
  rw [zfs (by omega)] at hr ⊢
  simp only [Ty.rd, Option.some.injEq] at hr
  exact zwp .str fl _ (fun _ => zgv h.2) _ t r r _ h.1 v hr
 | .txt .nstr, f, h, t, r, v, hw, hr => by
  simp only [Ty.matB, decide_eq_true_eq] at h
  rw [zfs (by omega)] at hr ⊢
  simp only [Ty.rd, Option.some.injEq] at hr
  exact zwp .nstr fl _ (fun hc => by rcases hc with hc | hc <;> cases hc) _ t r r _ h v hr
 | .txt .byt, f, h, t, r, v, hw, hr => by
  simp only [Ty.matB, Bool.and_eq_true, Bool.not_eq_true', decide_eq_true_eq] at h
  rw [zfs (by omega)] at hr ⊢
  simp only [Ty.rd, Option.some.injEq] at hr
  exact zwp .byt fl _ (fun _ => zgv h.2) _ t r r _ h.1 v hr
 | .txt .nbyt, f, h, t, r, v, hw, hr => by
  simp only [Ty.matB, decide_eq_true_eq] at h
  rw [zfs (by omega)] at hr ⊢
  simp only [Ty.rd, Option.some.injEq] at hr
  exact zwp .nbyt fl _ (fun hc => by rcases hc with hc | hc <;> cases hc) _ t r r _ h v hr
 | .arr st nul e, f, h, t, r, v, hw, hr => by
  simp only [Ty.matB, Bool.and_eq_true, decide_eq_true_eq] at h
  obtain ⟨⟨h11, hnul⟩, he⟩ := h
  have hewr := El.wr_of e f.of f.sub he
  have he := El.rd_of e f.of f.sub he
  rw [zjh h11] at hr ⊢
  have hlz : (zdl t.l).length ≤ 32767 := by simp [zdl, most]; omega
  cases hnb : f.nullB ver t with
  | true =>
   have hmay : f.may ver = true := by
    cases hm : f.may ver with
    | true => rfl
    | false => rw [zgv hm] at hnb; cases hnb
   have hk : ∃ k, nul = some k ∧ k ≤ ver := by
    cases nul with
    | none => simp [hmay] at hnul
    | some k => exact ⟨k, rfl, by simpa [hmay] using hnul⟩
   obtain ⟨k, rfl, hk⟩ := hk
   rw [hnb] at hr
   simp only [if_true, List.length_nil, List.flatMap_nil, List.append_nil] at hr ⊢
   have hx : (if fl then zle (rs (zr fl true 0 4 ++ r)) else arrR (rs (zr fl true 0 4 ++ r))) = (-1, rs r) := by
    unfold zr
    cases fl with
    | true => simp only [Bool.and_true, if_true]; exact zwa r
    | false => simp only [Bool.false_and, Bool.false_eq_true, if_false, if_true]; exact zzw r
   unfold Ty.rd at hr; rw [hx] at hr
   simp only [rs, Bool.false_eq_true, if_false] at hr
   rw [if_neg (by decide)] at hr
   rw [if_neg (by omega)] at hr
   injection hr with hr
   obtain ⟨rfl, _⟩ := Prod.mk.inj hr
   simp only [Ty.wr, nulAt, hk, decide_true]
  | false =>
   rw [hnb] at hr
   simp only [Bool.false_eq_true, if_false] at hr ⊢
   obtain ⟨l, hl⟩ : ∃ l, l = zdl t.l := ⟨_, rfl⟩
   rw [← hl] at hlz hr ⊢
   have hwl : ∀ x ∈ l, wfT x := fun x hx => hw.l x (by rw [hl] at hx; exact List.mem_of_mem_take hx)
   obtain ⟨vs, g1, g2, g3, g4⟩ := rdN_rs he l r hwl
   have g5 := rdN_wr he hewr l r vs hwl g1
   rw [List.append_assoc] at hr
   have hx : (if fl then zle (rs (zr fl false l.length 4 ++ (l.flatMap (valB fl f.of (zci fl ver f.sub) false) ++ r))) else arrR (rs (zr fl false l.length 4 ++ (l.flatMap (valB fl f.of (zci fl ver f.sub) false) ++ r)))) = ((l.length : Int), rs (l.flatMap (valB fl f.of (zci fl ver f.sub) false) ++ r)) := by
    unfold zr
    cases fl with
    | true => simp only [Bool.and_false, Bool.false_eq_true, if_false, if_true]; exact zzt hlz (by rw [List.length_append]; omega)
    | false => simp only [Bool.and_false, Bool.false_eq_true, if_false]; exact arr_rs hlz (by rw [List.length_append]; omega)
   unfold Ty.rd at hr
   rw [hx] at hr
   simp only [rs, Bool.false_eq_true, if_false] at hr
   by_cases h0 : l.length = 0
   ·have hl0 : l = [] := List.length_eq_zero_iff.1 h0
    subst hl0
    rw [if_neg (by simp)] at hr
    injection hr with hr
    obtain ⟨rfl, _⟩ := Prod.mk.inj hr
    cases nul with
    | none => simp only [Ty.wr, nulAt, List.length_nil, List.flatMap_nil, List.append_nil]
    | some k =>
     have e1 : (if ver < k ∨ ((([] : List Tr).length : Nat) : Int) = 0 then Val.arr e.sz [] else Val.nilA) = .arr e.sz [] := if_pos (.inr rfl)
     show Ty.wr ver fl (.arr st (some k) e) (if ver < k ∨ ((([] : List Tr).length : Nat) : Int) = 0 then Val.arr e.sz [] else Val.nilA) = _
     rw [e1]
     simp only [Ty.wr, List.length_nil, List.flatMap_nil, List.append_nil]
   ·rw [if_pos (by omega)] at hr
    have : ((l.length : Nat) : Int).toNat = l.length := by omega
    simp only [rs] at g1
    rw [this, g1] at hr
    injection hr with hr
    obtain ⟨rfl, _⟩ := Prod.mk.inj hr
    simp only [Ty.wr]
    rw [g5.1, g5.2]
 | .row .., f, h, _, _, _, _, _ => by simp [Ty.matB] at h
theorem El.wr_of {fl : Bool} {ver : Int} : ∀ (e : El) (o : Int) (sub : List Fld), e.matB fl ver o sub = true → ∀ (t : Tr) (r : List UInt8) (v : Val), wfT t → e.rd ver fl (rs (valB fl o (zci fl ver sub) false t ++ r)) = some (v, rs r) → e.wr ver fl v = valB fl o (zci fl ver sub) false t
 | .pr k, o, sub, h, t, r, v, hw, hr => by
  simp only [El.matB] at h
  simp only [El.rd, Option.some.injEq] at hr
  obtain ⟨rfl, h2⟩ := Prod.mk.inj hr
  exact pr_wr h fl _ _ (r := r) (r' := r) (by rw [← h2])
 | .txt k, o, sub, h, t, r, v, hw, hr => by
  have hk : o = k.kind := by cases k <;> simpa [El.matB, Txt.kind] using h
  simp only [El.rd, Option.some.injEq] at hr
  exact zwp k fl _ (fun _ => rfl) _ t r r _ hk v hr
 | .row T pT d fs, o, sub, h, t, r, v, hw, hr => by
  simp only [El.matB, Bool.and_eq_true, decide_eq_true_eq] at h
  obtain ⟨⟨h10, hfs⟩, hne⟩ := h
  have hv : valB fl o (zci fl ver sub) false t = zdr fl ver sub 0 t := by rw [h10]; simp [valB, zci, endB, zdr]
  rw [hv] at hr ⊢
  unfold El.rd at hr
  split at hr
  ·cases hr
  ·rename_i l s h1
   injection hr with hr
   obtain ⟨rfl, rfl⟩ := Prod.mk.inj hr
   exact Fds.wr_of fs sub hfs 0 t r l hw h1
theorem Fds.wr_of {fl : Bool} {ver : Int} : ∀ (fs : Fds) (sf : List Fld), fs.matB fl ver sf = true → ∀ (i : Nat) (t : Tr) (r : List UInt8) (l : List Val), wfT t → fs.rd ver fl (rs (zdr fl ver sf i t ++ r)) = some (l, rs r) → fs.wr ver fl l = zdr fl ver sf i t
 | .nil, [], h, i, t, r, l, hw, hr => by
  have h : fl = false := by simpa [Fds.matB] using h
  subst h
  simp [zdr, zca, Fds.wr]
 | .tags, [], _, i, t, r, l, hw, hr => by
  cases fl with
  | true =>
   simp only [zdr, zca, Fds.rd, if_true, List.nil_append] at hr ⊢
   rw [zvd t.u hw.u r] at hr
   injection hr with hr
   obtain ⟨rfl, _⟩ := Prod.mk.inj hr
   simp only [Fds.wr, if_true]
   exact tags_wr t.u
  | false =>
   simp only [zdr, zca, Fds.rd, Bool.false_eq_true, if_false, List.nil_append] at hr ⊢
   injection hr with hr
   obtain ⟨rfl, _⟩ := Prod.mk.inj hr
   simp [Fds.wr]
 | .cons g ty r', f :: sf, h, i, t, r, l, hw, hr => by
  simp only [Fds.matB, Bool.and_eq_true, beq_iff_eq] at h
  obtain ⟨⟨hg, hty⟩, hfr⟩ := h
  rw [Fds.rd] at hr
  cases hh : f.has ver with
  | true =>
   rw [hh] at hty hg
   simp only [if_true] at hty
   have e : zdr fl ver (f :: sf) i t = zee fl ver f (atT t i) ++ zdr fl ver sf (i + 1) t := by
    unfold zdr; rw [zca, hh]; simp only [if_true, List.append_assoc]
   obtain ⟨v, g1, g2, _⟩ := Ty.rd_of ty f hty (atT t i) (zdr fl ver sf (i + 1) t ++ r) (hw.at i)
   rw [e, List.append_assoc, hg, if_pos rfl, g1] at hr
   simp only at hr
   split at hr
   ·cases hr
   ·rename_i l' s' h1
    injection hr with hr
    obtain ⟨rfl, rfl⟩ := Prod.mk.inj hr
    rw [e, Fds.wr, hg, if_pos rfl, Fds.wr_of r' sf hfr (i + 1) t r l' hw h1, Ty.wr_of ty f hty (atT t i) _ v (hw.at i) g1]
  | false =>
   rw [hh] at hty hg
   have e : zdr fl ver (f :: sf) i t = zdr fl ver sf (i + 1) t := by
    unfold zdr; rw [zca, hh]; simp
   rw [e, hg] at hr
   simp only [Bool.false_eq_true, if_false] at hr
   split at hr
   ·cases hr
   ·rename_i l' s' h1
    injection hr with hr
    obtain ⟨rfl, rfl⟩ := Prod.mk.inj hr
    rw [e, Fds.wr, hg, if_neg (by decide), List.nil_append]
    exact Fds.wr_of r' sf hfr (i + 1) t r l' hw h1
 | .nil, _ :: _, h, _, _, _, _, _, _ => by simp [Fds.matB] at h
 | .tags, _ :: _, h, _, _, _, _, _, _ => by simp [Fds.matB] at h
 | .cons .., [], h, _, _, _, _, _, _ => by simp [Fds.matB] at h
end
theorem msg_wr {m : Msg} {fx : Bool} {ver : Int} {sf : List Fld} {t : Tr} (hw : wfT t) (hm : m.fs.matB (fx && decide (ver ≥ m.fl)) ver sf = true) {l : List Val} (hr : m.rd fx ver (rs (zci (fx && decide (ver ≥ m.fl)) ver sf t)) = some l) :
  m.fs.wr ver (fx && decide (ver ≥ m.fl)) l = zci (fx && decide (ver ≥ m.fl)) ver sf t := by
 obtain ⟨fl, hfl⟩ : ∃ fl, fl = (fx && decide (ver ≥ m.fl)) := ⟨_, rfl⟩
 unfold Msg.rd at hr
 rw [← hfl] at hm hr ⊢
 have hp : zci fl ver sf t = zdr fl ver sf 0 t := by simp [zci, endB, zdr]
 obtain ⟨l', h1, _⟩ := Fds.rd_of m.fs sf hm 0 t [] hw
 rw [List.append_nil] at h1
 rw [hp] at hr ⊢
 rw [h1] at hr
 have hr : some l' = some l := hr
 injection hr with hr
 subst hr
 refine Fds.wr_of m.fs sf hm 0 t [] l' hw ?_
 rw [List.append_nil]; exact h1
structure zdp where
 zcq : Nat := 0
 zie : Nat := 0
 zpc : Nat := 0
 zbg : Nat := 0
 zil : Nat := 0
 zaj : Nat := 0
 zfm : Nat := 0
 zcj : Nat := 0
 zce : Nat := 0
 zdd : Nat := 0
 zcu : Nat := 0
 zfy : Nat := 0
 zid : Nat := 0
 zbb : Nat := 0
 zic : Nat := 0
 zdk : Nat := 0
 zdz : Nat := 0
 zdo : Nat := 0
 zep : Nat := 0
 zib : Nat := 0
 zdb : Nat := 0
 zei : Nat := 0
 zcx : Nat := 0
 zjl : Nat := 0
 zia : Nat := 0
 zgd : Nat := 0
 zeb : Nat := 0
 t_PTags : Nat := 0
def zmn (N : Nums) (A : zdp) : C :=
 .seq (
 .ops [
  ⟨some (2+100), .assign (.const (.slice none 0 0)), 0, none, []⟩]) (
 .seq (
 .seq (
 .ops [
  ⟨some (3+100), .move (V 1), 0, none, []⟩]) (
 .cond 3 (
  .seq (
  .ops [
   ⟨some 0, .move (V 0), 0, none, []⟩,
   ⟨some 1, .buildSlice N.za 1 #[(0, (.const (.int .u8 1)))], 0, none, []⟩,
   ⟨some 2, .call ⟨.builtin .append, #[T 0, T 1], #[N.za, N.za]⟩, N.za, none, []⟩,
   ⟨some (2+100), .assign (T 2), 0, none, []⟩]) (
  .ret)) (
  .skip))) (
 .seq (
 .ops [
  ⟨some 0, .move (V 0), 0, none, []⟩,
  ⟨some 1, .buildSlice N.za 1 #[(0, (.const (.int .u8 0)))], 0, none, []⟩,
  ⟨some 2, .call ⟨.builtin .append, #[T 0, T 1], #[N.za, N.za]⟩, N.za, none, []⟩,
  ⟨some (2+100), .assign (T 2), 0, none, []⟩]) (
 .ret)))
def zmm (N : Nums) (A : zdp) : C :=
 .seq (
 .ops [
  ⟨some (2+100), .assign (.const (.slice none 0 0)), 0, none, []⟩]) (
 .seq (
 .ops [
  ⟨some 0, .move (V 0), 0, none, []⟩,
  ⟨some 1, .move (V 1), 0, none, []⟩,
  ⟨some 2, .convert N.zwv N.zg (T 1), 0, none, []⟩,
  ⟨some 3, .buildSlice N.za 1 #[(0, (T 2))], 0, none, []⟩,
  ⟨some 4, .call ⟨.builtin .append, #[T 0, T 3], #[N.za, N.za]⟩, N.za, none, []⟩,
  ⟨some (2+100), .assign (T 4), 0, none, []⟩]) (
 .ret))
def zga (N : Nums) (A : zdp) : C :=
 .seq (
 .ops [
  ⟨some (2+100), .assign (.const (.slice none 0 0)), 0, none, []⟩]) (
 .seq (
 .ops [
  ⟨some 0, .move (V 0), 0, none, []⟩,
  ⟨some 1, .move (V 1), 0, none, []⟩,
  ⟨some 2, .convert N.zbp N.zes (T 1), 0, none, []⟩,
  ⟨some 3, .call ⟨.value (.func A.zdo), #[T 0, T 2], #[N.za, N.zes]⟩, N.za, none, []⟩,
  ⟨some (2+100), .assign (T 3), 0, none, []⟩]) (
 .ret))
def zeq (N : Nums) (A : zdp) : C :=
 .seq (
 .ops [
  ⟨some (2+100), .assign (.const (.slice none 0 0)), 0, none, []⟩]) (
 .seq (
 .ops [
  ⟨some 0, .move (V 0), 0, none, []⟩,
  ⟨some 1, .move (V 1), 0, none, []⟩,
  ⟨some 2, .binOp .shr N.zes (T 1) (.const (.int .u64 8)) N.zcd, 0, none, []⟩,
  ⟨some 3, .convert N.zes N.zg (T 2), 0, none, []⟩,
  ⟨some 4, .move (V 1), 0, none, []⟩,
  ⟨some 5, .convert N.zes N.zg (T 4), 0, none, []⟩,
  ⟨some 6, .buildSlice N.za 2 #[(0, (T 3)), (1, (T 5))], 0, none, []⟩,
  ⟨some 7, .call ⟨.builtin .append, #[T 0, T 6], #[N.za, N.za]⟩, N.za, none, []⟩,
  ⟨some (2+100), .assign (T 7), 0, none, []⟩]) (
 .ret))
def zhb (N : Nums) (A : zdp) : C :=
 .seq (
 .ops [
  ⟨some (2+100), .assign (.const (.slice none 0 0)), 0, none, []⟩]) (
 .seq (
 .ops [
  ⟨some 0, .move (V 0), 0, none, []⟩,
  ⟨some 1, .move (V 1), 0, none, []⟩,
  ⟨some 2, .convert N.zcg N.zb (T 1), 0, none, []⟩,
  ⟨some 3, .call ⟨.value (.func A.zep), #[T 0, T 2], #[N.za, N.zb]⟩, N.za, none, []⟩,
  ⟨some (2+100), .assign (T 3), 0, none, []⟩]) (
 .ret))
def zfi (N : Nums) (A : zdp) : C :=
 .seq (
 .ops [
  ⟨some (2+100), .assign (.const (.slice none 0 0)), 0, none, []⟩]) (
 .seq (
 .ops [
  ⟨some 0, .move (V 0), 0, none, []⟩,
  ⟨some 1, .move (V 1), 0, none, []⟩,
  ⟨some 2, .binOp .shr N.zb (T 1) (.const (.int .u64 24)) N.zcd, 0, none, []⟩,
  ⟨some 3, .convert N.zb N.zg (T 2), 0, none, []⟩,
  ⟨some 4, .move (V 1), 0, none, []⟩,
  ⟨some 5, .binOp .shr N.zb (T 4) (.const (.int .u64 16)) N.zcd, 0, none, []⟩,
  ⟨some 6, .convert N.zb N.zg (T 5), 0, none, []⟩,
  ⟨some 7, .move (V 1), 0, none, []⟩,
  ⟨some 8, .binOp .shr N.zb (T 7) (.const (.int .u64 8)) N.zcd, 0, none, []⟩,
  ⟨some 9, .convert N.zb N.zg (T 8), 0, none, []⟩,
  ⟨some 10, .move (V 1), 0, none, []⟩,
  ⟨some 11, .convert N.zb N.zg (T 10), 0, none, []⟩,
  ⟨some 12, .buildSlice N.za 4 #[(0, (T 3)), (1, (T 6)), (2, (T 9)), (3, (T 11))], 0, none, []⟩,
  ⟨some 13, .call ⟨.builtin .append, #[T 0, T 12], #[N.za, N.za]⟩, N.za, none, []⟩,
  ⟨some (2+100), .assign (T 13), 0, none, []⟩]) (
 .ret))
def zlh (N : Nums) (A : zdp) : C :=
 .seq (
 .ops [
  ⟨some (2+100), .assign (.const (.slice none 0 0)), 0, none, []⟩]) (
 .seq (
 .ops [
  ⟨some 0, .move (V 0), 0, none, []⟩,
  ⟨some 1, .move (V 1), 0, none, []⟩,
  ⟨some 2, .convert N.zde N.zaa (T 1), 0, none, []⟩,
  ⟨some 3, .call ⟨.value (.func A.zgd), #[T 0, T 2], #[N.za, N.zaa]⟩, N.za, none, []⟩,
  ⟨some (2+100), .assign (T 3), 0, none, []⟩]) (
 .ret))
def zml (N : Nums) (A : zdp) : C :=
 .seq (
 .ops [
  ⟨some (2+100), .box N.zu (V 1), 0, none, []⟩,
  ⟨some (3+100), .assign (.const (.slice none 0 0)), 0, none, []⟩]) (
 .seq (
 .ops [
  ⟨some 0, .move (V 0), 0, none, []⟩,
  ⟨some 1, .slice N.zu (V 2) none none none, 0, none, []⟩,
  ⟨some 2, .call ⟨.builtin .append, #[T 0, T 1], #[N.za, N.za]⟩, N.za, none, []⟩,
  ⟨some (3+100), .assign (T 2), 0, none, []⟩]) (
 .ret))
def zmk (N : Nums) (A : zdp) : C :=
 .seq (
 .ops [
  ⟨some (2+100), .assign (.const (.slice none 0 0)), 0, none, []⟩]) (
 .seq (
 .seq (
 .ops [
  ⟨some 0, .move (V 1), 0, none, []⟩,
  ⟨some (3+100), .call ⟨.value (.func A.zia), #[T 0], #[N.zb]⟩, N.ze, none, []⟩]) (
 .block 0 (
  .seq (
  .ops [
   ⟨some 0, .binOp .eql N.ze (V 3) (.const (.int .i64 5)) N.ze, 0, none, []⟩,
   ⟨some (4+100), .assign (T 0), 0, none, []⟩]) (
  .cond 4 (
   .seq (
   .ops [
    ⟨some 0, .move (V 0), 0, none, []⟩,
    ⟨some 1, .move (V 1), 0, none, []⟩,
    ⟨some 2, .binOp .and N.zb (T 1) (.const (.int .u32 127)) N.zb, 0, none, []⟩,
    ⟨some 3, .binOp .or N.zb (T 2) (.const (.int .u32 128)) N.zb, 0, none, []⟩,
    ⟨some 4, .convert N.zb N.zg (T 3), 0, none, []⟩,
    ⟨some 5, .move (V 1), 0, none, []⟩,
    ⟨some 6, .binOp .shr N.zb (T 5) (.const (.int .u64 7)) N.zcd, 0, none, []⟩,
    ⟨some 7, .binOp .and N.zb (T 6) (.const (.int .u32 127)) N.zb, 0, none, []⟩,
    ⟨some 8, .binOp .or N.zb (T 7) (.const (.int .u32 128)) N.zb, 0, none, []⟩,
    ⟨some 9, .convert N.zb N.zg (T 8), 0, none, []⟩,
    ⟨some 10, .move (V 1), 0, none, []⟩,
    ⟨some 11, .binOp .shr N.zb (T 10) (.const (.int .u64 14)) N.zcd, 0, none, []⟩,
    ⟨some 12, .binOp .and N.zb (T 11) (.const (.int .u32 127)) N.zb, 0, none, []⟩,
    ⟨some 13, .binOp .or N.zb (T 12) (.const (.int .u32 128)) N.zb, 0, none, []⟩,
    ⟨some 14, .convert N.zb N.zg (T 13), 0, none, []⟩,
    ⟨some 15, .move (V 1), 0, none, []⟩,
    ⟨some 16, .binOp .shr N.zb (T 15) (.const (.int .u64 21)) N.zcd, 0, none, []⟩,
    ⟨some 17, .binOp .and N.zb (T 16) (.const (.int .u32 127)) N.zb, 0, none, []⟩,
    ⟨some 18, .binOp .or N.zb (T 17) (.const (.int .u32 128)) N.zb, 0, none, []⟩,
    ⟨some 19, .convert N.zb N.zg (T 18), 0, none, []⟩,
    ⟨some 20, .move (V 1), 0, none, []⟩,
    ⟨some 21, .binOp .shr N.zb (T 20) (.const (.int .u64 28)) N.zcd, 0, none, []⟩,
    ⟨some 22, .convert N.zb N.zg (T 21), 0, none, []⟩,
    ⟨some 23, .buildSlice N.za 5 #[(0, (T 4)), (1, (T 9)), (2, (T 14)), (3, (T 19)), (4, (T 22))], 0, none, []⟩,
    ⟨some 24, .call ⟨.builtin .append, #[T 0, T 23], #[N.za, N.za]⟩, N.za, none, []⟩,
    ⟨some (2+100), .assign (T 24), 0, none, []⟩]) (
   .ret)) (
   .seq (
   .ops [
    ⟨some 0, .binOp .eql N.ze (V 3) (.const (.int .i64 4)) N.ze, 0, none, []⟩,
    ⟨some (5+100), .assign (T 0), 0, none, []⟩]) (
   .cond 5 (
    .seq (
    .ops [
     ⟨some 0, .move (V 0), 0, none, []⟩,
     ⟨some 1, .move (V 1), 0, none, []⟩,
     ⟨some 2, .binOp .and N.zb (T 1) (.const (.int .u32 127)) N.zb, 0, none, []⟩,
     ⟨some 3, .binOp .or N.zb (T 2) (.const (.int .u32 128)) N.zb, 0, none, []⟩,
     ⟨some 4, .convert N.zb N.zg (T 3), 0, none, []⟩,
     ⟨some 5, .move (V 1), 0, none, []⟩,
     ⟨some 6, .binOp .shr N.zb (T 5) (.const (.int .u64 7)) N.zcd, 0, none, []⟩,
     ⟨some 7, .binOp .and N.zb (T 6) (.const (.int .u32 127)) N.zb, 0, none, []⟩,
     ⟨some 8, .binOp .or N.zb (T 7) (.const (.int .u32 128)) N.zb, 0, none, []⟩,
     ⟨some 9, .convert N.zb N.zg (T 8), 0, none, []⟩,
     ⟨some 10, .move (V 1), 0, none, []⟩,
     ⟨some 11, .binOp .shr N.zb (T 10) (.const (.int .u64 14)) N.zcd, 0, none, []⟩,
     ⟨some 12, .binOp .and N.zb (T 11) (.const (.int .u32 127)) N.zb, 0, none, []⟩,
     ⟨some 13, .binOp .or N.zb (T 12) (.const (.int .u32 128)) N.zb, 0, none, []⟩,
     ⟨some 14, .convert N.zb N.zg (T 13), 0, none, []⟩,
     ⟨some 15, .move (V 1), 0, none, []⟩,
     ⟨some 16, .binOp .shr N.zb (T 15) (.const (.int .u64 21)) N.zcd, 0, none, []⟩,
     ⟨some 17, .convert N.zb N.zg (T 16), 0, none, []⟩,
     ⟨some 18, .buildSlice N.za 4 #[(0, (T 4)), (1, (T 9)), (2, (T 14)), (3, (T 17))], 0, none, []⟩,
     ⟨some 19, .call ⟨.builtin .append, #[T 0, T 18], #[N.za, N.za]⟩, N.za, none, []⟩,
     ⟨some (2+100), .assign (T 19), 0, none, []⟩]) (
    .ret)) (
    .seq (
    .ops [
     ⟨some 0, .binOp .eql N.ze (V 3) (.const (.int .i64 3)) N.ze, 0, none, []⟩,
     ⟨some (6+100), .assign (T 0), 0, none, []⟩]) (
    .cond 6 (
     .seq (
     .ops [
      ⟨some 0, .move (V 0), 0, none, []⟩,
      ⟨some 1, .move (V 1), 0, none, []⟩,
      ⟨some 2, .binOp .and N.zb (T 1) (.const (.int .u32 127)) N.zb, 0, none, []⟩,
      ⟨some 3, .binOp .or N.zb (T 2) (.const (.int .u32 128)) N.zb, 0, none, []⟩,
      ⟨some 4, .convert N.zb N.zg (T 3), 0, none, []⟩,
      ⟨some 5, .move (V 1), 0, none, []⟩,
      ⟨some 6, .binOp .shr N.zb (T 5) (.const (.int .u64 7)) N.zcd, 0, none, []⟩,
      ⟨some 7, .binOp .and N.zb (T 6) (.const (.int .u32 127)) N.zb, 0, none, []⟩,
      ⟨some 8, .binOp .or N.zb (T 7) (.const (.int .u32 128)) N.zb, 0, none, []⟩,
      ⟨some 9, .convert N.zb N.zg (T 8), 0, none, []⟩,
      ⟨some 10, .move (V 1), 0, none, []⟩,
      ⟨some 11, .binOp .shr N.zb (T 10) (.const (.int .u64 14)) N.zcd, 0, none, []⟩,
      ⟨some 12, .convert N.zb N.zg (T 11), 0, none, []⟩,
      ⟨some 13, .buildSlice N.za 3 #[(0, (T 4)), (1, (T 9)), (2, (T 12))], 0, none, []⟩,
      ⟨some 14, .call ⟨.builtin .append, #[T 0, T 13], #[N.za, N.za]⟩, N.za, none, []⟩,
      ⟨some (2+100), .assign (T 14), 0, none, []⟩]) (
     .ret)) (
     .seq (
     .ops [
      ⟨some 0, .binOp .eql N.ze (V 3) (.const (.int .i64 2)) N.ze, 0, none, []⟩,
      ⟨some (7+100), .assign (T 0), 0, none, []⟩]) (
     .cond 7 (
      .seq (
      .ops [
       ⟨some 0, .move (V 0), 0, none, []⟩,
       ⟨some 1, .move (V 1), 0, none, []⟩,
       ⟨some 2, .binOp .and N.zb (T 1) (.const (.int .u32 127)) N.zb, 0, none, []⟩,
       ⟨some 3, .binOp .or N.zb (T 2) (.const (.int .u32 128)) N.zb, 0, none, []⟩,
       ⟨some 4, .convert N.zb N.zg (T 3), 0, none, []⟩,
       ⟨some 5, .move (V 1), 0, none, []⟩,
       ⟨some 6, .binOp .shr N.zb (T 5) (.const (.int .u64 7)) N.zcd, 0, none, []⟩,
       ⟨some 7, .convert N.zb N.zg (T 6), 0, none, []⟩,
       ⟨some 8, .buildSlice N.za 2 #[(0, (T 4)), (1, (T 7))], 0, none, []⟩,
       ⟨some 9, .call ⟨.builtin .append, #[T 0, T 8], #[N.za, N.za]⟩, N.za, none, []⟩,
       ⟨some (2+100), .assign (T 9), 0, none, []⟩]) (
      .ret)) (
      .seq (
      .ops [
       ⟨some 0, .binOp .eql N.ze (V 3) (.const (.int .i64 1)) N.ze, 0, none, []⟩,
       ⟨some (8+100), .assign (T 0), 0, none, []⟩]) (
      .cond 8 (
       .seq (
       .ops [
        ⟨some 0, .move (V 0), 0, none, []⟩,
        ⟨some 1, .move (V 1), 0, none, []⟩,
        ⟨some 2, .convert N.zb N.zg (T 1), 0, none, []⟩,
        ⟨some 3, .buildSlice N.za 1 #[(0, (T 2))], 0, none, []⟩,
        ⟨some 4, .call ⟨.builtin .append, #[T 0, T 3], #[N.za, N.za]⟩, N.za, none, []⟩,
        ⟨some (2+100), .assign (T 4), 0, none, []⟩]) (
       .ret)) (
       .skip))))))))))))) (
 .seq (
 .ops [
  ⟨some 0, .move (V 0), 0, none, []⟩,
  ⟨some (2+100), .assign (T 0), 0, none, []⟩]) (
 .ret)))
def zhr (N : Nums) (A : zdp) : C :=
 .seq (
 .ops [
  ⟨some (2+100), .assign (.const (.slice none 0 0)), 0, none, []⟩]) (
 .seq (
 .ops [
  ⟨some 0, .move (V 0), 0, none, []⟩,
  ⟨some 1, .move (V 1), 0, none, []⟩,
  ⟨some 2, .call ⟨.builtin .len, #[T 1], #[N.zai]⟩, N.ze, none, []⟩,
  ⟨some 3, .convert N.ze N.zbp (T 2), 0, none, []⟩,
  ⟨some 4, .call ⟨.value (.func A.zdd), #[T 0, T 3], #[N.za, N.zbp]⟩, N.za, none, []⟩,
  ⟨some (0+100), .assign (T 4), 0, none, []⟩]) (
 .seq (
 .ops [
  ⟨some 0, .move (V 0), 0, none, []⟩,
  ⟨some 1, .move (V 1), 0, none, []⟩,
  ⟨some 2, .call ⟨.builtin .append, #[T 0, T 1], #[N.za, N.zai]⟩, N.za, none, []⟩,
  ⟨some (2+100), .assign (T 2), 0, none, []⟩]) (
 .ret)))
def zek (N : Nums) (A : zdp) : C :=
 .seq (
 .ops [
  ⟨some (2+100), .assign (.const (.slice none 0 0)), 0, none, []⟩]) (
 .seq (
 .ops [
  ⟨some 0, .move (V 0), 0, none, []⟩,
  ⟨some 1, .move (V 1), 0, none, []⟩,
  ⟨some 2, .call ⟨.builtin .len, #[T 1], #[N.zai]⟩, N.ze, none, []⟩,
  ⟨some 3, .convert N.ze N.zb (T 2), 0, none, []⟩,
  ⟨some 4, .binOp .add N.zb (.const (.int .u32 1)) (T 3) N.zb, 0, none, []⟩,
  ⟨some 5, .call ⟨.value (.func A.zdb), #[T 0, T 4], #[N.za, N.zb]⟩, N.za, none, []⟩,
  ⟨some (0+100), .assign (T 5), 0, none, []⟩]) (
 .seq (
 .ops [
  ⟨some 0, .move (V 0), 0, none, []⟩,
  ⟨some 1, .move (V 1), 0, none, []⟩,
  ⟨some 2, .call ⟨.builtin .append, #[T 0, T 1], #[N.za, N.zai]⟩, N.za, none, []⟩,
  ⟨some (2+100), .assign (T 2), 0, none, []⟩]) (
 .ret)))
def zfk (N : Nums) (A : zdp) : C :=
 .seq (
 .ops [
  ⟨some (2+100), .assign (.const (.slice none 0 0)), 0, none, []⟩]) (
 .seq (
 .seq (
 .ops [
  ⟨some 0, .move (V 1), 0, none, []⟩,
  ⟨some (3+100), .binOp .eql N.zbm (T 0) (.const (.pointer none)) N.zbm, 0, none, []⟩]) (
 .cond 3 (
  .seq (
  .ops [
   ⟨some 0, .move (V 0), 0, none, []⟩,
   ⟨some 1, .call ⟨.value (.func A.zdd), #[(T 0), (.const (.int .i16 (-1)))], #[N.za, N.zbp]⟩, N.za, none, []⟩,
   ⟨some (2+100), .assign (T 1), 0, none, []⟩]) (
  .ret)) (
  .skip))) (
 .seq (
 .ops [
  ⟨some 0, .move (V 0), 0, none, []⟩,
  ⟨some 1, .move (V 1), 0, none, []⟩,
  ⟨some 2, .nilCheck (T 1), 0, none, []⟩,
  ⟨some 3, .load N.zai (T 2), 0, none, []⟩,
  ⟨some 4, .call ⟨.value (.func A.zdz), #[T 0, T 3], #[N.za, N.zai]⟩, N.za, none, []⟩,
  ⟨some (2+100), .assign (T 4), 0, none, []⟩]) (
 .ret)))
def zdw (N : Nums) (A : zdp) : C :=
 .seq (
 .ops [
  ⟨some (2+100), .assign (.const (.slice none 0 0)), 0, none, []⟩]) (
 .seq (
 .seq (
 .ops [
  ⟨some 0, .move (V 1), 0, none, []⟩,
  ⟨some (3+100), .binOp .eql N.zbm (T 0) (.const (.pointer none)) N.zbm, 0, none, []⟩]) (
 .cond 3 (
  .seq (
  .ops [
   ⟨some 0, .move (V 0), 0, none, []⟩,
   ⟨some 1, .call ⟨.value (.func A.zdb), #[(T 0), (.const (.int .u32 0))], #[N.za, N.zb]⟩, N.za, none, []⟩,
   ⟨some (2+100), .assign (T 1), 0, none, []⟩]) (
  .ret)) (
  .skip))) (
 .seq (
 .ops [
  ⟨some 0, .move (V 0), 0, none, []⟩,
  ⟨some 1, .move (V 1), 0, none, []⟩,
  ⟨some 2, .nilCheck (T 1), 0, none, []⟩,
  ⟨some 3, .load N.zai (T 2), 0, none, []⟩,
  ⟨some 4, .call ⟨.value (.func A.zce), #[T 0, T 3], #[N.za, N.zai]⟩, N.za, none, []⟩,
  ⟨some (2+100), .assign (T 4), 0, none, []⟩]) (
 .ret)))
def zih (N : Nums) (A : zdp) : C :=
 .seq (
 .ops [
  ⟨some (2+100), .assign (.const (.slice none 0 0)), 0, none, []⟩]) (
 .seq (
 .ops [
  ⟨some 0, .move (V 0), 0, none, []⟩,
  ⟨some 1, .move (V 1), 0, none, []⟩,
  ⟨some 2, .convert N.ze N.zcg (T 1), 0, none, []⟩,
  ⟨some 3, .call ⟨.value (.func A.zcu), #[T 0, T 2], #[N.za, N.zcg]⟩, N.za, none, []⟩,
  ⟨some (2+100), .assign (T 3), 0, none, []⟩]) (
 .ret))
def zfd (N : Nums) (A : zdp) : C :=
 .seq (
 .ops [
  ⟨some (2+100), .assign (.const (.slice none 0 0)), 0, none, []⟩]) (
 .seq (
 .ops [
  ⟨some 0, .move (V 0), 0, none, []⟩,
  ⟨some 1, .move (V 1), 0, none, []⟩,
  ⟨some 2, .convert N.ze N.zb (T 1), 0, none, []⟩,
  ⟨some 3, .binOp .add N.zb (.const (.int .u32 1)) (T 2) N.zb, 0, none, []⟩,
  ⟨some 4, .call ⟨.value (.func A.zdb), #[T 0, T 3], #[N.za, N.zb]⟩, N.za, none, []⟩,
  ⟨some (2+100), .assign (T 4), 0, none, []⟩]) (
 .ret))
def zev (N : Nums) (A : zdp) : C :=
 .seq (
 .ops [
  ⟨some (3+100), .assign (.const (.slice none 0 0)), 0, none, []⟩]) (
 .seq (
 .seq (
 .ops [
  ⟨some (4+100), .move (V 2), 0, none, []⟩]) (
 .cond 4 (
  .seq (
  .ops [
   ⟨some 0, .move (V 0), 0, none, []⟩,
   ⟨some 1, .call ⟨.value (.func A.zcu), #[(T 0), (.const (.int .i32 (-1)))], #[N.za, N.zcg]⟩, N.za, none, []⟩,
   ⟨some (3+100), .assign (T 1), 0, none, []⟩]) (
  .ret)) (
  .skip))) (
 .seq (
 .ops [
  ⟨some 0, .move (V 0), 0, none, []⟩,
  ⟨some 1, .move (V 1), 0, none, []⟩,
  ⟨some 2, .convert N.ze N.zcg (T 1), 0, none, []⟩,
  ⟨some 3, .call ⟨.value (.func A.zcu), #[T 0, T 2], #[N.za, N.zcg]⟩, N.za, none, []⟩,
  ⟨some (3+100), .assign (T 3), 0, none, []⟩]) (
 .ret)))
def zdm (N : Nums) (A : zdp) : C :=
 .seq (
 .ops [
  ⟨some (3+100), .assign (.const (.slice none 0 0)), 0, none, []⟩]) (
 .seq (
 .seq (
 .ops [
  ⟨some (4+100), .move (V 2), 0, none, []⟩]) (
 .cond 4 (
  .seq (
  .ops [
   ⟨some 0, .move (V 0), 0, none, []⟩,
   ⟨some 1, .call ⟨.value (.func A.zdb), #[(T 0), (.const (.int .u32 0))], #[N.za, N.zb]⟩, N.za, none, []⟩,
   ⟨some (3+100), .assign (T 1), 0, none, []⟩]) (
  .ret)) (
  .skip))) (
 .seq (
 .ops [
  ⟨some 0, .move (V 0), 0, none, []⟩,
  ⟨some 1, .move (V 1), 0, none, []⟩,
  ⟨some 2, .convert N.ze N.zb (T 1), 0, none, []⟩,
  ⟨some 3, .binOp .add N.zb (.const (.int .u32 1)) (T 2) N.zb, 0, none, []⟩,
  ⟨some 4, .call ⟨.value (.func A.zdb), #[T 0, T 3], #[N.za, N.zb]⟩, N.za, none, []⟩,
  ⟨some (3+100), .assign (T 4), 0, none, []⟩]) (
 .ret)))
def zhq (N : Nums) (A : zdp) : C :=
 .seq (
 .ops [
  ⟨some (2+100), .assign (.const (.slice none 0 0)), 0, none, []⟩]) (
 .seq (
 .ops [
  ⟨some 0, .move (V 0), 0, none, []⟩,
  ⟨some 1, .move (V 1), 0, none, []⟩,
  ⟨some 2, .binOp .shr N.zaa (T 1) (.const (.int .u64 56)) N.zcd, 0, none, []⟩,
  ⟨some 3, .convert N.zaa N.zg (T 2), 0, none, []⟩,
  ⟨some 4, .move (V 1), 0, none, []⟩,
  ⟨some 5, .binOp .shr N.zaa (T 4) (.const (.int .u64 48)) N.zcd, 0, none, []⟩,
  ⟨some 6, .convert N.zaa N.zg (T 5), 0, none, []⟩,
  ⟨some 7, .move (V 1), 0, none, []⟩,
  ⟨some 8, .binOp .shr N.zaa (T 7) (.const (.int .u64 40)) N.zcd, 0, none, []⟩,
  ⟨some 9, .convert N.zaa N.zg (T 8), 0, none, []⟩,
  ⟨some 10, .move (V 1), 0, none, []⟩,
  ⟨some 11, .binOp .shr N.zaa (T 10) (.const (.int .u64 32)) N.zcd, 0, none, []⟩,
  ⟨some 12, .convert N.zaa N.zg (T 11), 0, none, []⟩,
  ⟨some 13, .move (V 1), 0, none, []⟩,
  ⟨some 14, .binOp .shr N.zaa (T 13) (.const (.int .u64 24)) N.zcd, 0, none, []⟩,
  ⟨some 15, .convert N.zaa N.zg (T 14), 0, none, []⟩,
  ⟨some 16, .move (V 1), 0, none, []⟩,
  ⟨some 17, .binOp .shr N.zaa (T 16) (.const (.int .u64 16)) N.zcd, 0, none, []⟩,
  ⟨some 18, .convert N.zaa N.zg (T 17), 0, none, []⟩,
  ⟨some 19, .move (V 1), 0, none, []⟩,
  ⟨some 20, .binOp .shr N.zaa (T 19) (.const (.int .u64 8)) N.zcd, 0, none, []⟩,
  ⟨some 21, .convert N.zaa N.zg (T 20), 0, none, []⟩,
  ⟨some 22, .move (V 1), 0, none, []⟩,
  ⟨some 23, .convert N.zaa N.zg (T 22), 0, none, []⟩,
  ⟨some 24, .buildSlice N.za 8 #[(0, (T 3)), (1, (T 6)), (2, (T 9)), (3, (T 12)), (4, (T 15)), (5, (T 18)), (6, (T 21)), (7, (T 23))], 0, none, []⟩,
  ⟨some 25, .call ⟨.builtin .append, #[T 0, T 24], #[N.za, N.za]⟩, N.za, none, []⟩,
  ⟨some (2+100), .assign (T 25), 0, none, []⟩]) (
 .ret))
def zmh (N : Nums) (A : zdp) : C :=
 .seq (
 .ops [
  ⟨some (1+100), .assign (.const (.int .i64 0)), 0, none, []⟩]) (
 .seq (
 .ops [
  ⟨some 0, .move (V 0), 0, none, []⟩,
  ⟨some 1, .call ⟨.value (.func A.zeb), #[T 0], #[N.zb]⟩, N.ze, none, []⟩,
  ⟨some 2, .convert N.ze N.zg (T 1), 0, none, []⟩,
  ⟨some 3, .index N.zai (.const (.string ⟨#[1, 1, 1, 1, 1, 1, 1, 1, 2, 2, 2, 2, 2, 2, 2, 3, 3, 3, 3, 3, 3, 3, 4, 4, 4, 4, 4, 4, 4, 5, 5, 5, 5, 5, 5, 5, 6, 6, 6, 6, 6, 6, 6, 7, 7, 7, 7, 7, 7, 7, 8, 8, 8, 8, 8, 8, 8, 9, 9, 9, 9, 9, 9, 9, 10, 0, 0, 0, 0, 0, 0, 0, 0, 0, 0, 0, 0, 0, 0, 0, 0, 0, 0, 0, 0, 0, 0, 0, 0, 0, 0, 0, 0, 0, 0, 0, 0, 0, 0, 0, 0, 0, 0, 0, 0, 0, 0, 0, 0, 0, 0, 0, 0, 0, 0, 0, 0, 0, 0, 0, 0, 0, 0, 0, 0, 0, 0, 0, 0, 0, 0, 0, 0, 0, 0, 0, 0, 0, 0, 0, 0, 0, 0, 0, 0, 0, 0, 0, 0, 0, 0, 0, 0, 0, 0, 0, 0, 0, 0, 0, 0, 0, 0, 0, 0, 0, 0, 0, 0, 0, 0, 0, 0, 0, 0, 0, 0, 0, 0, 0, 0, 0, 0, 0, 0, 0, 0, 0, 0, 0, 0, 0, 0, 0, 0, 0, 0, 0, 0, 0, 0, 0, 0, 0, 0, 0, 0, 0, 0, 0, 0, 0, 0, 0, 0, 0, 0, 0, 0, 0, 0, 0, 0, 0, 0, 0, 0, 0, 0, 0, 0, 0, 0, 0, 0, 0, 0, 0, 0, 0, 0, 0, 0, 0, 0, 0, 0, 0, 0, 0, 0, 0, 0, 0, 0, 0]⟩)) (T 2), 0, none, []⟩,
  ⟨some 4, .convert N.zg N.ze (T 3), 0, none, []⟩,
  ⟨some (1+100), .assign (T 4), 0, none, []⟩]) (
 .ret))
def zfz (N : Nums) (A : zdp) : C :=
 .seq (
 .ops [
  ⟨some (1+100), .assign (.const (.int .i64 0)), 0, none, []⟩]) (
 .seq (
 .seq (
 .ops [
  ⟨some 0, .move (V 0), 0, none, []⟩,
  ⟨some (2+100), .binOp .geq N.zb (T 0) (.const (.int .u32 65536)) N.zb, 0, none, []⟩]) (
 .cond 2 (
  .seq (
  .ops [
   ⟨some 0, .move (V 0), 0, none, []⟩,
   ⟨some 1, .binOp .shr N.zb (T 0) (.const (.int .u64 16)) N.zcd, 0, none, []⟩,
   ⟨some (0+100), .assign (T 1), 0, none, []⟩]) (
  .ops [
   ⟨some (1+100), .assign (.const (.int .i64 16)), 0, none, []⟩])) (
  .skip))) (
 .seq (
 .seq (
 .ops [
  ⟨some 0, .move (V 0), 0, none, []⟩,
  ⟨some (3+100), .binOp .geq N.zb (T 0) (.const (.int .u32 256)) N.zb, 0, none, []⟩]) (
 .cond 3 (
  .seq (
  .ops [
   ⟨some 0, .move (V 0), 0, none, []⟩,
   ⟨some 1, .binOp .shr N.zb (T 0) (.const (.int .u64 8)) N.zcd, 0, none, []⟩,
   ⟨some (0+100), .assign (T 1), 0, none, []⟩]) (
  .ops [
   ⟨some 0, .move (V 1), 0, none, []⟩,
   ⟨some 1, .binOp .add N.ze (T 0) (.const (.int .i64 8)) N.ze, 0, none, []⟩,
   ⟨some (1+100), .assign (T 1), 0, none, []⟩])) (
  .skip))) (
 .seq (
 .ops [
  ⟨some 0, .move (V 1), 0, none, []⟩,
  ⟨some 1, .move (V 0), 0, none, []⟩,
  ⟨some 2, .convert N.zb N.zg (T 1), 0, none, []⟩,
  ⟨some 3, .index N.zai (.const (.string ⟨#[0, 1, 2, 2, 3, 3, 3, 3, 4, 4, 4, 4, 4, 4, 4, 4, 5, 5, 5, 5, 5, 5, 5, 5, 5, 5, 5, 5, 5, 5, 5, 5, 6, 6, 6, 6, 6, 6, 6, 6, 6, 6, 6, 6, 6, 6, 6, 6, 6, 6, 6, 6, 6, 6, 6, 6, 6, 6, 6, 6, 6, 6, 6, 6, 7, 7, 7, 7, 7, 7, 7, 7, 7, 7, 7, 7, 7, 7, 7, 7, 7, 7, 7, 7, 7, 7, 7, 7, 7, 7, 7, 7, 7, 7, 7, 7, 7, 7, 7, 7, 7, 7, 7, 7, 7, 7, 7, 7, 7, 7, 7, 7, 7, 7, 7, 7, 7, 7, 7, 7, 7, 7, 7, 7, 7, 7, 7, 7, 8, 8, 8, 8, 8, 8, 8, 8, 8, 8, 8, 8, 8, 8, 8, 8, 8, 8, 8, 8, 8, 8, 8, 8, 8, 8, 8, 8, 8, 8, 8, 8, 8, 8, 8, 8, 8, 8, 8, 8, 8, 8, 8, 8, 8, 8, 8, 8, 8, 8, 8, 8, 8, 8, 8, 8, 8, 8, 8, 8, 8, 8, 8, 8, 8, 8, 8, 8, 8, 8, 8, 8, 8, 8, 8, 8, 8, 8, 8, 8, 8, 8, 8, 8, 8, 8, 8, 8, 8, 8, 8, 8, 8, 8, 8, 8, 8, 8, 8, 8, 8, 8, 8, 8, 8, 8, 8, 8, 8, 8, 8, 8, 8, 8, 8, 8, 8, 8, 8, 8, 8, 8, 8, 8, 8, 8, 8, 8]⟩)) (T 2), 0, none, []⟩,
  ⟨some 4, .convert N.zg N.ze (T 3), 0, none, []⟩,
  ⟨some 5, .binOp .add N.ze (T 0) (T 4) N.ze, 0, none, []⟩,
  ⟨some (1+100), .assign (T 5), 0, none, []⟩]) (
 .ret))))
def zlg (N : Nums) (A : zdp) : C :=
 .seq (
 .ops [
  ⟨some (1+100), .assign (.const (.int .i64 0)), 0, none, []⟩]) (
 .seq (
 .ops [
  ⟨some 0, .move (V 0), 0, none, []⟩,
  ⟨some 1, .nilCheck (T 0), 0, none, []⟩,
  ⟨some 2, .fieldAddr N.zdf (T 1) 0, 0, none, []⟩,
  ⟨some 3, .load N.zp (T 2), 0, none, []⟩,
  ⟨some 4, .call ⟨.builtin .len, #[T 3], #[N.zp]⟩, N.ze, none, []⟩,
  ⟨some (1+100), .assign (T 4), 0, none, []⟩]) (
 .ret))
def zfn (N : Nums) (A : zdp) : C :=
 .seq (
 .ops [
  ⟨some (2+100), .box N.za (V 1), 0, none, []⟩,
  ⟨some (3+100), .assign (.const (.slice none 0 0)), 0, none, []⟩]) (
 .seq (
 .ops [
  ⟨some 0, .move (V 0), 0, none, []⟩,
  ⟨some 1, .makeFunc (.func A.zcx) #[] #[V 2], 0, none, []⟩,
  ⟨some 2, .call ⟨.value (.func N.zgp), #[T 0, T 1], #[A.t_PTags, N.znc]⟩, N.t_, none, []⟩]) (
 .seq (
 .ops [
  ⟨some 0, .load N.za (V 2), 0, none, []⟩,
  ⟨some (3+100), .assign (T 0), 0, none, []⟩]) (
 .ret)))
def zdx (N : Nums) (A : zdp) : C :=
 .seq (
 .ops [
  ⟨some 0, .load N.za (V 2), 0, none, []⟩,
  ⟨some 1, .move (V 0), 0, none, []⟩,
  ⟨some 2, .call ⟨.value (.func A.zdb), #[T 0, T 1], #[N.za, N.zb]⟩, N.za, none, []⟩,
  ⟨none, .store N.za (V 2) (T 2), 0, none, []⟩]) (
 .seq (
 .ops [
  ⟨some 0, .load N.za (V 2), 0, none, []⟩,
  ⟨some 1, .move (V 1), 0, none, []⟩,
  ⟨some 2, .call ⟨.builtin .len, #[T 1], #[N.za]⟩, N.ze, none, []⟩,
  ⟨some 3, .convert N.ze N.zb (T 2), 0, none, []⟩,
  ⟨some 4, .call ⟨.value (.func A.zdb), #[T 0, T 3], #[N.za, N.zb]⟩, N.za, none, []⟩,
  ⟨none, .store N.za (V 2) (T 4), 0, none, []⟩]) (
 .ops [
  ⟨some 0, .load N.za (V 2), 0, none, []⟩,
  ⟨some 1, .move (V 1), 0, none, []⟩,
  ⟨some 2, .call ⟨.builtin .append, #[T 0, T 1], #[N.za, N.za]⟩, N.za, none, []⟩,
  ⟨none, .store N.za (V 2) (T 2), 0, none, []⟩]))
structure Apd (w : World) (lo : Nat) (v : Value) (l s : List UInt8) (v' : Value) (w' : World) : Prop where
 own : OwnB w' lo v' (l ++ s)
 mod : Mod w w' (fun k _ => ¬ zby v k)
 keep : ∀ k, k < w.heap.size → zby v k → zby v' k
theorem Apd.trans {w w1 w2 : World} {lo : Nat} {l s s' : List UInt8} {v v1 v2 : Value} (h1 : Apd w lo v l s v1 w1) (h2 : Apd w1 lo v1 (l ++ s) s' v2 w2) : Apd w lo v l (s ++ s') v2 w2 :=
 ⟨by rw [← List.append_assoc]; exact h2.own, h1.mod.trans h2.mod fun k _ hk h => h.elim id fun h hn => h (h1.keep k hk hn), fun k hk hn => h2.keep k (Nat.lt_of_lt_of_le hk h1.mod.size) (h1.keep k hk hn)⟩
theorem Apd.after {w w1 w2 : World} {lo : Nat} {l s : List UInt8} {v v' : Value} (m : Mod w w1 zad) (h : Apd w1 lo v l s v' w2) : Apd w lo v l s v' w2 :=
 ⟨h.own, m.trans h.mod fun _ _ _ h => h.elim False.elim id, fun k hk hn => h.keep k (Nat.lt_of_lt_of_le hk m.size) hn⟩
theorem Apd.low {w w' : World} {lo : Nat} {l s : List UInt8} {v v' : Value} (ho : OwnB w lo v l) (h : Apd w lo v l s v' w') : Mod w w' (fun k _ => lo ≤ k) :=
 h.mod.mono fun _ _ _ h => (ho.blk h).1
section
variable {P : Program} {N : Nums} {A : zdp}
theorem zxg (n : Nat) : ((Array.range (n * 1)).map ((Value.int IntKind.u8 0).cells[· % (Value.int IntKind.u8 0).cells.size]!)) = Array.replicate n (.int .u8 0) := by
 apply Array.ext
 ·simp
 ·intro i h1 h2
  simp [Value.cells, Nat.mod_one]
theorem run_bsL2 (B : Base P N) {w : World} {a b : UInt8} : (Instr.buildSlice N.za 2 #[(0, zy a), (1, zy b)]).run P w = .ok (.slice (some ⟨w.heap.size, 0, none⟩) 2 2) (w.alloc (.cells ([a, b].map zy).toArray N.zg)) := by
 obtain ⟨i, hi, h1, h2, h3⟩ := B.uint8.info
 refine run_buildSlice w _ _ 2 _ _ i _ B.Lu8.und hi h3 (by omega) (by omega) ?_
 rw [h1, zxg, show Array.replicate 2 (Value.int IntKind.u8 0) = #[.int .u8 0, .int .u8 0] from rfl]
 simp [Instr.fill, zy, Value.cells]
theorem run_bsL3 (B : Base P N) {w : World} {a b c : UInt8} : (Instr.buildSlice N.za 3 #[(0, zy a), (1, zy b), (2, zy c)]).run P w = .ok (.slice (some ⟨w.heap.size, 0, none⟩) 3 3) (w.alloc (.cells ([a, b, c].map zy).toArray N.zg)) := by
 obtain ⟨i, hi, h1, h2, h3⟩ := B.uint8.info
 refine run_buildSlice w _ _ 3 _ _ i _ B.Lu8.und hi h3 (by omega) (by omega) ?_
 rw [h1, zxg, show Array.replicate 3 (Value.int IntKind.u8 0) = #[.int .u8 0, .int .u8 0, .int .u8 0] from rfl]
 simp [Instr.fill, zy, Value.cells]
theorem run_bsL4 (B : Base P N) {w : World} {a b c d : UInt8} : (Instr.buildSlice N.za 4 #[(0, zy a), (1, zy b), (2, zy c), (3, zy d)]).run P w = .ok (.slice (some ⟨w.heap.size, 0, none⟩) 4 4) (w.alloc (.cells ([a, b, c, d].map zy).toArray N.zg)) := by
 obtain ⟨i, hi, h1, h2, h3⟩ := B.uint8.info
 refine run_buildSlice w _ _ 4 _ _ i _ B.Lu8.und hi h3 (by omega) (by omega) ?_
 rw [h1, zxg, show Array.replicate 4 (Value.int IntKind.u8 0) = #[.int .u8 0, .int .u8 0, .int .u8 0, .int .u8 0] from rfl]
 simp [Instr.fill, zy, Value.cells]
theorem run_bsL5 (B : Base P N) {w : World} {a b c d e : UInt8} : (Instr.buildSlice N.za 5 #[(0, zy a), (1, zy b), (2, zy c), (3, zy d), (4, zy e)]).run P w = .ok (.slice (some ⟨w.heap.size, 0, none⟩) 5 5) (w.alloc (.cells ([a, b, c, d, e].map zy).toArray N.zg)) := by
 obtain ⟨i, hi, h1, h2, h3⟩ := B.uint8.info
 refine run_buildSlice w _ _ 5 _ _ i _ B.Lu8.und hi h3 (by omega) (by omega) ?_
 rw [h1, zxg, show Array.replicate 5 (Value.int IntKind.u8 0) = #[.int .u8 0, .int .u8 0, .int .u8 0, .int .u8 0, .int .u8 0] from rfl]
 simp [Instr.fill, zy, Value.cells]
theorem run_bsL8 (B : Base P N) {w : World} {a b c d e f g h : UInt8} : (Instr.buildSlice N.za 8 #[(0, zy a), (1, zy b), (2, zy c), (3, zy d), (4, zy e), (5, zy f), (6, zy g), (7, zy h)]).run P w = .ok (.slice (some ⟨w.heap.size, 0, none⟩) 8 8) (w.alloc (.cells ([a, b, c, d, e, f, g, h].map zy).toArray N.zg)) := by
 obtain ⟨i, hi, h1, h2, h3⟩ := B.uint8.info
 refine run_buildSlice w _ _ 8 _ _ i _ B.Lu8.und hi h3 (by omega) (by omega) ?_
 rw [h1, zxg, show Array.replicate 8 (Value.int IntKind.u8 0) = #[.int .u8 0, .int .u8 0, .int .u8 0, .int .u8 0, .int .u8 0, .int .u8 0, .int .u8 0, .int .u8 0] from rfl]
 simp [Instr.fill, zy, Value.cells]
theorem zjc (B : Base P N) {w : World} {lo : Nat} {v : Value} {l s : List UInt8} (ho : OwnB w lo v l) (hlo : lo ≤ w.heap.size) (hb : l.length + s.length < 1099511627776) {ty : TypeId} :
  ∃ v' w', (Builtin.append_ #[N.za, N.za] ty #[v, .slice (some ⟨w.heap.size, 0, none⟩) s.length s.length]).run P (w.alloc (.cells (s.map zy).toArray N.zg)) = .ok v' w' ∧ Apd w lo v l s v' w' := by
 obtain ⟨w1, hw1⟩ : ∃ w1, w1 = w.alloc (.cells (s.map zy).toArray N.zg) := ⟨_, rfl⟩
 have m1 : Mod w w1 zad := by rw [hw1]; exact Mod.alloc _ _ _
 have s1 : w1.heap.size = w.heap.size + 1 := by rw [hw1]; exact zau _ _
 have r1 : w1.rangeAt w.heap.size 0 (s.map zy) := by rw [hw1]; exact zz w (s.map zy).toArray N.zg (0, 0)
 rw [← hw1]
 have ho1 : OwnB w1 lo v l := Own.stay m1 (fun _ _ _ h => h) ho
 obtain ⟨v', w', h1, h2, h3, h4⟩ := zfb (ty := ty) B ho1 (src := .slice (some ⟨w.heap.size, 0, none⟩) s.length s.length) (s := s) (.inr ⟨w.heap.size, 0, s.length, rfl, Nat.le_refl _, r1⟩) (by omega) hb
 exact ⟨v', w', h1, Apd.after m1 ⟨h2, h3, h4⟩⟩
def ApF (P : Program) (f : FuncId) (x : Value) (s : List UInt8) : Prop := ∀ {w : World} {lo : Nat} {v : Value} {l : List UInt8}, OwnB w lo v l → lo ≤ w.heap.size → l.length + s.length < 1099511627776 → Call P f #[v, x] w (Apd w lo v l s)
def u8of (n : Int) : UInt8 := UInt8.ofNat (IntKind.u8.wrap n).toNat
theorem zrp (n : Int) : Value.int .u8 (IntKind.u8.wrap n) = zy (u8of n) := by
 unfold zy u8of
 rw [zoi, UInt8.toNat_ofNat']
 congr 1
 omega
theorem fixB2 (n : Int) : [u8of (n.fdiv (2 ^ min 8 IntKind.u16.bits)), u8of n] = fixB n 2 := by
 have e : n.fdiv 1 = n := Int.fdiv_one n
 simp only [fixB, u8of, Nat.mul_zero, Int.pow_zero, e]
 rfl
theorem zyi (B : Base P N) (h : FOk P A.zdo 2 (zeq N A) [.var 2]) (n : Int) : ApF P A.zdo (.int .u16 n) (fixB n 2) := by
 intro w lo v l ho hlo hb
 refine h.call rfl fun loc N' hlo' => ?_
 unfold zeq
 refine zd fun K hK => zj fun τ => ?_
 simp +decide only [bK, Nat.reduceAdd]
 refine hK _ _ (zc fun σ1 hσ => ?_)
 have a0 := hσ 0
 have a1 := hσ 1
 simp +decide only [bE, Nat.reduceBeqDiff, Nat.reduceAdd, Nat.zero_add, zdc, zcm] at a0 a1
 clear hσ hK K
 have e6 : ∀ ρ : Env, (#[(0, T 3), (1, T 5)] : Array (Nat × Operand)).map (fun p => (p.1, ev ρ p.2)) = #[(0, ρ 3), (1, ρ 5)] := fun ρ => by simp
 obtain ⟨v', w', h1, h2⟩ := zjc (ty := N.za) (s := [u8of (n.fdiv (2 ^ min 8 IntKind.u16.bits)), u8of n]) B ho hlo hb
 refine zd fun K hK => zj fun τ => ?_
 simp +decide only [bK, bE, Nat.reduceBeqDiff, BEq.rfl, Nat.reduceAdd, Int.reduceToNat, Nat.zero_add, a0, a1, e6, zdu (show (0 : Int) ≤ 8 by decide), zaq B.uint16 B.uint8 ⟨_, rfl⟩, zrp, run_bsL2 B]
 have h1 : (Builtin.append_ #[N.za, N.za] N.za #[v, .slice (some ⟨w.heap.size, 0, none⟩) 2 2]).run P (w.alloc (.cells ([u8of (n.fdiv (2 ^ min 8 IntKind.u16.bits)), u8of n].map zy).toArray N.zg)) = .ok v' w' := h1
 simp +decide only [bK, h1]
 refine hK _ _ (zc fun σ2 hσ => zay ?_)
 have b2 := hσ 2
 simp +decide only [bE, BEq.rfl, Nat.reduceAdd] at b2
 exact ⟨.inr rfl, _, rfl, by rw [b2, ← fixB2]; exact h2⟩
end
def lensS : ByteArray := ⟨#[1, 1, 1, 1, 1, 1, 1, 1, 2, 2, 2, 2, 2, 2, 2, 3, 3, 3, 3, 3, 3, 3, 4, 4, 4, 4, 4, 4, 4, 5, 5, 5, 5, 5, 5, 5, 6, 6, 6, 6, 6, 6, 6, 7, 7, 7, 7, 7, 7, 7, 8, 8, 8, 8, 8, 8, 8, 9, 9, 9, 9, 9, 9, 9, 10, 0, 0, 0, 0, 0, 0, 0, 0, 0, 0, 0, 0, 0, 0, 0, 0, 0, 0, 0, 0, 0, 0, 0, 0, 0, 0, 0, 0, 0, 0, 0, 0, 0, 0, 0, 0, 0, 0, 0, 0, 0, 0, 0, 0, 0, 0, 0, 0, 0, 0, 0, 0, 0, 0, 0, 0, 0, 0, 0, 0, 0, 0, 0, 0, 0, 0, 0, 0, 0, 0, 0, 0, 0, 0, 0, 0, 0, 0, 0, 0, 0, 0, 0, 0, 0, 0, 0, 0, 0, 0, 0, 0, 0, 0, 0, 0, 0, 0, 0, 0, 0, 0, 0, 0, 0, 0, 0, 0, 0, 0, 0, 0, 0, 0, 0, 0, 0, 0, 0, 0, 0, 0, 0, 0, 0, 0, 0, 0, 0, 0, 0, 0, 0, 0, 0, 0, 0, 0, 0, 0, 0, 0, 0, 0, 0, 0, 0, 0, 0, 0, 0, 0, 0, 0, 0, 0, 0, 0, 0, 0, 0, 0, 0, 0, 0, 0, 0, 0, 0, 0, 0, 0, 0, 0, 0, 0, 0, 0, 0, 0, 0, 0, 0, 0, 0, 0, 0, 0, 0, 0, 0]⟩
def tabS : ByteArray := ⟨#[0, 1, 2, 2, 3, 3, 3, 3, 4, 4, 4, 4, 4, 4, 4, 4, 5, 5, 5, 5, 5, 5, 5, 5, 5, 5, 5, 5, 5, 5, 5, 5, 6, 6, 6, 6, 6, 6, 6, 6, 6, 6, 6, 6, 6, 6, 6, 6, 6, 6, 6, 6, 6, 6, 6, 6, 6, 6, 6, 6, 6, 6, 6, 6, 7, 7, 7, 7, 7, 7, 7, 7, 7, 7, 7, 7, 7, 7, 7, 7, 7, 7, 7, 7, 7, 7, 7, 7, 7, 7, 7, 7, 7, 7, 7, 7, 7, 7, 7, 7, 7, 7, 7, 7, 7, 7, 7, 7, 7, 7, 7, 7, 7, 7, 7, 7, 7, 7, 7, 7, 7, 7, 7, 7, 7, 7, 7, 7, 8, 8, 8, 8, 8, 8, 8, 8, 8, 8, 8, 8, 8, 8, 8, 8, 8, 8, 8, 8, 8, 8, 8, 8, 8, 8, 8, 8, 8, 8, 8, 8, 8, 8, 8, 8, 8, 8, 8, 8, 8, 8, 8, 8, 8, 8, 8, 8, 8, 8, 8, 8, 8, 8, 8, 8, 8, 8, 8, 8, 8, 8, 8, 8, 8, 8, 8, 8, 8, 8, 8, 8, 8, 8, 8, 8, 8, 8, 8, 8, 8, 8, 8, 8, 8, 8, 8, 8, 8, 8, 8, 8, 8, 8, 8, 8, 8, 8, 8, 8, 8, 8, 8, 8, 8, 8, 8, 8, 8, 8, 8, 8, 8, 8, 8, 8, 8, 8, 8, 8, 8, 8, 8, 8, 8, 8, 8, 8]⟩
theorem lens_size : lensS.data.size = 256 := by kernel_rfl
theorem tab_size : tabS.data.size = 256 := by kernel_rfl
def lensN (n : Nat) : Nat := (lensS.data.getD n 0).toNat
def tabN (n : Nat) : Nat := (tabS.data.getD n 0).toNat
def zkl (n : Nat) : Nat := if 65536 ≤ n then (if 256 ≤ n / 65536 then 24 + tabN (n / 65536 / 256) else 16 + tabN (n / 65536)) else if 256 ≤ n then 8 + tabN (n / 256) else tabN n
theorem lens_0 : ((List.range 256).all fun x => lensN (tabN x) == if x < 128 then 1 else 2) = true := by decide +kernel
theorem lens_8 : ((List.range 256).all fun x => x == 0 || lensN (8 + tabN x) == if x < 64 then 2 else 3) = true := by decide +kernel
theorem lens_16 : ((List.range 256).all fun x => x == 0 || lensN (16 + tabN x) == if x < 32 then 3 else 4) = true := by decide +kernel
theorem lens_24 : ((List.range 256).all fun x => x == 0 || lensN (24 + tabN x) == if x < 16 then 4 else 5) = true := by decide +kernel
theorem tab_8 : ((List.range 256).all fun x => Nat.ble (tabN x) 8) = true := by decide +kernel
def zkb (n : Nat) : Nat := if n < 128 then 1 else if n < 16384 then 2 else if n < 2097152 then 3 else if n < 268435456 then 4 else 5
theorem zyn {p : Nat → Bool} (h : ((List.range 256).all p) = true) {x : Nat} (hx : x < 256) : p x = true := List.all_eq_true.1 h x (List.mem_range.2 hx)
theorem lens_len {n : Nat} (hn : n < 4294967296) : lensN (zkl n) = zkb n := by
 unfold zkl zkb
 by_cases h1 : 65536 ≤ n
 ·rw [if_pos h1]
  by_cases h2 : 256 ≤ n / 65536
  ·rw [if_pos h2]
   have := zyn lens_24 (x := n / 65536 / 256) (by omega)
   have h0 : (n / 65536 / 256 == 0) = false := by simp; omega
   simp only [h0, Bool.false_or, beq_iff_eq] at this
   rw [this]
   have e : n / 65536 / 256 = n / 16777216 := by omega
   rw [e]
   rw [if_neg (show ¬ n < 128 by omega), if_neg (show ¬ n < 16384 by omega), if_neg (show ¬ n < 2097152 by omega)]
   by_cases h3 : n < 268435456
   ·rw [if_pos h3, if_pos (by omega)]
   ·rw [if_neg h3, if_neg (by omega)]
  ·rw [if_neg h2]
   have := zyn lens_16 (x := n / 65536) (by omega)
   have h0 : (n / 65536 == 0) = false := by simp; omega
   simp only [h0, Bool.false_or, beq_iff_eq] at this
   rw [this, if_neg (show ¬ n < 128 by omega), if_neg (show ¬ n < 16384 by omega)]
   by_cases h3 : n < 2097152
   ·rw [if_pos h3, if_pos (by omega)]
   ·rw [if_neg h3, if_neg (by omega), if_pos (by omega)]
 ·rw [if_neg h1]
  by_cases h2 : 256 ≤ n
  ·rw [if_pos h2]
   have := zyn lens_8 (x := n / 256) (by omega)
   have h0 : (n / 256 == 0) = false := by simp; omega
   simp only [h0, Bool.false_or, beq_iff_eq] at this
   rw [this, if_neg (show ¬ n < 128 by omega)]
   by_cases h3 : n < 16384
   ·rw [if_pos h3, if_pos (by omega)]
   ·rw [if_neg h3, if_neg (by omega), if_pos (by omega)]
  ·rw [if_neg h2]
   have := zyn lens_0 (x := n) (by omega)
   simp only [beq_iff_eq] at this
   rw [this]
   by_cases h3 : n < 128
   ·rw [if_pos h3, if_pos h3]
   ·rw [if_neg h3, if_neg h3, if_pos (by omega)]
theorem zxb {P : Program} {t : TypeId} {sz by' : Nat} {z : Value} (h : TI P t .string sz by' z) {w : World} {s : ByteArray} {k : IntKind} {i : Nat} (hi : i < s.data.size) : (Instr.index t (.string s) (.int k i)).run P w = .ok (.int .u8 (s.data.getD i 0).toNat) w := by
 have e : s[i]? = some (s.data.getD i 0) := by
  show s.data[i]? = _
  rw [Array.getElem?_eq_getElem hi, Array.getD_eq_getD_getElem?, Array.getElem?_eq_getElem hi]; rfl
 simp [Instr.index, Sem.run_bind, h.run_und, asIntOf, e]
section
variable (N : Nums) (A : zdp)
def cL1 : C := .seq (.ops [⟨some 0, .move (V 0), 0, none, []⟩, ⟨some 102, .binOp .geq N.zb (T 0) (.const (.int .u32 65536)) N.zb, 0, none, []⟩])
 (.cond 2 (.seq (.ops [⟨some 0, .move (V 0), 0, none, []⟩, ⟨some 1, .binOp .shr N.zb (T 0) (.const (.int .u64 16)) N.zcd, 0, none, []⟩, ⟨some 100, .assign (T 1), 0, none, []⟩]) (.ops [⟨some 101, .assign (.const (.int .i64 16)), 0, none, []⟩])) .skip)
def cL2 : C := .seq (.ops [⟨some 0, .move (V 0), 0, none, []⟩, ⟨some 103, .binOp .geq N.zb (T 0) (.const (.int .u32 256)) N.zb, 0, none, []⟩])
 (.cond 3 (.seq (.ops [⟨some 0, .move (V 0), 0, none, []⟩, ⟨some 1, .binOp .shr N.zb (T 0) (.const (.int .u64 8)) N.zcd, 0, none, []⟩, ⟨some 100, .assign (T 1), 0, none, []⟩]) (.ops [⟨some 0, .move (V 1), 0, none, []⟩, ⟨some 1, .binOp .add N.ze (T 0) (.const (.int .i64 8)) N.ze, 0, none, []⟩, ⟨some 101, .assign (T 1), 0, none, []⟩])) .skip)
def cL3 (s : ByteArray) : C := .seq (.ops [⟨some 0, .move (V 1), 0, none, []⟩, ⟨some 1, .move (V 0), 0, none, []⟩, ⟨some 2, .convert N.zb N.zg (T 1), 0, none, []⟩, ⟨some 3, .index N.zai (.const (.string s)) (T 2), 0, none, []⟩, ⟨some 4, .convert N.zg N.ze (T 3), 0, none, []⟩,
 ⟨some 5, .binOp .add N.ze (T 0) (T 4) N.ze, 0, none, []⟩, ⟨some 101, .assign (T 5), 0, none, []⟩]) .ret
theorem c_Len32_eq : zfz N A = .seq (.ops [⟨some 101, .assign (.const (.int .i64 0)), 0, none, []⟩]) (.seq (cL1 N) (.seq (cL2 N) (cL3 N tabS))) := rfl
def cUl (s : ByteArray) : C := .seq (.ops [⟨some 101, .assign (.const (.int .i64 0)), 0, none, []⟩]) (.seq (.ops [⟨some 0, .move (V 0), 0, none, []⟩, ⟨some 1, .call ⟨.value (.func A.zeb), #[T 0], #[N.zb]⟩, N.ze, none, []⟩, ⟨some 2, .convert N.ze N.zg (T 1), 0, none, []⟩,
 ⟨some 3, .index N.zai (.const (.string s)) (T 2), 0, none, []⟩, ⟨some 4, .convert N.zg N.ze (T 3), 0, none, []⟩, ⟨some 101, .assign (T 4), 0, none, []⟩]) .ret)
theorem c_Ul_eq : zmh N A = cUl N A lensS := rfl
end
section
variable {P : Program} {N : Nums} {A : zdp}
theorem ztx {m : Nat} (hm : m < 256) : tabN m ≤ 8 := by
 have := zyn tab_8 hm
 simpa using this
theorem W_L3 (B : Base P N) {s : ByteArray} {loc : List Nat} {N' : Nat} {Q : Value → World → Prop} {σ : Env} {w : World} {m r : Nat} (h0 : σ 0 = .int .u32 m) (h1 : σ 1 = .int .i64 r) (hm : m < s.data.size) {t : Nat} (hs : (s.data.getD m 0).toNat = t) (ht : t ≤ 8) (hm2 : m < 256) (hr : r ≤ 24) (hQ : Q (.int .i64 ((r + t : Nat) : Int)) w) :
  W P loc N' (cL3 N s) (retQ P [.var 1] Q) σ w := by
 unfold cL3
 have hw8 : IntKind.u8.wrap (m : Int) = m := by rw [zoi]; omega
 have hwi : IntKind.i64.wrap (t : Int) = (t : Int) := zem (by omega) (by omega)
 have hadd : IntKind.i64.wrap ((r : Int) + (t : Int)) = ((r + t : Nat) : Int) := by rw [zem (by omega) (by omega)]; omega
 have hix := fun {w : World} => zxb (P := P) (w := w) (k := .u8) B.string hm
 rw [hs] at hix
 refine zd fun K hK => zj fun τ => ?_
 simp +decide only [bK, bE, Nat.reduceBeqDiff, BEq.rfl, Nat.reduceAdd, Nat.zero_add, h0, h1, zaq B.uint32 B.uint8 ⟨_, rfl⟩, hw8, zua, hix, zaq B.uint8 B.int ⟨_, rfl⟩, hwi, hadd]
 refine hK _ _ (zc fun σ1 hσ => zay ?_)
 have a1 := hσ 1
 simp +decide only [bE, BEq.rfl, Nat.reduceAdd] at a1
 exact ⟨.inr rfl, _, rfl, by rw [a1]; exact hQ⟩
theorem call_Len32 (B : Base P N) (h : FOk P A.zeb 1 (zfz N A) [.var 1]) (w : World) {n : Nat} (hn : n < 4294967296) : Call P A.zeb #[.int .u32 n] w fun v w' => v = .int .i64 (zkl n : Nat) ∧ w = w' := by
 refine h.call rfl fun loc N' hlo => ?_
 rw [c_Len32_eq]
 refine zd fun K hK => zj fun τ => ?_
 simp +decide only [bK]
 refine hK _ _ (zc fun σ1 hσ => ?_)
 have a0 := hσ 0
 have a1 := hσ 1
 simp +decide only [bE, Nat.reduceBeqDiff, BEq.rfl, Nat.reduceAdd, Nat.zero_add, zat] at a0 a1
 clear hσ hK K
 have s16 : ∀ m : Nat, ((m : Int)).fdiv (2 ^ min 16 IntKind.u32.bits) = ((m / 65536 : Nat) : Int) := fun m => by
  show ((m : Int)).fdiv 65536 = _
  rw [Int.fdiv_eq_ediv_of_nonneg _ (by decide)]; omega
 have s8 : ∀ m : Nat, ((m : Int)).fdiv (2 ^ min 8 IntKind.u32.bits) = ((m / 256 : Nat) : Int) := fun m => by
  show ((m : Int)).fdiv 256 = _
  rw [Int.fdiv_eq_ediv_of_nonneg _ (by decide)]; omega
 have half : ∀ {σ : Env} {m r : Nat}, σ 0 = .int .u32 m → σ 1 = .int .i64 r → m < 65536 → r ≤ 16 → ((if 256 ≤ m then r + 8 + tabN (m / 256) else r + tabN m) = zkl n) → W P loc N' (.seq (cL2 N) (cL3 N tabS)) (retQ P [.var 1] fun v w' => v = .int .i64 (zkl n : Nat) ∧ w = w') σ w := by
  intro σ m r h0 h1 hm hr he
  refine zd fun K hK => zd fun K1 hK1 => zj fun τ => ?_
  simp +decide only [bK, bE, BEq.rfl, Nat.zero_add, h0]
  refine hK1 _ _ (zc fun σ2 hσ => ?_)
  have b0 := hσ 0
  have b1 := hσ 1
  have b3 := hσ 3
  simp +decide only [bE, Nat.reduceBeqDiff, BEq.rfl, Nat.reduceAdd, Nat.zero_add, h0, h1] at b0 b1 b3
  clear hσ hK1 K1
  refine W_if hlo b3 ?_
  by_cases hc : 256 ≤ m
  ·rw [if_pos (by rw [decide_eq_true_eq]; omega)]
   rw [if_pos hc] at he
   refine zd fun K2 hK2 => zj fun τ => ?_
   simp +decide only [bK, bE, BEq.rfl, Int.reduceToNat, Nat.zero_add, b0, zdu (show (0 : Int) ≤ 8 by decide), s8]
   refine hK2 _ _ (zc fun σ3 hσ => ?_)
   have d0 := hσ 0
   have d1 := hσ 1
   simp +decide only [bE, Nat.reduceBeqDiff, BEq.rfl, Nat.reduceAdd, Nat.zero_add, b1] at d0 d1
   clear hσ hK2 K2
   have hadd : IntKind.i64.wrap ((r : Int) + 8) = ((r + 8 : Nat) : Int) := by rw [zem (by omega) (by omega)]; omega
   refine zj fun τ => ?_
   simp +decide only [bK, bE, BEq.rfl, Nat.reduceAdd, d1, hadd]
   refine hK _ _ (zc fun σ4 hσ => ?_)
   have e0 := hσ 0
   have e1 := hσ 1
   simp +decide only [bE, Nat.reduceBeqDiff, BEq.rfl, Nat.reduceAdd, Nat.zero_add, d0] at e0 e1
   have hx : m / 256 < 256 := by omega
   exact W_L3 B e0 e1 (by rw [tab_size]; exact hx) rfl (ztx hx) hx (by omega) ⟨by rw [← he]; rfl, rfl⟩
  ·rw [if_neg (by rw [decide_eq_true_eq]; omega)]
   rw [if_neg hc] at he
   refine zbe (hK _ _ ?_)
   have hx : m < 256 := by omega
   exact W_L3 B b0 b1 (by rw [tab_size]; exact hx) rfl (ztx hx) hx (by omega) ⟨by rw [← he]; rfl, rfl⟩
 refine zd fun K hK => zd fun K1 hK1 => zj fun τ => ?_
 simp +decide only [bK, bE, BEq.rfl, Nat.zero_add, a0]
 refine hK1 _ _ (zc fun σ2 hσ => ?_)
 have b0 := hσ 0
 have b1 := hσ 1
 have b2 := hσ 2
 simp +decide only [bE, Nat.reduceBeqDiff, BEq.rfl, Nat.reduceAdd, Nat.zero_add, a0, a1] at b0 b1 b2
 clear hσ hK1 K1
 refine W_if hlo b2 ?_
 by_cases hc : 65536 ≤ n
 ·rw [if_pos (by rw [decide_eq_true_eq]; omega)]
  refine zd fun K2 hK2 => zj fun τ => ?_
  simp +decide only [bK, bE, BEq.rfl, Int.reduceToNat, Nat.zero_add, b0, zdu (show (0 : Int) ≤ 16 by decide), s16]
  refine hK2 _ _ (zc fun σ3 hσ => ?_)
  have d0 := hσ 0
  simp +decide only [bE, BEq.rfl, Nat.zero_add] at d0
  clear hσ hK2 K2
  refine zj fun τ => ?_
  simp +decide only [bK]
  refine hK _ _ (zc fun σ4 hσ => ?_)
  have e0 := hσ 0
  have e1 := hσ 1
  simp +decide only [bE, Nat.reduceBeqDiff, BEq.rfl, Nat.reduceAdd, Nat.zero_add, d0] at e0 e1
  refine half (r := 16) e0 e1 (by omega) (by omega) ?_
  unfold zkl
  rw [if_pos hc]
 ·rw [if_neg (by rw [decide_eq_true_eq]; omega)]
  refine zbe (hK _ _ ?_)
  refine half (r := 0) b0 b1 (by omega) (by omega) ?_
  unfold zkl
  rw [if_neg hc]
  simp
theorem len32_le {n : Nat} (hn : n < 4294967296) : zkl n ≤ 32 := by
 unfold zkl
 split
 ·split
  ·have := ztx (m := n / 65536 / 256) (by omega); omega
  ·have := ztx (m := n / 65536) (by omega); omega
 ·split
  ·have := ztx (m := n / 256) (by omega); omega
  ·have := ztx (m := n) (by omega); omega
theorem call_Ul (B : Base P N) (h : FOk P A.zeb 1 (zfz N A) [.var 1]) (h2 : FOk P A.zia 1 (zmh N A) [.var 1]) (w : World) {n : Nat} (hn : n < 4294967296) : Call P A.zia #[.int .u32 n] w fun v w' => v = .int .i64 (zkb n : Nat) ∧ w = w' := by
 refine h2.call rfl fun loc N' hlo => ?_
 rw [c_Ul_eq]
 unfold cUl
 refine zd fun K hK => zj fun τ => ?_
 simp +decide only [bK]
 refine hK _ _ (zc fun σ1 hσ => ?_)
 have a0 := hσ 0
 simp +decide only [bE, Nat.reduceBeqDiff, Nat.zero_add, zat] at a0
 clear hσ hK K
 have hl := len32_le hn
 have hw8 : IntKind.u8.wrap ((zkl n : Nat) : Int) = (zkl n : Nat) := by rw [zoi]; omega
 have hll := lens_len hn
 have hu : zkb n ≤ 5 := by unfold zkb; split <;> (try split) <;> (try split) <;> (try split) <;> omega
 have hwi : IntKind.i64.wrap (zkb n : Int) = (zkb n : Int) := zem (by omega) (by omega)
 have hix := fun {w : World} => zxb (P := P) (w := w) (k := .u8) B.string (show zkl n < lensS.data.size by rw [lens_size]; omega)
 have hll : (lensS.data.getD (zkl n) 0).toNat = zkb n := hll
 rw [hll] at hix
 generalize lensS = s at hix ⊢
 refine zd fun K hK => zj fun τ => ?_
 simp +decide only [bK, bE, BEq.rfl, Nat.zero_add, a0]
 rw [zar h.has]
 simp +decide only [bK, bE, BEq.rfl]
 refine (call_Len32 B h w hn).mono ?_
 rintro _ w2 ⟨rfl, rfl⟩
 simp +decide only [bK, bE, BEq.rfl, zaq B.int B.uint8 ⟨_, rfl⟩, hw8, zua, hix, zaq B.uint8 B.int ⟨_, rfl⟩, hwi]
 refine hK _ _ (zc fun σ2 hσ => zay ?_)
 have b1 := hσ 1
 simp +decide only [bE, BEq.rfl, Nat.reduceAdd] at b1
 exact ⟨.inr rfl, _, rfl, by rw [b1], rfl⟩
end
section
variable (N : Nums) (A : zdp)
def cUv1 : C := .seq (.ops [⟨some 0, .move (V 0), 0, none, []⟩, ⟨some 1, .move (V 1), 0, none, []⟩, ⟨some 2, .convert N.zb N.zg (T 1), 0, none, []⟩, ⟨some 3, .buildSlice N.za 1 #[(0, T 2)], 0, none, []⟩, ⟨some 4, .call ⟨.builtin .append, #[T 0, T 3], #[N.za, N.za]⟩, N.za, none, []⟩, ⟨some 102, .assign (T 4), 0, none, []⟩]) .ret
def cUv2 : C := .seq (.ops [⟨some 0, .move (V 0), 0, none, []⟩, ⟨some 1, .move (V 1), 0, none, []⟩, ⟨some 2, .binOp .and N.zb (T 1) (.const (.int .u32 127)) N.zb, 0, none, []⟩, ⟨some 3, .binOp .or N.zb (T 2) (.const (.int .u32 128)) N.zb, 0, none, []⟩, ⟨some 4, .convert N.zb N.zg (T 3), 0, none, []⟩, ⟨some 5, .move (V 1), 0, none, []⟩, ⟨some 6, .binOp .shr N.zb (T 5) (.const (.int .u64 7)) N.zcd, 0, none, []⟩, ⟨some 7, .convert N.zb N.zg (T 6), 0, none, []⟩, ⟨some 8, .buildSlice N.za 2 #[(0, T 4), (1, T 7)], 0, none, []⟩, ⟨some 9, .call ⟨.builtin .append, #[T 0, T 8], #[N.za, N.za]⟩, N.za, none, []⟩, ⟨some 102, .assign (T 9), 0, none, []⟩]) .ret
def cUv3 : C := .seq (.ops [⟨some 0, .move (V 0), 0, none, []⟩, ⟨some 1, .move (V 1), 0, none, []⟩, ⟨some 2, .binOp .and N.zb (T 1) (.const (.int .u32 127)) N.zb, 0, none, []⟩, ⟨some 3, .binOp .or N.zb (T 2) (.const (.int .u32 128)) N.zb, 0, none, []⟩, ⟨some 4, .convert N.zb N.zg (T 3), 0, none, []⟩, ⟨some 5, .move (V 1), 0, none, []⟩, ⟨some 6, .binOp .shr N.zb (T 5) (.const (.int .u64 7)) N.zcd, 0, none, []⟩, ⟨some 7, .binOp .and N.zb (T 6) (.const (.int .u32 127)) N.zb, 0, none, []⟩, ⟨some 8, .binOp .or N.zb (T 7) (.const (.int .u32 128)) N.zb, 0, none, []⟩, ⟨some 9, .convert N.zb N.zg (T 8), 0, none, []⟩, ⟨some 10, .move (V 1), 0, none, []⟩, ⟨some 11, .binOp .shr N.zb (T 10) (.const (.int .u64 14)) N.zcd, 0, none, []⟩, ⟨some 12, .convert N.zb N.zg (T 11), 0, none, []⟩, ⟨some 13, .buildSlice N.za 3 #[(0, T 4), (1, T 9), (2, T 12)], 0, none, []⟩, ⟨some 14, .call ⟨.builtin .append, #[T 0, T 13], #[N.za, N.za]⟩, N.za, none, []⟩, ⟨some 102, .assign (T 14), 0, none, []⟩]) .ret
def cUv4 : C := .seq (.ops [⟨some 0, .move (V 0), 0, none, []⟩, ⟨some 1, .move (V 1), 0, none, []⟩, ⟨some 2, .binOp .and N.zb (T 1) (.const (.int .u32 127)) N.zb, 0, none, []⟩, ⟨some 3, .binOp .or N.zb (T 2) (.const (.int .u32 128)) N.zb, 0, none, []⟩, ⟨some 4, .convert N.zb N.zg (T 3), 0, none, []⟩, ⟨some 5, .move (V 1), 0, none, []⟩, ⟨some 6, .binOp .shr N.zb (T 5) (.const (.int .u64 7)) N.zcd, 0, none, []⟩, ⟨some 7, .binOp .and N.zb (T 6) (.const (.int .u32 127)) N.zb, 0, none, []⟩, ⟨some 8, .binOp .or N.zb (T 7) (.const (.int .u32 128)) N.zb, 0, none, []⟩, ⟨some 9, .convert N.zb N.zg (T 8), 0, none, []⟩, ⟨some 10, .move (V 1), 0, none, []⟩, ⟨some 11, .binOp .shr N.zb (T 10) (.const (.int .u64 14)) N.zcd, 0, none, []⟩, ⟨some 12, .binOp .and N.zb (T 11) (.const (.int .u32 127)) N.zb, 0, none, []⟩, ⟨some 13, .binOp .or N.zb (T 12) (.const (.int .u32 128)) N.zb, 0, none, []⟩, ⟨some 14, .convert N.zb N.zg (T 13), 0, none, []⟩, ⟨some 15, .move (V 1), 0, none, []⟩, ⟨some 16, .binOp .shr N.zb (T 15) (.const (.int .u64 21)) N.zcd, 0, none, []⟩, ⟨some 17, .convert N.zb N.zg (T 16), 0, none, []⟩, ⟨some 18, .buildSlice N.za 4 #[(0, T 4), (1, T 9), (2, T 14), (3, T 17)], 0, none, []⟩, ⟨some 19, .call ⟨.builtin .append, #[T 0, T 18], #[N.za, N.za]⟩, N.za, none, []⟩, ⟨some 102, .assign (T 19), 0, none, []⟩]) .ret
def cUv5 : C := .seq (.ops [⟨some 0, .move (V 0), 0, none, []⟩, ⟨some 1, .move (V 1), 0, none, []⟩, ⟨some 2, .binOp .and N.zb (T 1) (.const (.int .u32 127)) N.zb, 0, none, []⟩, ⟨some 3, .binOp .or N.zb (T 2) (.const (.int .u32 128)) N.zb, 0, none, []⟩, ⟨some 4, .convert N.zb N.zg (T 3), 0, none, []⟩, ⟨some 5, .move (V 1), 0, none, []⟩, ⟨some 6, .binOp .shr N.zb (T 5) (.const (.int .u64 7)) N.zcd, 0, none, []⟩, ⟨some 7, .binOp .and N.zb (T 6) (.const (.int .u32 127)) N.zb, 0, none, []⟩, ⟨some 8, .binOp .or N.zb (T 7) (.const (.int .u32 128)) N.zb, 0, none, []⟩, ⟨some 9, .convert N.zb N.zg (T 8), 0, none, []⟩, ⟨some 10, .move (V 1), 0, none, []⟩, ⟨some 11, .binOp .shr N.zb (T 10) (.const (.int .u64 14)) N.zcd, 0, none, []⟩, ⟨some 12, .binOp .and N.zb (T 11) (.const (.int .u32 127)) N.zb, 0, none, []⟩, ⟨some 13, .binOp .or N.zb (T 12) (.const (.int .u32 128)) N.zb, 0, none, []⟩, ⟨some 14, .convert N.zb N.zg (T 13), 0, none, []⟩, ⟨some 15, .move (V 1), 0, none, []⟩, ⟨some 16, .binOp .shr N.zb (T 15) (.const (.int .u64 21)) N.zcd, 0, none, []⟩, ⟨some 17, .binOp .and N.zb (T 16) (.const (.int .u32 127)) N.zb, 0, none, []⟩, ⟨some 18, .binOp .or N.zb (T 17) (.const (.int .u32 128)) N.zb, 0, none, []⟩, ⟨some 19, .convert N.zb N.zg (T 18), 0, none, []⟩, ⟨some 20, .move (V 1), 0, none, []⟩, ⟨some 21, .binOp .shr N.zb (T 20) (.const (.int .u64 28)) N.zcd, 0, none, []⟩, ⟨some 22, .convert N.zb N.zg (T 21), 0, none, []⟩, ⟨some 23, .buildSlice N.za 5 #[(0, T 4), (1, T 9), (2, T 14), (3, T 19), (4, T 22)], 0, none, []⟩, ⟨some 24, .call ⟨.builtin .append, #[T 0, T 23], #[N.za, N.za]⟩, N.za, none, []⟩, ⟨some 102, .assign (T 24), 0, none, []⟩]) .ret
theorem c_Uv_eq : zmk N A = .seq (.ops [⟨some 102, .assign (.const (.slice none 0 0)), 0, none, []⟩]) (.seq (.seq (.ops [⟨some 0, .move (V 1), 0, none, []⟩, ⟨some 103, .call ⟨.value (.func A.zia), #[T 0], #[N.zb]⟩, N.ze, none, []⟩]) (.block 0 (.seq (.ops [⟨some 0, .binOp .eql N.ze (V 3) (.const (.int .i64 5)) N.ze, 0, none, []⟩, ⟨some 104, .assign (T 0), 0, none, []⟩]) (.cond 4 (cUv5 N) (.seq (.ops [⟨some 0, .binOp .eql N.ze (V 3) (.const (.int .i64 4)) N.ze, 0, none, []⟩, ⟨some 105, .assign (T 0), 0, none, []⟩]) (.cond 5 (cUv4 N) (.seq (.ops [⟨some 0, .binOp .eql N.ze (V 3) (.const (.int .i64 3)) N.ze, 0, none, []⟩, ⟨some 106, .assign (T 0), 0, none, []⟩]) (.cond 6 (cUv3 N) (.seq (.ops [⟨some 0, .binOp .eql N.ze (V 3) (.const (.int .i64 2)) N.ze, 0, none, []⟩, ⟨some 107, .assign (T 0), 0, none, []⟩]) (.cond 7 (cUv2 N) (.seq (.ops [⟨some 0, .binOp .eql N.ze (V 3) (.const (.int .i64 1)) N.ze, 0, none, []⟩, ⟨some 108, .assign (T 0), 0, none, []⟩]) (.cond 8 (cUv1 N) (.skip))))))))))))) (.seq (.ops [⟨some 0, .move (V 0), 0, none, []⟩, ⟨some 102, .assign (T 0), 0, none, []⟩]) .ret)) := rfl
end
section
variable {P : Program} {N : Nums} {A : zdp}
theorem zhs (n : Nat) (h : n < 2 ^ 32) : band .u32 n 127 = (n % 128 : Nat) := by
 show IntKind.u32.wrap (((BitVec.ofInt 32 (n : Int) &&& BitVec.ofInt 32 127).toNat : Nat) : Int) = _
 have e1 : BitVec.ofInt 32 (n : Int) = BitVec.ofNat 32 n := by simp
 have e2 : BitVec.ofInt 32 127 = BitVec.ofNat 32 127 := by decide
 rw [e1, e2]
 have e3 : (BitVec.ofNat 32 n &&& BitVec.ofNat 32 127).toNat = n % 128 := by
  rw [BitVec.toNat_and, BitVec.toNat_ofNat, BitVec.toNat_ofNat, Nat.mod_eq_of_lt h]
  show n &&& 127 = _
  exact Nat.and_two_pow_sub_one_eq_mod n 7
 rw [e3]
 exact zgr _ (by omega)
theorem zke : ∀ n : Nat, n < 128 → bor .u32 n 128 = (n + 128 : Nat) := by
 have h : ∀ n : Fin 128, bor .u32 (n.val : Nat) 128 = (n.val + 128 : Nat) := by decide +kernel
 exact fun n hn => h ⟨n, hn⟩
theorem zrl (B : Base P N) {w : World} {a : UInt8} : (Instr.buildSlice N.za 1 #[(0, zy a)]).run P w = .ok (.slice (some ⟨w.heap.size, 0, none⟩) 1 1) (w.alloc (.cells ([a].map zy).toArray N.zg)) := zvq (v := zy a) (cs := [zy a]) B.Lu8 B.uint8 rfl rfl (by decide) (by decide)
theorem zja (n : Nat) (h : n < 256) : IntKind.u8.wrap (n : Int) = n := by rw [zoi]; omega
theorem W_uv1 (B : Base P N) {loc : List Nat} {N' : Nat} {Q : Exit → Env → World → Prop} {σ : Env} {w : World} {lo n : Nat} {v : Value} {l : List UInt8} (h0 : σ 0 = v) (h1 : σ 1 = .int .u32 n) (hn : n < 128) (ho : OwnB w lo v l) (hlo : lo ≤ w.heap.size) (hb : l.length + 1 < 1099511627776)
  (hQ : ∀ σ' w', Apd w lo v l [UInt8.ofNat n] (σ' 2) w' → Q .ret σ' w') : W P loc N' (cUv1 N) Q σ w := by
 unfold cUv1
 have e6 : ∀ ρ : Env, (#[(0, T 2)] : Array (Nat × Operand)).map (fun p => (p.1, ev ρ p.2)) = #[(0, ρ 2)] := fun ρ => by simp
 obtain ⟨v', w', h4, h5⟩ := zjc (ty := N.za) (s := [UInt8.ofNat n]) B ho hlo hb
 have h4 : (Builtin.append_ #[N.za, N.za] N.za #[v, .slice (some ⟨w.heap.size, 0, none⟩) 1 1]).run P (w.alloc (.cells ([UInt8.ofNat n].map zy).toArray N.zg)) = .ok v' w' := h4
 have c0 : IntKind.u8.wrap ((n : Nat) : Int) = ((n : Nat) : Int) := zja _ (by omega)
 have d0 : Value.int .u8 ((n : Nat) : Int) = zy (UInt8.ofNat n) := zhe _ (by omega)
 refine zd fun K hK => zj fun τ => ?_
 simp +decide only [bK, bE, Nat.reduceBeqDiff, BEq.rfl, Nat.reduceAdd, Nat.zero_add, h0, h1, e6, zaq B.uint32 B.uint8 ⟨_, rfl⟩, c0, d0, zrl B, h4]
 refine hK _ _ (zc fun σ2 hσ => zay ?_)
 have b2 := hσ 2
 simp +decide only [bE, BEq.rfl, Nat.reduceAdd] at b2
 exact hQ _ _ (by rw [b2]; exact h5)
theorem W_uv2 (B : Base P N) {loc : List Nat} {N' : Nat} {Q : Exit → Env → World → Prop} {σ : Env} {w : World} {lo n : Nat} {v : Value} {l : List UInt8} (h0 : σ 0 = v) (h1 : σ 1 = .int .u32 n) (hn : n < 16384) (ho : OwnB w lo v l) (hlo : lo ≤ w.heap.size) (hb : l.length + 2 < 1099511627776)
  (hQ : ∀ σ' w', Apd w lo v l [UInt8.ofNat (n % 128 + 128), UInt8.ofNat (n / 128)] (σ' 2) w' → Q .ret σ' w') : W P loc N' (cUv2 N) Q σ w := by
 unfold cUv2
 have e6 : ∀ ρ : Env, (#[(0, T 4), (1, T 7)] : Array (Nat × Operand)).map (fun p => (p.1, ev ρ p.2)) = #[(0, ρ 4), (1, ρ 7)] := fun ρ => by simp
 obtain ⟨v', w', h4, h5⟩ := zjc (ty := N.za) (s := [UInt8.ofNat (n % 128 + 128), UInt8.ofNat (n / 128)]) B ho hlo hb
 have h4 : (Builtin.append_ #[N.za, N.za] N.za #[v, .slice (some ⟨w.heap.size, 0, none⟩) 2 2]).run P (w.alloc (.cells ([UInt8.ofNat (n % 128 + 128), UInt8.ofNat (n / 128)].map zy).toArray N.zg)) = .ok v' w' := h4
 have b0 := zhs n (by omega)
 have o0 := zke (n % 128) (by omega)
 have c0 : IntKind.u8.wrap ((n % 128 + 128 : Nat) : Int) = ((n % 128 + 128 : Nat) : Int) := zja _ (by omega)
 have d0 : Value.int .u8 ((n % 128 + 128 : Nat) : Int) = zy (UInt8.ofNat (n % 128 + 128)) := zhe _ (by omega)
 have s1 : ((n : Int)).fdiv (2 ^ min 7 IntKind.u32.bits) = ((n / 128 : Nat) : Int) := by
  show ((n : Int)).fdiv 128 = _
  rw [Int.fdiv_eq_ediv_of_nonneg _ (by decide)]; omega
 have c1 : IntKind.u8.wrap (((n / 128) : Nat) : Int) = (((n / 128) : Nat) : Int) := zja _ (by omega)
 have d1 : Value.int .u8 (((n / 128) : Nat) : Int) = zy (UInt8.ofNat (n / 128)) := zhe _ (by omega)
 refine zd fun K hK => zj fun τ => ?_
 simp +decide only [bK, bE, Nat.reduceBeqDiff, BEq.rfl, Nat.reduceAdd, Int.reduceToNat, Nat.zero_add, h0, h1, e6, zaq B.uint32 B.uint8 ⟨_, rfl⟩, b0, o0, c0, d0, zdu (show (0 : Int) ≤ 7 by decide), s1, c1, d1, run_bsL2 B, h4]
 refine hK _ _ (zc fun σ2 hσ => zay ?_)
 have b2 := hσ 2
 simp +decide only [bE, BEq.rfl, Nat.reduceAdd] at b2
 exact hQ _ _ (by rw [b2]; exact h5)
theorem W_uv3 (B : Base P N) {loc : List Nat} {N' : Nat} {Q : Exit → Env → World → Prop} {σ : Env} {w : World} {lo n : Nat} {v : Value} {l : List UInt8} (h0 : σ 0 = v) (h1 : σ 1 = .int .u32 n) (hn : n < 2097152) (ho : OwnB w lo v l) (hlo : lo ≤ w.heap.size) (hb : l.length + 3 < 1099511627776)
  (hQ : ∀ σ' w', Apd w lo v l [UInt8.ofNat (n % 128 + 128), UInt8.ofNat ((n / 128) % 128 + 128), UInt8.ofNat (n / 16384)] (σ' 2) w' → Q .ret σ' w') : W P loc N' (cUv3 N) Q σ w := by
 unfold cUv3
 have e6 : ∀ ρ : Env, (#[(0, T 4), (1, T 9), (2, T 12)] : Array (Nat × Operand)).map (fun p => (p.1, ev ρ p.2)) = #[(0, ρ 4), (1, ρ 9), (2, ρ 12)] := fun ρ => by simp
 obtain ⟨v', w', h4, h5⟩ := zjc (ty := N.za) (s := [UInt8.ofNat (n % 128 + 128), UInt8.ofNat ((n / 128) % 128 + 128), UInt8.ofNat (n / 16384)]) B ho hlo hb
 have h4 : (Builtin.append_ #[N.za, N.za] N.za #[v, .slice (some ⟨w.heap.size, 0, none⟩) 3 3]).run P (w.alloc (.cells ([UInt8.ofNat (n % 128 + 128), UInt8.ofNat ((n / 128) % 128 + 128), UInt8.ofNat (n / 16384)].map zy).toArray N.zg)) = .ok v' w' := h4
 have b0 := zhs n (by omega)
 have o0 := zke (n % 128) (by omega)
 have c0 : IntKind.u8.wrap ((n % 128 + 128 : Nat) : Int) = ((n % 128 + 128 : Nat) : Int) := zja _ (by omega)
 have d0 : Value.int .u8 ((n % 128 + 128 : Nat) : Int) = zy (UInt8.ofNat (n % 128 + 128)) := zhe _ (by omega)
 have s1 : ((n : Int)).fdiv (2 ^ min 7 IntKind.u32.bits) = ((n / 128 : Nat) : Int) := by
  show ((n : Int)).fdiv 128 = _
  rw [Int.fdiv_eq_ediv_of_nonneg _ (by decide)]; omega
 have b1 := zhs (n / 128) (by omega)
 have o1 := zke ((n / 128) % 128) (by omega)
 have c1 : IntKind.u8.wrap (((n / 128) % 128 + 128 : Nat) : Int) = (((n / 128) % 128 + 128 : Nat) : Int) := zja _ (by omega)
 have d1 : Value.int .u8 (((n / 128) % 128 + 128 : Nat) : Int) = zy (UInt8.ofNat ((n / 128) % 128 + 128)) := zhe _ (by omega)
 have s2 : ((n : Int)).fdiv (2 ^ min 14 IntKind.u32.bits) = ((n / 16384 : Nat) : Int) := by
  show ((n : Int)).fdiv 16384 = _
  rw [Int.fdiv_eq_ediv_of_nonneg _ (by decide)]; omega
 have c2 : IntKind.u8.wrap (((n / 16384) : Nat) : Int) = (((n / 16384) : Nat) : Int) := zja _ (by omega)
 have d2 : Value.int .u8 (((n / 16384) : Nat) : Int) = zy (UInt8.ofNat (n / 16384)) := zhe _ (by omega)
 refine zd fun K hK => zj fun τ => ?_
 simp +decide only [bK, bE, Nat.reduceBeqDiff, BEq.rfl, Nat.reduceAdd, Int.reduceToNat, Nat.zero_add, h0, h1, e6, zaq B.uint32 B.uint8 ⟨_, rfl⟩, b0, o0, c0, d0, zdu (show (0 : Int) ≤ 7 by decide), s1, b1, o1, c1, d1, zdu (show (0 : Int) ≤ 14 by decide), s2, c2, d2, run_bsL3 B, h4]
 refine hK _ _ (zc fun σ2 hσ => zay ?_)
 have b2 := hσ 2
 simp +decide only [bE, BEq.rfl, Nat.reduceAdd] at b2
 exact hQ _ _ (by rw [b2]; exact h5)
theorem W_uv4 (B : Base P N) {loc : List Nat} {N' : Nat} {Q : Exit → Env → World → Prop} {σ : Env} {w : World} {lo n : Nat} {v : Value} {l : List UInt8} (h0 : σ 0 = v) (h1 : σ 1 = .int .u32 n) (hn : n < 268435456) (ho : OwnB w lo v l) (hlo : lo ≤ w.heap.size) (hb : l.length + 4 < 1099511627776)
  (hQ : ∀ σ' w', Apd w lo v l [UInt8.ofNat (n % 128 + 128), UInt8.ofNat ((n / 128) % 128 + 128), UInt8.ofNat ((n / 16384) % 128 + 128), UInt8.ofNat (n / 2097152)] (σ' 2) w' → Q .ret σ' w') : W P loc N' (cUv4 N) Q σ w := by
 unfold cUv4
 have e6 : ∀ ρ : Env, (#[(0, T 4), (1, T 9), (2, T 14), (3, T 17)] : Array (Nat × Operand)).map (fun p => (p.1, ev ρ p.2)) = #[(0, ρ 4), (1, ρ 9), (2, ρ 14), (3, ρ 17)] := fun ρ => by simp
 obtain ⟨v', w', h4, h5⟩ := zjc (ty := N.za) (s := [UInt8.ofNat (n % 128 + 128), UInt8.ofNat ((n / 128) % 128 + 128), UInt8.ofNat ((n / 16384) % 128 + 128), UInt8.ofNat (n / 2097152)]) B ho hlo hb
 have h4 : (Builtin.append_ #[N.za, N.za] N.za #[v, .slice (some ⟨w.heap.size, 0, none⟩) 4 4]).run P (w.alloc (.cells ([UInt8.ofNat (n % 128 + 128), UInt8.ofNat ((n / 128) % 128 + 128), UInt8.ofNat ((n / 16384) % 128 + 128), UInt8.ofNat (n / 2097152)].map zy).toArray N.zg)) = .ok v' w' := h4
 have b0 := zhs n (by omega)
 have o0 := zke (n % 128) (by omega)
 have c0 : IntKind.u8.wrap ((n % 128 + 128 : Nat) : Int) = ((n % 128 + 128 : Nat) : Int) := zja _ (by omega)
 have d0 : Value.int .u8 ((n % 128 + 128 : Nat) : Int) = zy (UInt8.ofNat (n % 128 + 128)) := zhe _ (by omega)
 have s1 : ((n : Int)).fdiv (2 ^ min 7 IntKind.u32.bits) = ((n / 128 : Nat) : Int) := by
  show ((n : Int)).fdiv 128 = _
  rw [Int.fdiv_eq_ediv_of_nonneg _ (by decide)]; omega
 have b1 := zhs (n / 128) (by omega)
 have o1 := zke ((n / 128) % 128) (by omega)
 have c1 : IntKind.u8.wrap (((n / 128) % 128 + 128 : Nat) : Int) = (((n / 128) % 128 + 128 : Nat) : Int) := zja _ (by omega)
 have d1 : Value.int .u8 (((n / 128) % 128 + 128 : Nat) : Int) = zy (UInt8.ofNat ((n / 128) % 128 + 128)) := zhe _ (by omega)
 have s2 : ((n : Int)).fdiv (2 ^ min 14 IntKind.u32.bits) = ((n / 16384 : Nat) : Int) := by
  show ((n : Int)).fdiv 16384 = _
  rw [Int.fdiv_eq_ediv_of_nonneg _ (by decide)]; omega
 have b2 := zhs (n / 16384) (by omega)
 have o2 := zke ((n / 16384) % 128) (by omega)
 have c2 : IntKind.u8.wrap (((n / 16384) % 128 + 128 : Nat) : Int) = (((n / 16384) % 128 + 128 : Nat) : Int) := zja _ (by omega)
 have d2 : Value.int .u8 (((n / 16384) % 128 + 128 : Nat) : Int) = zy (UInt8.ofNat ((n / 16384) % 128 + 128)) := zhe _ (by omega)
 have s3 : ((n : Int)).fdiv (2 ^ min 21 IntKind.u32.bits) = ((n / 2097152 : Nat) : Int) := by
  show ((n : Int)).fdiv 2097152 = _
  rw [Int.fdiv_eq_ediv_of_nonneg _ (by decide)]; omega
 have c3 : IntKind.u8.wrap (((n / 2097152) : Nat) : Int) = (((n / 2097152) : Nat) : Int) := zja _ (by omega)
 have d3 : Value.int .u8 (((n / 2097152) : Nat) : Int) = zy (UInt8.ofNat (n / 2097152)) := zhe _ (by omega)
 refine zd fun K hK => zj fun τ => ?_
 simp +decide only [bK, bE, Nat.reduceBeqDiff, BEq.rfl, Nat.reduceAdd, Int.reduceToNat, Nat.zero_add, h0, h1, e6, zaq B.uint32 B.uint8 ⟨_, rfl⟩, b0, o0, c0, d0, zdu (show (0 : Int) ≤ 7 by decide), s1, b1, o1, c1, d1, zdu (show (0 : Int) ≤ 14 by decide), s2, b2, o2, c2, d2, zdu (show (0 : Int) ≤ 21 by decide), s3, c3, d3, run_bsL4 B, h4]
 refine hK _ _ (zc fun σ2 hσ => zay ?_)
 have b2 := hσ 2
 simp +decide only [bE, BEq.rfl, Nat.reduceAdd] at b2
 exact hQ _ _ (by rw [b2]; exact h5)
theorem W_uv5 (B : Base P N) {loc : List Nat} {N' : Nat} {Q : Exit → Env → World → Prop} {σ : Env} {w : World} {lo n : Nat} {v : Value} {l : List UInt8} (h0 : σ 0 = v) (h1 : σ 1 = .int .u32 n) (hn : n < 4294967296) (ho : OwnB w lo v l) (hlo : lo ≤ w.heap.size) (hb : l.length + 5 < 1099511627776)
  (hQ : ∀ σ' w', Apd w lo v l [UInt8.ofNat (n % 128 + 128), UInt8.ofNat ((n / 128) % 128 + 128), UInt8.ofNat ((n / 16384) % 128 + 128), UInt8.ofNat ((n / 2097152) % 128 + 128), UInt8.ofNat (n / 268435456)] (σ' 2) w' → Q .ret σ' w') : W P loc N' (cUv5 N) Q σ w := by
 unfold cUv5
 have e6 : ∀ ρ : Env, (#[(0, T 4), (1, T 9), (2, T 14), (3, T 19), (4, T 22)] : Array (Nat × Operand)).map (fun p => (p.1, ev ρ p.2)) = #[(0, ρ 4), (1, ρ 9), (2, ρ 14), (3, ρ 19), (4, ρ 22)] := fun ρ => by simp
 obtain ⟨v', w', h4, h5⟩ := zjc (ty := N.za) (s := [UInt8.ofNat (n % 128 + 128), UInt8.ofNat ((n / 128) % 128 + 128), UInt8.ofNat ((n / 16384) % 128 + 128), UInt8.ofNat ((n / 2097152) % 128 + 128), UInt8.ofNat (n / 268435456)]) B ho hlo hb
 have h4 : (Builtin.append_ #[N.za, N.za] N.za #[v, .slice (some ⟨w.heap.size, 0, none⟩) 5 5]).run P (w.alloc (.cells ([UInt8.ofNat (n % 128 + 128), UInt8.ofNat ((n / 128) % 128 + 128), UInt8.ofNat ((n / 16384) % 128 + 128), UInt8.ofNat ((n / 2097152) % 128 + 128), UInt8.ofNat (n / 268435456)].map zy).toArray N.zg)) = .ok v' w' := h4
 have b0 := zhs n (by omega)
 have o0 := zke (n % 128) (by omega)
 have c0 : IntKind.u8.wrap ((n % 128 + 128 : Nat) : Int) = ((n % 128 + 128 : Nat) : Int) := zja _ (by omega)
 have d0 : Value.int .u8 ((n % 128 + 128 : Nat) : Int) = zy (UInt8.ofNat (n % 128 + 128)) := zhe _ (by omega)
 have s1 : ((n : Int)).fdiv (2 ^ min 7 IntKind.u32.bits) = ((n / 128 : Nat) : Int) := by
  show ((n : Int)).fdiv 128 = _
  rw [Int.fdiv_eq_ediv_of_nonneg _ (by decide)]; omega
 have b1 := zhs (n / 128) (by omega)
 have o1 := zke ((n / 128) % 128) (by omega)
 have c1 : IntKind.u8.wrap (((n / 128) % 128 + 128 : Nat) : Int) = (((n / 128) % 128 + 128 : Nat) : Int) := zja _ (by omega)
 have d1 : Value.int .u8 (((n / 128) % 128 + 128 : Nat) : Int) = zy (UInt8.ofNat ((n / 128) % 128 + 128)) := zhe _ (by omega)
 have s2 : ((n : Int)).fdiv (2 ^ min 14 IntKind.u32.bits) = ((n / 16384 : Nat) : Int) := by
  show ((n : Int)).fdiv 16384 = _
  rw [Int.fdiv_eq_ediv_of_nonneg _ (by decide)]; omega
 have b2 := zhs (n / 16384) (by omega)
 have o2 := zke ((n / 16384) % 128) (by omega)
 have c2 : IntKind.u8.wrap (((n / 16384) % 128 + 128 : Nat) : Int) = (((n / 16384) % 128 + 128 : Nat) : Int) := zja _ (by omega)
 have d2 : Value.int .u8 (((n / 16384) % 128 + 128 : Nat) : Int) = zy (UInt8.ofNat ((n / 16384) % 128 + 128)) := zhe _ (by omega)
 have s3 : ((n : Int)).fdiv (2 ^ min 21 IntKind.u32.bits) = ((n / 2097152 : Nat) : Int) := by
  show ((n : Int)).fdiv 2097152 = _
  rw [Int.fdiv_eq_ediv_of_nonneg _ (by decide)]; omega
 have b3 := zhs (n / 2097152) (by omega)
 have o3 := zke ((n / 2097152) % 128) (by omega)
 have c3 : IntKind.u8.wrap (((n / 2097152) % 128 + 128 : Nat) : Int) = (((n / 2097152) % 128 + 128 : Nat) : Int) := zja _ (by omega)
 have d3 : Value.int .u8 (((n / 2097152) % 128 + 128 : Nat) : Int) = zy (UInt8.ofNat ((n / 2097152) % 128 + 128)) := zhe _ (by omega)
 have s4 : ((n : Int)).fdiv (2 ^ min 28 IntKind.u32.bits) = ((n / 268435456 : Nat) : Int) := by
  show ((n : Int)).fdiv 268435456 = _
  rw [Int.fdiv_eq_ediv_of_nonneg _ (by decide)]; omega
 have c4 : IntKind.u8.wrap (((n / 268435456) : Nat) : Int) = (((n / 268435456) : Nat) : Int) := zja _ (by omega)
 have d4 : Value.int .u8 (((n / 268435456) : Nat) : Int) = zy (UInt8.ofNat (n / 268435456)) := zhe _ (by omega)
 refine zd fun K hK => zj fun τ => ?_
 simp +decide only [bK, bE, Nat.reduceBeqDiff, BEq.rfl, Nat.reduceAdd, Int.reduceToNat, Nat.zero_add, h0, h1, e6, zaq B.uint32 B.uint8 ⟨_, rfl⟩, b0, o0, c0, d0, zdu (show (0 : Int) ≤ 7 by decide), s1, b1, o1, c1, d1, zdu (show (0 : Int) ≤ 14 by decide), s2, b2, o2, c2, d2, zdu (show (0 : Int) ≤ 21 by decide), s3, b3, o3, c3, d3, zdu (show (0 : Int) ≤ 28 by decide), s4, c4, d4, run_bsL5 B, h4]
 refine hK _ _ (zc fun σ2 hσ => zay ?_)
 have b2 := hσ 2
 simp +decide only [bE, BEq.rfl, Nat.reduceAdd] at b2
 exact hQ _ _ (by rw [b2]; exact h5)
end
theorem uvB1 {n : Nat} (h : n < 128) : [UInt8.ofNat n] = uvB n := (zdq h).symm
theorem uvB2 {n : Nat} (h : ¬ n < 128) (h2 : n < 16384) : [UInt8.ofNat (n % 128 + 128), UInt8.ofNat (n / 128)] = uvB n := by rw [zfp h, zdq (by omega)]
theorem uvB3 {n : Nat} (h : ¬ n < 16384) (h2 : n < 2097152) : [UInt8.ofNat (n % 128 + 128), UInt8.ofNat ((n / 128) % 128 + 128), UInt8.ofNat (n / 16384)] = uvB n := by
 rw [zfp (by omega), zfp (n := n / 128) (by omega), zdq (by omega), Nat.div_div_eq_div_mul]
theorem uvB4 {n : Nat} (h : ¬ n < 2097152) (h2 : n < 268435456) : [UInt8.ofNat (n % 128 + 128), UInt8.ofNat ((n / 128) % 128 + 128), UInt8.ofNat ((n / 16384) % 128 + 128), UInt8.ofNat (n / 2097152)] = uvB n := by
 rw [zfp (by omega), zfp (n := n / 128) (by omega), zfp (n := n / 128 / 128) (by omega), zdq (by omega), Nat.div_div_eq_div_mul, Nat.div_div_eq_div_mul]
theorem uvB5 {n : Nat} (h : ¬ n < 268435456) (h2 : n < 4294967296) : [UInt8.ofNat (n % 128 + 128), UInt8.ofNat ((n / 128) % 128 + 128), UInt8.ofNat ((n / 16384) % 128 + 128), UInt8.ofNat ((n / 2097152) % 128 + 128), UInt8.ofNat (n / 268435456)] = uvB n := by
 rw [zfp (by omega), zfp (n := n / 128) (by omega), zfp (n := n / 128 / 128) (by omega), zfp (n := n / 128 / 128 / 128) (by omega), zdq (by omega), Nat.div_div_eq_div_mul, Nat.div_div_eq_div_mul, Nat.div_div_eq_div_mul]
section
variable {P : Program} {N : Nums} {A : zdp}
structure UvT (P : Program) (N : Nums) (A : zdp) : Prop where
 l32 : FOk P A.zeb 1 (zfz N A) [.var 1]
 len : FOk P A.zia 1 (zmh N A) [.var 1]
 uv : FOk P A.zdb 2 (zmk N A) [.var 2]
theorem zyh (B : Base P N) (h : UvT P N A) {n : Nat} (hn : n < 4294967296) : ApF P A.zdb (.int .u32 n) (uvB n) := by
 intro w lo v l ho hlo hb
 refine h.uv.call rfl fun loc N' hlo' => ?_
 rw [c_Uv_eq]
 refine zd fun K hK => zj fun τ => ?_
 simp +decide only [bK]
 refine hK _ _ (zc fun σ1 hσ => ?_)
 have a0 := hσ 0
 have a1 := hσ 1
 simp +decide only [bE, Nat.reduceBeqDiff, Nat.reduceAdd, Nat.zero_add, zdc, zcm] at a0 a1
 clear hσ hK K
 refine zd fun K hK => zd fun K1 hK1 => zj fun τ => ?_
 simp +decide only [bK, bE, Nat.reduceAdd, a1]
 rw [zar h.len.has]
 simp +decide only [bK, bE, BEq.rfl]
 refine (call_Ul B h.l32 h.len w hn).mono ?_
 rintro _ w2 ⟨rfl, rfl⟩
 refine hK1 _ _ (zc fun σ2 hσ => ?_)
 have b0 := hσ 0
 have b1 := hσ 1
 have b3 := hσ 3
 simp +decide only [bE, Nat.reduceBeqDiff, BEq.rfl, Nat.reduceAdd, Nat.zero_add, a0, a1] at b0 b1 b3
 clear hσ hK1 K1
 refine zeg ?_
 have up : ∀ {σ : Env} {i c : Nat} {x u : Value}, σ i = x → i ≠ c → upd σ c u i = x := fun h hi => by rw [zh hi]; exact h
 have rng : ∀ {m : Nat}, zkb n = m → (m = 1 → n < 128) ∧ (m = 2 → ¬ n < 128 ∧ n < 16384) ∧ (m = 3 → ¬ n < 16384 ∧ n < 2097152) ∧ (m = 4 → ¬ n < 2097152 ∧ n < 268435456) ∧ (m = 5 → ¬ n < 268435456) := fun {m} e => by
  unfold zkb at e
  split at e
  ·omega
  ·split at e
   ·omega
   ·split at e
    ·omega
    ·split at e <;> omega
 refine zkv hlo' b3 ?_
 by_cases e5 : ((zkb n : Nat) : Int) = 5
 ·rw [if_pos e5]
  have r := rng (m := 5) (by omega)
  have g := r.2.2.2.2 rfl
  have q := uvB5 g hn
  rw [← q] at hb ⊢
  exact W_uv5 B (up b0 (by decide)) (up b1 (by decide)) hn ho hlo hb fun σ' w' h => ⟨.inr rfl, _, rfl, h⟩
 rw [if_neg e5]
 refine zkv hlo' (up b3 (by decide)) ?_
 by_cases e4 : ((zkb n : Nat) : Int) = 4
 ·rw [if_pos e4]
  have r := rng (m := 4) (by omega)
  have g := r.2.2.2.1 rfl
  have q := uvB4 g.1 g.2
  rw [← q] at hb ⊢
  exact W_uv4 B (up (up b0 (by decide)) (by decide)) (up (up b1 (by decide)) (by decide)) g.2 ho hlo hb fun σ' w' h => ⟨.inr rfl, _, rfl, h⟩
 rw [if_neg e4]
 refine zkv hlo' (up (up b3 (by decide)) (by decide)) ?_
 by_cases e3 : ((zkb n : Nat) : Int) = 3
 ·rw [if_pos e3]
  have r := rng (m := 3) (by omega)
  have g := r.2.2.1 rfl
  have q := uvB3 g.1 g.2
  rw [← q] at hb ⊢
  exact W_uv3 B (up (up (up b0 (by decide)) (by decide)) (by decide)) (up (up (up b1 (by decide)) (by decide)) (by decide)) g.2 ho hlo hb fun σ' w' h => ⟨.inr rfl, _, rfl, h⟩
 rw [if_neg e3]
 refine zkv hlo' (up (up (up b3 (by decide)) (by decide)) (by decide)) ?_
 by_cases e2 : ((zkb n : Nat) : Int) = 2
 ·rw [if_pos e2]
  have r := rng (m := 2) (by omega)
  have g := r.2.1 rfl
  have q := uvB2 g.1 g.2
  rw [← q] at hb ⊢
  exact W_uv2 B (up (up (up (up b0 (by decide)) (by decide)) (by decide)) (by decide)) (up (up (up (up b1 (by decide)) (by decide)) (by decide)) (by decide)) g.2 ho hlo hb fun σ' w' h => ⟨.inr rfl, _, rfl, h⟩
 rw [if_neg e2]
 refine zkv hlo' (up (up (up (up b3 (by decide)) (by decide)) (by decide)) (by decide)) ?_
 by_cases e1 : ((zkb n : Nat) : Int) = 1
 ·rw [if_pos e1]
  have r := rng (m := 1) (by omega)
  have g := r.1 rfl
  have q := uvB1 g
  rw [← q] at hb ⊢
  exact W_uv1 B (up (up (up (up (up b0 (by decide)) (by decide)) (by decide)) (by decide)) (by decide)) (up (up (up (up (up b1 (by decide)) (by decide)) (by decide)) (by decide)) (by decide)) g ho hlo hb fun σ' w' h => ⟨.inr rfl, _, rfl, h⟩
 rw [if_neg e1]
 exfalso
 have : zkb n = 1 ∨ zkb n = 2 ∨ zkb n = 3 ∨ zkb n = 4 ∨ zkb n = 5 := by unfold zkb; split <;> (try split) <;> (try split) <;> (try split) <;> omega
 omega
end
end Go.Kf
