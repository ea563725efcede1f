/- A part of the calculus by which the claim's proof goes: over any program and any numbering of its functions; no condition beyond those that each theorem names. -/
import Derived.ChangeArms
import Derived.Test.YtlildailoffclaaKc
set_option linter.unusedSimpArgs false
set_option linter.unusedVariables false
namespace Go.Kf
open Go Go.RowKit
theorem ztv {k : Nat} {x : List UInt8} : ∀ {a : List (Nat × List UInt8)} {y : Nat × List UInt8}, y ∈ insT k x a → y = (k, x) ∨ y ∈ a
 | [], y, h => by simp [insT] at h; exact .inl h
 | (k', l) :: a, y, h => by
  rw [insT] at h
  split at h
  ·rcases List.mem_cons.1 h with rfl | h
   ·exact .inr (by simp)
   ·exact (ztv h).imp id fun h => List.mem_cons_of_mem _ h
  ·split at h
   ·exact .inr h
   ·rcases List.mem_cons.1 h with rfl | h
    ·exact .inl rfl
    ·exact .inr h
theorem fold_mem : ∀ (u a : List (Nat × List UInt8)) (y : Nat × List UInt8), y ∈ u.foldl (fun a x => insT x.1 x.2 a) a → y ∈ u ∨ y ∈ a
 | [], a, y, h => .inr h
 | x :: u, a, y, h => by
  rcases fold_mem u _ y h with h | h
  ·exact .inl (List.mem_cons_of_mem _ h)
  ·rcases ztv h with rfl | h
   ·exact .inl (by simp)
   ·exact .inr h
theorem unkT_mem {u : List (Nat × List UInt8)} {y : Nat × List UInt8} (h : y ∈ unkT u) : y ∈ u := by
 rcases fold_mem _ _ _ h with h | h
 ·exact List.mem_of_mem_take h
 ·cases h
theorem unkT_len (u : List (Nat × List UInt8)) : (unkT u).length ≤ 32767 := by
 have := zpz (u.take most) []
 simp only [List.length_nil, List.length_take] at this
 unfold unkT
 have : most = 32767 := rfl
 omega
theorem OwnT.tagsA {w : World} {lo : Nat} {v : Value} {a : List (Nat × List UInt8)} (h : OwnT w lo v a) : zje w v a := by
 obtain ⟨cs, ho, hu⟩ := h
 rcases ho with ⟨rfl, e, _⟩ | ⟨b, c, e, _, _, h1, _, hr, _⟩
 ·exact .inl ⟨_, _, rfl, List.length_eq_zero_iff.1 e⟩
 ·exact .inr ⟨b, 0, c, cs, e, h1, hu, hr⟩
section
variable {P : Program} {N : Nums} {M : zaz}
structure TSt (w2 : World) (v6 : Value) (vu : Value) (σ : Env) (w : World) (n j : Nat) (acc : List UInt8) : Prop where
 h6 : σ 6 = v6
 h7 : OwnB w w2.heap.size (σ 7) acc
 h8 : σ 8 = .int .i64 j
 h29 : σ 29 = vu
 h30 : σ 30 = .int .i64 n
 h31 : σ 31 = .int .i64 j
 le : j ≤ n
 mod : Mod w2 w zw
theorem TSt.upd {w2 w : World} {v6 vu : Value} {σ : Env} {n j : Nat} {acc : List UInt8} (h : TSt w2 v6 vu σ w n j acc) {i : Nat} (hi : 32 ≤ i) (x : Value) : TSt w2 v6 vu (upd σ i x) w n j acc := by
 obtain ⟨h6, h7, h8, h29, h30, h31, le, mod⟩ := h
 refine ⟨?_, ?_, ?_, ?_, ?_, ?_, le, mod⟩ <;> (rw [zq (by omega)]; assumption)
def bTags (N : Nums) (M : zaz) : C :=
 .seq (.ops [
  ⟨some 0, .indexAddr N.zi (V 29) (V 31), 0, none, []⟩,
  ⟨some 1, .load N.zy (T 0), 0, none, []⟩,
  ⟨some 133, .alloc N.zy, 0, none, []⟩,
  ⟨none, .store N.zy (V 33) (T 1), 0, none, []⟩])
 (.seq (.ops [
  ⟨some 0, .fieldAddr N.zy (V 33) 1, 0, none, []⟩,
  ⟨some 1, .load N.za (T 0), 0, none, []⟩,
  ⟨some 2, .call ⟨.value (.func M.zdi), #[T 1], #[N.za]⟩, N.za, none, []⟩,
  ⟨some 134, .assign (T 2), 0, none, []⟩])
 (.seq (.ops [
  ⟨some 0, .move (V 7), 0, none, []⟩,
  ⟨some 1, .fieldAddr N.zy (V 33) 0, 0, none, []⟩,
  ⟨some 2, .load N.zc (T 1), 0, none, []⟩,
  ⟨some 3, .convert N.zc N.zad (T 2), 0, none, []⟩,
  ⟨some 4, .call ⟨.value (.func M.zcd), #[T 3], #[N.zad]⟩, N.za, none, []⟩,
  ⟨some 5, .call ⟨.builtin .append, #[T 0, T 4], #[N.za, N.za]⟩, N.za, none, []⟩,
  ⟨some 6, .move (V 34), 0, none, []⟩,
  ⟨some 7, .call ⟨.builtin .len, #[T 6], #[N.za]⟩, N.ze, none, []⟩,
  ⟨some 8, .convert N.ze N.zad (T 7), 0, none, []⟩,
  ⟨some 9, .call ⟨.value (.func M.zcd), #[T 8], #[N.zad]⟩, N.za, none, []⟩,
  ⟨some 10, .call ⟨.builtin .append, #[T 5, T 9], #[N.za, N.za]⟩, N.za, none, []⟩,
  ⟨some 11, .move (V 34), 0, none, []⟩,
  ⟨some 12, .call ⟨.builtin .append, #[T 10, T 11], #[N.za, N.za]⟩, N.za, none, []⟩,
  ⟨some 107, .assign (T 12), 0, none, []⟩])
 (.ops [
  ⟨some 0, .move (V 8), 0, none, []⟩,
  ⟨some 1, .binOp .add N.ze (T 0) (.const (.int .i64 1)) N.ze, 0, none, []⟩,
  ⟨some 108, .assign (T 1), 0, none, []⟩])))
theorem W_tag (B : Base P N) (S : SpT P N M) (hW : SW P N M) {loc : List Nat} {N' : Nat} {σ : Env} {w2 w : World} {v6 vu : Value} {u : List (Nat × List UInt8)} {j : Nat} {acc : List UInt8} (hU : zje w2 vu u) (hj : j < u.length) (hk : (u[j]).1 < 4294967296) (hul : u.length < 4611686018427387904)
  (h : TSt w2 v6 vu σ w u.length j acc) (hbig : acc.length < 549755813888) {Q : Exit → Env → World → Prop}
  (hQ : ∀ (σ' : Env) (w' : World), σ' 31 = .int .i64 j → TSt w2 v6 vu (Go.Kf.upd σ' 31 (.int .i64 ((j + 1 : Nat) : Int))) w' u.length (j + 1) (acc ++ tagB u[j]) → Q .normal σ' w') :
  W P loc N' (bTags N M) Q σ w := by
 obtain ⟨fsT, hT⟩ := S.tr.tu
 obtain ⟨bb, oo, cc, s, hvb, hs, hr⟩ := hU.get (List.getElem?_eq_getElem hj)
 obtain ⟨key, hkey⟩ : ∃ key, key = (u[j]).1 := ⟨_, rfl⟩
 rw [← hkey] at hr hk
 have hr' := zh h.mod hr
 have hix := fun {w : World} => zbf (P := P) (w := w) S.tr.lg hT (bl := bb) (o := oo) (n := u.length) (c := cc) (i := j) (k := .i64) hj
 have hld := hT.run_load (w := w) (b := bb) (o := oo + j * 2) hr' rfl (fun h => by cases h)
 have hlv : ldv (.struct fsT) [.int .u32 key, s] = .agg [.int .u32 key, s].toArray := rfl
 rw [hlv] at hld
 obtain ⟨wa, wb, hal, hst, _, mb, sb, rb, _⟩ := zgs (cs := [.int .u32 key, s]) hT (by decide) rfl rfl (by
  intro c hc; simp at hc; rcases hc with rfl | rfl
  ·rfl
  ·exact hs.one) w
 unfold bTags
 refine zf fun K hK => zn fun τ => ?_
 simp +decide only [bK, bE, Nat.reduceBeqDiff, BEq.rfl, Nat.reduceAdd, h.h29, h.h31]
 rw [hvb]
 simp +decide only [bK, hix, hld, hal, hst]
 refine hK _ _ (zd fun σ1 hσ => ?_)
 have a6 := hσ 6
 have a7 := hσ 7
 have a8 := hσ 8
 have a29 := hσ 29
 have a30 := hσ 30
 have a31 := hσ 31
 have a33 := hσ 33
 simp +decide only [bE, Nat.reduceBeqDiff, BEq.rfl, Nat.reduceAdd, h.h6, h.h8, h.h29, h.h30, h.h31] at a6 a7 a8 a29 a30 a31 a33
 clear hσ hK K
 have o7 : OwnB wb w2.heap.size (σ1 7) acc := by rw [a7]; exact h.h7.stay mb fun _ _ _ h => h
 have m2b := h.mod.trans' mb
 have c0 : wb.cell? ⟨w.heap.size, 0, none⟩ = some (.int .u32 key) := rb 0 _ rfl
 have c1 : wb.cell? ⟨w.heap.size, 1, none⟩ = some s := rb 1 _ rfl
 have n33 : zaj (σ1 7) w.heap.size := by rw [a7]; exact Classical.byContradiction fun hh => by have := (h.h7.blk hh).2; omega
 have hlt33 : w.heap.size < wb.heap.size := by omega
 obtain ⟨b33, hb33⟩ : ∃ b, b = w.heap.size := ⟨_, rfl⟩
 rw [← hb33] at a33 c0 c1 n33 hlt33
 clear h hix hld hlv hal hst
 refine zf fun K hK => zn fun τ => ?_
 simp +decide only [bK, bE, BEq.rfl, Nat.reduceAdd, Nat.zero_add, a33, S.tr.g1.run, B.Lu8.run_load1 rfl, c1]
 rw [zbb hW.whole.has]
 simp +decide only [bK, bE, BEq.rfl]
 refine (zmg B hW.whole hs).mono ?_
 rintro x _ ⟨rfl, hx⟩
 refine hK _ _ (zd fun σ2 hσ => ?_)
 have b6 := hσ 6
 have b7 := hσ 7
 have b8 := hσ 8
 have b29 := hσ 29
 have b30 := hσ 30
 have b31 := hσ 31
 have b33' := hσ 33
 have b34 := hσ 34
 simp +decide only [bE, Nat.reduceBeqDiff, BEq.rfl, Nat.reduceAdd, a6, a8, a29, a30, a31, a33] at b6 b7 b8 b29 b30 b31 b33' b34
 clear hσ hK K
 rw [← b7] at o7 n33
 have hwl : (zbq (u[j]).2).length ≤ 32767 := by simp [zbq, most]; omega
 refine zf fun K hK => zn fun τ => ?_
 have hc1 := fun {w : World} => zax (P := P) (w := w) (k' := .u32) B.uint32 B.uint64 (n := key) ⟨_, rfl⟩
 have hc2 := fun {w : World} => zax (P := P) (w := w) (k' := .i64) B.int B.uint64 (n := (zbq (u[j]).2).length) ⟨_, rfl⟩
 simp +decide only [bK, bE, Nat.reduceBeqDiff, BEq.rfl, Nat.reduceAdd, Nat.add_zero, b33', S.tr.g0.run, B.uint32.run_load1 rfl, c0, hc1]
 rw [zly key (by omega), zbb hW.Uvarint.has]
 simp +decide only [bK, bE, Nat.reduceBeqDiff, BEq.rfl]
 refine (zma B hW.Uvarint wb key (by omega)).mono ?_
 rintro r3 w3 ⟨ho3, m3⟩
 have hs3 : w2.heap.size ≤ w3.heap.size := Nat.le_trans m2b.size m3.size
 have hu3 : (uvB key).length ≤ 10 := zil (by omega)
 have o73 := o7.stay m3 fun _ _ _ h => h
 obtain ⟨v4, w4, hap4, ho4, m4, _⟩ := zee (ty := N.za) B o73 ho3.octA hs3 (by omega)
 have m24 : Mod w2 w4 zw := Mod.ofOwn o73 (m2b.trans' m3) m4
 simp +decide only [bK, hap4, b34, hx.run_len B, hc2]
 rw [zly _ (by omega), zbb hW.Uvarint.has]
 simp +decide only [bK, bE, Nat.reduceBeqDiff, BEq.rfl]
 refine (zma B hW.Uvarint w4 _ (by omega)).mono ?_
 rintro r5 w5 ⟨ho5, m5⟩
 have hs5 : w2.heap.size ≤ w5.heap.size := Nat.le_trans m24.size m5.size
 have hu5 : (uvB (zbq (u[j]).2).length).length ≤ 10 := zil (by omega)
 have o75 := ho4.stay m5 fun _ _ _ h => h
 obtain ⟨v6', w6, hap6, ho6, m6, _⟩ := zee (ty := N.za) B o75 ho5.octA hs5 (by simp only [List.length_append]; omega)
 have m26 : Mod w2 w6 zw := Mod.ofOwn o75 (m24.trans' m5) m6
 simp +decide only [bK, hap6, b34]
 have hs6 : w2.heap.size ≤ w6.heap.size := m26.size
 have hx6 : OctA w6 x (zbq (u[j]).2) := hx.stay m26
 obtain ⟨v7, w7, hap7, ho7, m7, _⟩ := zee (ty := N.za) B ho6 hx6 hs6 (by simp only [List.length_append]; omega)
 have m27 : Mod w2 w7 zw := Mod.ofOwn ho6 m26 m7
 simp +decide only [bK, hap7]
 refine hK _ _ (zd fun σ3 hσ => ?_)
 have d6 := hσ 6
 have d7 := hσ 7
 have d8 := hσ 8
 have d29 := hσ 29
 have d30 := hσ 30
 have d31 := hσ 31
 simp +decide only [bE, Nat.reduceBeqDiff, BEq.rfl, Nat.reduceAdd, b6, b8, b29, b30, b31] at d6 d7 d8 d29 d30 d31
 clear hσ hK K
 have hadd : IntKind.i64.wrap ((j : Int) + 1) = ((j + 1 : Nat) : Int) := by
  rw [show ((j : Int) + 1) = ((j + 1 : Nat) : Int) by omega]
  exact wrap_i64 (by omega) (by omega)
 refine zn fun τ => ?_
 simp +decide only [bK, bE, BEq.rfl, Nat.reduceAdd, d8, hadd]
 refine zd fun σ4 hσ => hQ σ4 w7 ?_ ?_
 ·have := hσ 31; simp +decide only [bE, Nat.reduceBeqDiff, Nat.reduceAdd, d31] at this; exact this
 ·have e6 := hσ 6
  have e7 := hσ 7
  have e8 := hσ 8
  have e29 := hσ 29
  have e30 := hσ 30
  simp +decide only [bE, Nat.reduceBeqDiff, BEq.rfl, Nat.reduceAdd, d6, d7, d29, d30] at e6 e7 e8 e29 e30
  refine ⟨?_, ?_, ?_, ?_, ?_, upd_same _ _ _, hj, m27⟩
  ·rw [zq (by decide)]; exact e6
  ·rw [zq (by decide), e7]
   have : tagB u[j] = uvB key ++ (uvB (zbq (u[j]).2).length ++ zbq (u[j]).2) := by rw [hkey]; rfl
   rw [this, ← List.append_assoc, ← List.append_assoc]
   exact ho7
  ·rw [zq (by decide)]; exact e8
  ·rw [zq (by decide)]; exact e29
  ·rw [zq (by decide)]; exact e30
end
section
variable {P : Program} {N : Nums} {M : zaz}
theorem W_tags (B : Base P N) (S : SpT P N M) (hW : SW P N M) {loc : List Nat} {N' : Nat} (hlo : zhy loc N') {σ : Env} {w2 w : World} {v6 vu : Value} {u : List (Nat × List UInt8)} (hU : zje w2 vu u) (hk : ∀ x ∈ u, x.1 < 4294967296) (hul : u.length < 4611686018427387904)
  (h : TSt w2 v6 vu σ w u.length 0 []) (hbig : (u.flatMap tagB).length < 549755813888) {Q : Exit → Env → World → Prop}
  (hQ : ∀ (σ' : Env) (w' : World), TSt w2 v6 vu σ' w' u.length u.length (u.flatMap tagB) → Q .normal σ' w') :
  W P loc N' (zny N 31 30 32 6 (bTags N M)) Q σ w := by
 refine zjd (i := 31) (l := 30) (c := 32) (k := 6) hlo (L := u.length) hul (fun j σ w' => TSt w2 v6 vu σ w' u.length j ((u.take j).flatMap tagB)) (fun j σ w h => ⟨h.h31, h.h30, h.le⟩) (fun j σ w b h => h.upd (by decide) _) (by simpa using h) (fun σ' w' h => hQ σ' w' (by simpa using h)) (fun j σ' w' hj h => ?_)
 refine W_tag B S hW hU hj (hk _ (List.getElem_mem hj)) hul h (Nat.lt_of_le_of_lt (ziu tagB u j) hbig) fun σ5 w5 h1 h5 => ⟨h1, ?_⟩
 rw [zhb tagB hj]
 exact h5
theorem sp_part (B : Base P N) (S : SpT P N M) (hW : SW P N M) {flex : Bool} {v : Int} {fs : List Fld} (hl : fs.length < 4611686018427387904) (ok : ∀ f ∈ fs, OkF P M flex v f) : zsy P M flex v fs := by
 intro w fv t cs hf ht hwf hbig
 unfold zeh endB at hbig
 rw [List.length_append] at hbig
 refine hW.part.call rfl fun loc N' hlo => ?_
 unfold zqx
 refine zf fun K hK => zn fun τ => ?_
 simp +decide only [bK, bE, Nat.reduceAdd]
 obtain ⟨w1, hw1⟩ : ∃ w1, w1 = w.alloc (.cells (Value.agg cs.toArray).cells N.zb) := ⟨_, rfl⟩
 have m1 : Mod w w1 zw := by rw [hw1]; exact Mod.alloc _ _ _
 have hb : w1.rangeAt w.heap.size 0 cs := by
  rw [hw1]; exact zu w _ _ _
 have hs1 : w1.heap.size = w.heap.size + 1 := by rw [hw1]; exact zae _ _
 rw [← hw1]
 clear hw1
 refine hK _ _ (zd fun σ1 hσ => ?_)
 have a0 := hσ 0
 have a1 := hσ 1
 have a2 := hσ 2
 have a4 := hσ 4
 simp +decide only [bE, Nat.reduceBeqDiff, BEq.rfl, Nat.reduceAdd, Nat.zero_add, zrg, zoa, znz] at a0 a1 a2 a4
 clear hσ hK K
 refine zf fun K hK => zn fun τ => ?_
 simp +decide only [bK, Nat.reduceAdd]
 refine hK _ _ (zd fun σ2 hσ => ?_)
 have b0 := hσ 0
 have b1 := hσ 1
 have b2 := hσ 2
 have b4 := hσ 4
 have b6 := hσ 6
 have b7 := hσ 7
 simp +decide only [bE, Nat.reduceBeqDiff, BEq.rfl, Nat.reduceAdd, Nat.zero_add, a0, a1, a2, a4] at b0 b1 b2 b4 b6 b7
 clear hσ hK K
 refine zf fun K hK => zn fun τ => ?_
 simp +decide only [bK, Nat.reduceAdd]
 refine hK _ _ (zd fun σ3 hσ => ?_)
 have c0 := hσ 0
 have c1 := hσ 1
 have c2 := hσ 2
 have c4 := hσ 4
 have c6 := hσ 6
 have c7 := hσ 7
 have c8 := hσ 8
 simp +decide only [bE, Nat.reduceBeqDiff, BEq.rfl, Nat.reduceAdd, Nat.zero_add, b0, b1, b2, b4, b6, b7] at c0 c1 c2 c4 c6 c7 c8
 clear hσ hK K
 have hf1 := hf.stay m1
 have ht1 := RepA.stay m1 _ ht
 refine zf fun K hK => zf fun K1 hK1 => zn fun τ => ?_
 simp +decide only [bK, bE, BEq.rfl, Nat.reduceAdd, Nat.zero_add, c0, hf.run_len S]
 refine hK1 _ _ (zd fun σ4 hσ => ?_)
 have d0 := hσ 0
 have d1 := hσ 1
 have d2 := hσ 2
 have d4 := hσ 4
 have d6 := hσ 6
 have d7 := hσ 7
 have d8 := hσ 8
 have d9 := hσ 9
 have d10 := hσ 10
 have d11 := hσ 11
 simp +decide only [bE, Nat.reduceBeqDiff, BEq.rfl, Nat.reduceAdd, Nat.zero_add, c0, c1, c2, c4, c6, c7, c8] at d0 d1 d2 d4 d6 d7 d8 d9 d10 d11
 clear hσ hK1 K1
 refine W_fields B S hW hlo ⟨d0, d1, d2, d4, by rw [d6]; exact zkp, d7, d8, d9, d10, d11, Nat.zero_le _, .refl _ _⟩ hb ht1 hwf hf1 hl ok (by omega) fun σ5 w5 st => hK _ _ ?_
 clear hK K d0 d1 d2 d4 d6 d7 d8 d9 d10 d11 c0 c1 c2 c4 c6 c7 c8 b0 b1 b2 b4 b6 b7 a0 a1 a2 a4
 refine zf fun K hK => zf fun K1 hK1 => zn fun τ => ?_
 simp +decide only [bK, bE, BEq.rfl, Nat.reduceAdd, st.h2]
 refine hK1 _ _ (zd fun σ6 hσ => ?_)
 have a0 := hσ 0
 have a4 := hσ 4
 have a6 := hσ 6
 have a7 := hσ 7
 have a8 := hσ 8
 have a16 := hσ 16
 simp +decide only [bE, Nat.reduceBeqDiff, BEq.rfl, Nat.reduceAdd, Nat.zero_add, st.h0, st.h4, st.h7, st.h8] at a0 a4 a6 a7 a8 a16
 clear hσ hK1 K1
 refine W_if hlo a16 ?_
 cases flex with
 | false =>
  simp only [Bool.not_false, if_true]
  refine zf fun K1 hK1 => zn fun τ => ?_
  simp +decide only [bK, bE, BEq.rfl, Nat.reduceAdd]
  refine hK1 _ _ (zd fun σ7 hσ => zbl ⟨.inr rfl, _, rfl, ?_⟩)
  have q := hσ 5
  simp +decide only [bE, BEq.rfl, Nat.reduceAdd] at q
  rw [q, a6]
  unfold zeh endB
  simp only [Bool.false_eq_true, if_false, List.append_nil]
  exact ⟨st.h6.mono_lo (by omega), m1.trans' st.mod⟩
 | true =>
  simp only [Bool.not_true, Bool.false_eq_true, if_false]
  refine zbv (hK _ _ ?_)
  clear hK K a16
  simp only [if_true] at hbig
  rw [List.length_append] at hbig
  have h6 := st.h6
  rw [← a6] at h6
  refine zf fun K hK => zf fun K1 hK1 => zn fun τ => ?_
  simp +decide only [bK, bE, Nat.reduceAdd, Nat.zero_add, a0]
  rw [zbb hW.known.has]
  simp +decide only [bK, bE, BEq.rfl]
  refine (sp_known B S hW.known (hf1.stay st.mod) hl fun f hf => (ok f hf).1).mono ?_
  rintro _ w6 ⟨rfl, m6⟩
  have hcv := fun {w : World} => zax (P := P) (w := w) (k' := .u32) B.uint32 B.int (n := 0) ⟨_, rfl⟩
  have hw0 : IntKind.i64.wrap 0 = 0 := by decide
  simp +decide only [bK, hcv, hw0]
  refine hK1 _ _ (zd fun σ7 hσ => ?_)
  have b0 := hσ 0
  have b4 := hσ 4
  have b6 := hσ 6
  have b7 := hσ 7
  have b8 := hσ 8
  have b17 := hσ 17
  have b18 := hσ 18
  simp +decide only [bE, Nat.reduceBeqDiff, BEq.rfl, Nat.reduceAdd, Nat.zero_add, a0, a4, a7, a8] at b0 b4 b6 b7 b8 b17 b18
  clear hσ hK1 K1
  obtain ⟨v6, hv6⟩ : ∃ v6, v6 = σ6 6 := ⟨_, rfl⟩
  rw [← hv6] at h6 b6
  refine zjd (i := 18) (l := 17) (c := 19) (k := 2) hlo (L := 0) (by omega) (fun j σ w' => σ 0 = fv ∧ σ 4 = .pointer (some ⟨w.heap.size, 0, none⟩) ∧ σ 6 = v6 ∧ σ 7 = .slice none 0 0 ∧ σ 8 = .int .i64 0 ∧ σ 17 = .int .i64 0 ∧ σ 18 = .int .i64 j ∧ j ≤ 0 ∧ w' = w6) (fun j σ w h => ⟨h.2.2.2.2.2.2.1, h.2.2.2.2.2.1, h.2.2.2.2.2.2.2.1⟩) (fun j σ w b h => ?_) ⟨b0, b4, b6, b7, b8, b17, b18, Nat.le_refl _, rfl⟩ (fun σ8 w8 h => hK _ _ ?_) (fun j σ' w' hj h => absurd hj (by omega))
  ·obtain ⟨x0, x4, x6, x7, x8, x17, x18, xl, rfl⟩ := h
   refine ⟨?_, ?_, ?_, ?_, ?_, ?_, ?_, xl, rfl⟩ <;> (rw [zq (by decide)]; assumption)
  obtain ⟨x0, x4, x6, x7, x8, _, _, _, rfl⟩ := h
  clear hK K b0 b4 b6 b7 b8 b17 b18 a0 a4 a6 a7 a8 hv6
  have m18 : Mod w1 w8 zw := st.mod.trans' m6
  have h68 := h6.stay m6 fun _ _ _ h => h
  have hb8 := zh m18 hb
  obtain ⟨vs, vl, vu, hcs, _, _, htu⟩ := ht1.out
  have hc4 : w8.cell? ⟨w.heap.size, 4, none⟩ = some vu := hb8 4 _ (by rw [hcs]; rfl)
  refine zf fun K hK => zf fun K1 hK1 => zn fun τ => ?_
  simp +decide only [bK, bE, Nat.reduceBeqDiff, BEq.rfl, Nat.reduceAdd, Nat.zero_add, x0, x4, S.tr.h4.run, S.tr.lg.run_load1 rfl, hc4]
  rw [zah hW.unknown.has]
  simp +decide only [bK, bE, Nat.reduceBeqDiff, BEq.rfl]
  refine (sp_unknown B S hW (hf1.stay m18) hl (fun f hf => (ok f hf).1) (htu.stay m18)).mono ?_
  rintro r w9 ⟨hr, m9⟩
  simp +decide only [bK, hr.run_len S]
  refine hK1 _ _ (zd fun σ9 hσ => ?_)
  have e6 := hσ 6
  have e7 := hσ 7
  have e8 := hσ 8
  have e29 := hσ 29
  have e30 := hσ 30
  have e31 := hσ 31
  simp +decide only [bE, Nat.reduceBeqDiff, BEq.rfl, Nat.reduceAdd, x6, x7, x8] at e6 e7 e8 e29 e30 e31
  clear hσ hK1 K1
  have hul := unkT_len t.u
  refine W_tags B S hW hlo (w2 := w9) (v6 := v6) (vu := r) (u := unkT t.u) hr.tagsA (fun x hx => hwf.u x (unkT_mem hx)) (by omega) ⟨e6, by rw [e7]; exact zkp, e8, e29, e30, e31, Nat.zero_le _, .refl _ _⟩ (by omega) fun σ10 w10 tt => hK _ _ ?_
  clear hK K
  have m19 := m18.trans' m9
  have h610 := (h68.stay m9 fun _ _ _ h => h).stay tt.mod fun _ _ _ h => h
  have m110 := m19.trans' tt.mod
  have hcv := fun {w : World} => zax (P := P) (w := w) (k' := .i64) B.int B.uint64 (n := (unkT t.u).length) ⟨_, rfl⟩
  refine zf fun K hK => zn fun τ => ?_
  simp +decide only [bK, bE, Nat.reduceBeqDiff, BEq.rfl, Nat.reduceAdd, tt.h6, tt.h8, hcv]
  rw [zly _ (by omega), zbb hW.Uvarint.has]
  simp +decide only [bK, bE, Nat.reduceBeqDiff, BEq.rfl]
  refine (zma B hW.Uvarint w10 _ (by omega)).mono ?_
  rintro r3 w11 ⟨ho3, m11⟩
  have hu3 : (uvB (unkT t.u).length).length ≤ 10 := zil (by omega)
  have h611 := h610.stay m11 fun _ _ _ h => h
  have m111 := m110.trans' m11
  obtain ⟨v4, w12, hap4, ho4, m12, _⟩ := zee (ty := N.za) B h611 ho3.octA m111.size (by omega)
  have m112 : Mod w1 w12 zw := Mod.ofOwn h611 m111 m12
  have h7 : OctA w12 (σ10 7) ((unkT t.u).flatMap tagB) := by
   have h711 := tt.h7.stay m11 fun _ _ _ h => h
   exact (h711.stay m12 fun b _ hb hv => by have x1 := (tt.h7.blk hb).1; have x2 := (h68.blk hv).2; have x3 := m9.size; omega).octA
  simp +decide only [bK, hap4]
  obtain ⟨v5, w13, hap5, ho5, m13, _⟩ := zee (ty := N.za) B ho4 h7 m112.size (by simp only [List.length_append]; omega)
  have m113 : Mod w1 w13 zw := Mod.ofOwn ho4 m112 m13
  simp +decide only [bK, hap5]
  refine hK _ _ (zd fun σ11 hσ => zbl ⟨.inr rfl, _, rfl, ?_⟩)
  have q := hσ 5
  simp +decide only [bE, BEq.rfl, Nat.reduceAdd] at q
  rw [q]
  unfold zeh endB
  simp only [if_true]
  rw [← List.append_assoc]
  exact ⟨ho5.mono_lo (by omega), m1.trans' m113⟩
end
mutual
def okFB : Fld → Bool
 | .mk k _ _ _ g _ o sub => decide (g < 0) && decide (k ≠ 10) && (decide (k ≠ 11) || decide (o ≠ 10) || (Nat.blt sub.length 1000 && zkq sub))
def zkq : List Fld → Bool
 | [] => true
 | f :: r => okFB f && zkq r
end
section
variable {P : Program} {N : Nums} {M : zaz}
mutual
theorem okF_of (B : Base P N) (S : SpT P N M) (hW : SW P N M) {flex : Bool} {v : Int} : ∀ (f : Fld), okFB f = true → OkF P M flex v f
 | .mk k _ _ _ g _ o sub, h => by
  simp only [okFB, Bool.and_eq_true, decide_eq_true_eq, Bool.or_eq_true] at h
  obtain ⟨⟨h1, h2⟩, h3⟩ := h
  refine ⟨h1, h2, fun hk ho => ?_⟩
  rcases h3 with (h3 | h3) | ⟨h3, h4⟩
  ·exact absurd hk h3
  ·exact absurd ho h3
  ·have : sub.length < 1000 := by simpa using h3
   exact sp_part B S hW (Nat.lt_trans this (by decide)) (zxi B S hW sub h4)
theorem zxi (B : Base P N) (S : SpT P N M) (hW : SW P N M) {flex : Bool} {v : Int} : ∀ (l : List Fld), zkq l = true → ∀ f ∈ l, OkF P M flex v f
 | [], _, f, hf => by cases hf
 | g :: r, h, f, hf => by
  simp only [zkq, Bool.and_eq_true] at h
  rcases List.mem_cons.1 hf with e | hf
  ·rw [e]; exact okF_of B S hW g h.1
  ·exact zxi B S hW r h.2 f hf
end
theorem partOk_of (B : Base P N) (S : SpT P N M) (hW : SW P N M) {flex : Bool} {v : Int} {l : List Fld} (h1 : l.length < 1000) (h : zkq l = true) : zsy P M flex v l :=
 sp_part B S hW (Nat.lt_trans h1 (by decide)) (zxi B S hW l h)
def zkc (fl v : Int) : Bool := decide (0 ≤ fl) && decide (fl ≤ v)
theorem sp_Write (B : Base P N) (S : SpT P N M) (hW : SW P N M) {w : World} {fv : Value} {fl v : Int} {fs : List Fld} {t : Tr} {cs : List Value} (h1 : fs.length < 1000) (hok : zkq fs = true) (hf : zgd w fv fs) (ht : RepA w t cs) (hwf : wfT t)
  (hbig : (zeh (zkc fl v) v fs t).length < 549755813888) :
  Call P M.zjm #[.agg [fv, .int .i64 fl].toArray, .int .i64 v, .agg cs.toArray] w (Gave w (zeh (zkc fl v) v fs t)) := by
 refine hW.Write.call rfl fun loc N' hlo => ?_
 unfold zph
 refine zf fun K hK => zn fun τ => ?_
 simp +decide only [bK, bE, Nat.reduceBeqDiff, Nat.reduceAdd, Nat.zero_add]
 obtain ⟨w1, hw1⟩ : ∃ w1, w1 = w.alloc (.cells (Value.cells (.agg [fv, .int .i64 fl].toArray)) M.zac) := ⟨_, rfl⟩
 have m1 : Mod w w1 zw := by rw [hw1]; exact Mod.alloc _ _ _
 have r1 : w1.rangeAt w.heap.size 0 [fv, .int .i64 fl] := by rw [hw1]; exact zu w _ _ _
 rw [← hw1]
 clear hw1
 obtain ⟨w2, hw2⟩ : ∃ w2, w2 = w1.alloc (.cells (Value.cells (.agg cs.toArray)) N.zb) := ⟨_, rfl⟩
 have m2 : Mod w1 w2 zw := by rw [hw2]; exact Mod.alloc _ _ _
 have r2 : w2.rangeAt w1.heap.size 0 cs := by rw [hw2]; exact zu w1 _ _ _
 rw [← hw2]
 clear hw2
 have m02 := m1.trans' m2
 have r1' := zh m2 r1
 refine hK _ _ (zd fun σ hσ => ?_)
 have f1 := hσ 1
 have f3 := hσ 3
 have f4 := hσ 4
 simp +decide only [bE, Nat.reduceBeqDiff, BEq.rfl, Nat.reduceAdd, zgt] at f1 f3 f4
 clear hσ hK K
 have x0 := r1' 0 _ rfl
 have x1 := r1' 1 _ rfl
 have hld := zbo S.tr r2 ht.len
 have hpart := partOk_of B S hW (flex := zkc fl v) (v := v) h1 hok w2 fv t cs (hf.stay m02) (RepA.stay m02 _ ht) hwf hbig
 refine zf fun K hK => zn fun τ => ?_
 have fin : ∀ {r : Value} {w3 : World} {ρ : Env}, Gave w2 (zeh (zkc fl v) v fs t) r w3 → ρ 105 = r → K (locs ρ) w3 := fun {r w3 ρ} h hq => hK _ _ (zbl ⟨.inr rfl, _, rfl, by
  show Gave w _ (locs ρ 5) w3
  rw [show locs ρ 5 = r from hq]
  exact ⟨h.1.mono_lo m02.size, m02.trans' h.2⟩⟩)
 by_cases a : fl ≥ 0
 ·have hfx : zkc fl v = decide (v ≥ fl) := by unfold zkc; simp [show 0 ≤ fl from a]
  simp +decide only [bK, bE, Nat.reduceBeqDiff, decide_true, BEq.rfl, Nat.reduceAdd, Nat.add_zero, Nat.zero_add, if_true, f1, f3, f4, S.m0.run, S.m1.run, S.lf.run_load1 rfl, B.int.run_load1 rfl, x0, x1, a, zbw, zcw, hld]
  rw [zik hW.part.has]
  simp +decide only [bK, bE, Nat.reduceBeqDiff, BEq.rfl]
  rw [← hfx]
  refine hpart.mono ?_
  rintro r w3 hg
  exact fin hg (by simp +decide only [bE, BEq.rfl])
 ·have hfx : zkc fl v = false := by unfold zkc; simp [show ¬ 0 ≤ fl from a]
  simp +decide only [bK, bE, Nat.reduceBeqDiff, decide_false, BEq.rfl, Nat.reduceAdd, Nat.add_zero, Nat.zero_add, if_false, f1, f3, f4, S.m0.run, S.m1.run, S.lf.run_load1 rfl, B.int.run_load1 rfl, x0, x1, a, zcf, Bool.not_true, zcw, hld]
  rw [zik hW.part.has]
  simp +decide only [bK, bE, Nat.reduceBeqDiff, BEq.rfl]
  rw [← hfx]
  refine hpart.mono ?_
  rintro r w3 hg
  exact fin hg (by simp +decide only [bE, BEq.rfl])
end
def Fld.may (f : Fld) (v : Int) : Bool := decide (0 ≤ f.null) && decide (f.null ≤ v)
theorem OctA.get {P : Program} {N : Nums} (B : Base P N) {w : World} {v : Value} {l : List UInt8} (h : OctA w v l) {j : Nat} {x : UInt8} (hx : l[j]? = some x) :
  ∃ b o, (∀ w', (Instr.indexAt N.za v (.int .i64 j)).run P w' = .ok (.pointer (some ⟨b, o, none⟩)) w') ∧ w.cell? ⟨b, o, none⟩ = some (.int .u8 x.toNat) := by
 have hj := (List.getElem?_eq_some_iff.1 hx).1
 rcases h with ⟨_, _, rfl, e⟩ | ⟨b, o, c, rfl, h2, h4⟩
 ·subst e; simp at hj
 ·refine ⟨b, o + j * 1, fun w' => zbf B.Lu8 B.uint8 hj, ?_⟩
  have := h4 j (zam x) (by rw [List.getElem?_map, hx]; rfl)
  simpa [zam] using this
section
variable {P : Program} {N : Nums} {M : zaz}
theorem zsu (B : Base P N) (F : Fns P N) (hN : N.zec ≠ 0) {w : World} {v1 v2 : Value} {l : List UInt8} (h1 : OctA w v1 l) (h2 : OctA w v2 l) (hl : l.length < 4611686018427387904) :
  Call P N.zec #[v1, v2] w fun v w' => v = .bool true ∧ Mod w w' zw := by
 refine (F.spec_Same hN).call rfl fun loc N' hlo => ?_
 unfold zqz
 refine zf fun K hK => zcy (hK _ _ ?_)
 clear hK K
 obtain ⟨σ, hσ⟩ : ∃ σ, σ = upd (zef #[v1, v2]) 2 (.bool false) := ⟨_, rfl⟩
 have f0 : σ 0 = v1 := by rw [hσ, zq (by decide)]; rfl
 have f1 : σ 1 = v2 := by rw [hσ, zq (by decide)]; rfl
 rw [← hσ]
 clear hσ
 refine zf fun K hK => zf fun K1 hK1 => zn fun τ => ?_
 simp +decide (disch := omega) only [bK, bE, Nat.reduceBeqDiff, BEq.rfl, Nat.reduceAdd, Nat.zero_add, f0, f1, h1.run_len B, h2.run_len B, zci, zjj, locs_envOf]
 refine hK1 _ _ (W_if hlo (upd_same _ _ _) ?_)
 clear hK1 K1
 rw [show ((l.length : Int) != (l.length : Int)) = false from by simp, if_neg (by simp)]
 refine zbv (hK _ _ ?_)
 clear hK K
 refine zf fun K hK => zf fun K1 hK1 => zn fun τ => ?_
 simp +decide (disch := omega) only [bK, bE, BEq.rfl, Nat.reduceAdd, Nat.zero_add, zq, f0, h1.run_len B]
 refine hK1 _ _ (zd fun σ2 hσ => ?_)
 have g0 := hσ 0
 have g1 := hσ 1
 have g4 := hσ 4
 have g5 := hσ 5
 simp +decide only [bE, Nat.reduceBeqDiff, BEq.rfl, Nat.reduceAdd, Nat.zero_add, zq, f0, f1] at g0 g1 g4 g5
 clear hσ hK1 K1
 refine zgv (i := 5) (l := 4) (c := 6) (k := 0) hlo hl (fun j σ w' => σ 0 = v1 ∧ σ 1 = v2 ∧ σ 4 = .int .i64 l.length ∧ σ 5 = .int .i64 j ∧ j ≤ l.length ∧ Mod w w' zw) (fun j σ w h => ⟨h.2.2.2.1, h.2.2.1, h.2.2.2.2.1⟩) (fun j σ w b h => ?_) ⟨g0, g1, g4, g5, Nat.zero_le _, .refl _ _⟩ (fun σ' w' h => hK _ _ ?_) (fun j σ' w' hj h => ?_)
 ·obtain ⟨a, b, c, d, e, f⟩ := h
  exact ⟨by rw [zq (by decide)]; exact a, by rw [zq (by decide)]; exact b, by rw [zq (by decide)]; exact c, by rw [zq (by decide)]; exact d, e, f⟩
 ·refine zf fun K2 hK2 => zcy (hK2 _ _ (zbl ⟨.inr rfl, _, rfl, upd_same _ _ _, h.2.2.2.2.2⟩))
 ·obtain ⟨a, b, c, d, e, f⟩ := h
  have hx : l[j]? = some l[j] := List.getElem?_eq_getElem hj
  have md : Mod w w'.drew zw := f.trans' (Mod.drew _ _)
  obtain ⟨b1, o1, hi1, hc1⟩ := (h1.stay md).get B hx
  obtain ⟨b2, o2, hi2, hc2⟩ := (h2.stay md).get B hx
  refine zf fun K2 hK2 => zn fun τ => ?_
  simp +decide (disch := omega) only [bK, bE, BEq.rfl, Nat.reduceAdd, d]
  refine hK2 _ _ (zd fun σ3 hσ => ?_)
  have p0 := hσ 0
  have p1 := hσ 1
  have p4 := hσ 4
  have p5 := hσ 5
  have p7 := hσ 7
  simp +decide only [bE, Nat.reduceBeqDiff, BEq.rfl, Nat.reduceAdd, Nat.zero_add, a, b, c, d] at p0 p1 p4 p5 p7
  clear hσ hK2 K2
  refine zf fun K2 hK2 => zuk B.mixed (by kernel_rfl) fun τ => ?_
  simp +decide (disch := omega) only [bK, bE, zmi, Nat.reduceBeqDiff, BEq.rfl, Nat.reduceAdd, Nat.zero_add, true_and, p0, p1, p7, hi1, hi2, B.uint8.run_load1 rfl, hc1, hc2]
  refine hK2 _ _ (zd fun σ4 hσ => ?_)
  have q0 := hσ 0
  have q1 := hσ 1
  have q4 := hσ 4
  have q5 := hσ 5
  have q8 := hσ 8
  simp +decide only [bE, Nat.reduceBeqDiff, BEq.rfl, Nat.reduceAdd, Nat.zero_add, p0, p1, p4, p5] at q0 q1 q4 q5 q8
  clear hσ hK2 K2
  refine W_if hlo q8 ?_
  rw [show ((l[j].toNat : Int) != (l[j].toNat : Int)) = false from by simp, if_neg (by simp)]
  refine zbv ⟨q5, ?_⟩
  exact ⟨by rw [zq (by decide)]; exact q0, by rw [zq (by decide)]; exact q1, by rw [zq (by decide)]; exact q4, upd_same _ _ _, by omega, md⟩
end
section
variable {P : Program} {N : Nums} {M : zaz}
def Fld.one (f : Fld) : Fld := .mk f.of f.frm f.to (-1) (-1) f.dflt f.of f.sub
end
section
variable {a b c d e : Value}
end
section
variable {P : Program} {N : Nums} {M : zaz}
end
theorem zfm {w : World} {b i : Nat} {cs : List Value} {v : Value} (h : w.rangeAt b 0 cs) (hi : i < cs.length) : (w.setCell ⟨b, i, none⟩ v).rangeAt b 0 (cs.set i v) := by
 intro j u hj
 rw [Nat.zero_add]
 have hjl : j < cs.length := by simpa using (List.getElem?_eq_some_iff.1 hj).1
 have hc : w.cell? ⟨b, j, none⟩ = some cs[j] := by have := h j cs[j] (List.getElem?_eq_getElem hjl); rwa [Nat.zero_add] at this
 by_cases e : j = i
 ·subst e
  rw [List.getElem?_set_self hjl] at hj
  injection hj with hj
  subst hj
  exact World.cell?_setCell_same _ _ _ hc
 ·rw [List.getElem?_set_ne (fun h => e h.symm), List.getElem?_eq_getElem hjl] at hj
  rw [World.cell?_setCell_other _ _ _ _ (by intro h; injection h with _ h2; exact e h2.symm), hc]
  exact hj
section
variable {P : Program} {N : Nums} {M : zaz}
end
section
variable {P : Program} {N : Nums} {M : zaz}
end
section
variable {P : Program} {N : Nums} {M : zaz}
end
section
variable {P : Program} {N : Nums} {M : zaz}
end
section
variable {P : Program} {N : Nums} {M : zaz}
end
section
variable {P : Program} {N : Nums} {M : zaz}
end
def rs (l : List UInt8) : RS := ⟨l, false, false⟩
theorem be_foldl (l : List UInt8) (a : Nat) : l.foldl (fun a x => a * 256 + x.toNat) a = a * 256 ^ l.length + be l := by
 unfold be
 induction l generalizing a with
 | nil => simp
 | cons x l ih =>
  rw [List.foldl_cons, List.foldl_cons, ih, ih (0 * 256 + x.toNat), List.length_cons, Nat.pow_succ, Nat.add_mul, Nat.zero_mul, Nat.zero_add, Nat.mul_assoc, Nat.mul_comm 256, Nat.add_assoc]
theorem zue (x : UInt8) (l : List UInt8) : be (x :: l) = x.toNat * 256 ^ l.length + be l := by
 rw [be, List.foldl_cons, be_foldl, Nat.zero_mul, Nat.zero_add]
theorem zmz (n : Int) : IntKind.u8.wrap n = n % 256 := by simp [IntKind.wrap, IntKind.bits, IntKind.signed]
theorem zxw (n : Int) : ∀ k : Nat, (be (fixB n k) : Int) = n % (256 ^ k : Nat)
 | 0 => by simp [fixB, be]
 | k + 1 => by
  rw [fixB, zue, zdr, Int.natCast_add, zxw n k, zmz]
  have hp : (2 : Int) ^ (8 * k) = ((256 ^ k : Nat) : Int) := by
   rw [show (256 : Nat) = 2 ^ 8 from rfl, ← Nat.pow_mul, Int.natCast_pow]; rfl
  rw [hp]
  obtain ⟨p, hpk⟩ : ∃ p : Nat, p = 256 ^ k := ⟨_, rfl⟩
  have hp0 : 0 < p := by rw [hpk]; exact Nat.pow_pos (by decide)
  rw [← hpk, Nat.pow_succ, ← hpk]
  rw [Int.fdiv_eq_ediv_of_nonneg _ (by omega)]
  have hd : (UInt8.ofNat ((n / (p : Int)) % 256).toNat).toNat = ((n / (p : Int)) % 256).toNat := by
   rw [UInt8.toNat_ofNat']; omega
  rw [hd]
  have h1 : ((((n / (p : Int)) % 256).toNat : Nat) : Int) = (n / (p : Int)) % 256 := by omega
  rw [Int.natCast_mul, h1]
  have e1 := Int.emod_add_mul_ediv n (p : Int)
  have e2 := Int.emod_add_mul_ediv (n / (p : Int)) 256
  have l1 := Int.emod_nonneg n (show (p : Int) ≠ 0 by omega)
  have l2 := Int.emod_lt_of_pos n (show (0 : Int) < p by omega)
  have l3 := Int.emod_nonneg (n / (p : Int)) (show (256 : Int) ≠ 0 by decide)
  have l4 := Int.emod_lt_of_pos (n / (p : Int)) (show (0 : Int) < 256 by decide)
  generalize n % (p : Int) = m at *
  generalize (n / (p : Int)) % 256 = d at *
  generalize (n / (p : Int)) / 256 = q at *
  generalize n / (p : Int) = z at *
  subst e2
  have hn : n = (d * p + m) + ((p * 256 : Nat) : Int) * q := by
   rw [← e1, Int.natCast_mul, Int.mul_add, Int.mul_comm d, Int.mul_assoc]
   have : ((256 : Nat) : Int) = 256 := rfl
   rw [this]
   omega
  rw [hn, Int.add_mul_emod_self_left, Int.emod_eq_of_lt]
  ·have := Int.mul_nonneg l3 (show (0 : Int) ≤ p by omega); omega
  ·have : d * p ≤ 255 * p := Int.mul_le_mul_of_nonneg_right (by omega) (by omega)
   rw [Int.natCast_mul]; omega
theorem uvB_pos (n : Nat) : 0 < (uvB n).length := by
 by_cases h : n < 128
 ·rw [zfl h]; simp
 ·rw [zgz h]; simp
theorem zuo {n : Nat} (h : n ≤ 32767) : IntKind.i16.wrap (n : Int) = n := by
 show (let m := (n : Int) % 65536; if (true && decide (m ≥ 32768)) = true then m - 65536 else m) = n
 have : (n : Int) % 65536 = n := by omega
 simp only [this]
 rw [if_neg (by simp; omega)]
def zop : PK → Int → Bool
 | .bool, k => decide (k = 0) | .i8, k => decide (k = 1) | .i16, k => decide (k = 2) | .u16, k => decide (k = 5) | .i32, k => decide (k = 3) | .i64, k => decide (k = 4) | .uuid, k => decide (k = 7) | .en _, _ => false
theorem zge {n : Int} (h1 : -9223372036854775808 ≤ n) (h2 : n < 9223372036854775808) : IntKind.i64.wrap n = n := by
 rw [IntKind.wrap_i64]; omega
theorem zun (n : Int) : -128 ≤ IntKind.i8.wrap n ∧ IntKind.i8.wrap n < 128 := by
 have e : IntKind.i8.wrap n = (let m := n % 256; if (true && decide (m ≥ 128)) = true then m - 256 else m) := rfl
 rw [e]; simp only [Bool.true_and, decide_eq_true_eq]; split <;> omega
theorem wrap_i16_r (n : Int) : -32768 ≤ IntKind.i16.wrap n ∧ IntKind.i16.wrap n < 32768 := by
 have e : IntKind.i16.wrap n = (let m := n % 65536; if (true && decide (m ≥ 32768)) = true then m - 65536 else m) := rfl
 rw [e]; simp only [Bool.true_and, decide_eq_true_eq]; split <;> omega
theorem wrap_i32_r (n : Int) : -2147483648 ≤ IntKind.i32.wrap n ∧ IntKind.i32.wrap n < 2147483648 := by
 rw [IntKind.wrap_i32]; omega
theorem ztt (l : List UInt8) : (l.map zam).map (fun v => match v with | .int _ n => UInt8.ofNat n.toNat | _ => 0) = l := by
 rw [List.map_map]
 conv => rhs; rw [← List.map_id l]
 refine List.map_congr_left fun x _ => ?_
 simp [zam]
theorem idB_len (s : List UInt8) : (idB s).length = 16 := by
 unfold idB; rw [List.length_append, List.length_take, List.length_replicate]; omega
theorem zry (s : List UInt8) : (zbq s).length ≤ 32767 := by simp [zbq, most]; omega
theorem valB_txt {fl : Bool} {pt : Tr → List UInt8} {null : Bool} {t : Tr} : valB fl 8 pt null t = zao fl null (if null then [] else zbq t.s).length 2 ++ (if null then [] else zbq t.s) := by simp [valB]
theorem valB_byt {fl : Bool} {pt : Tr → List UInt8} {null : Bool} {t : Tr} : valB fl 9 pt null t = zao fl null (if null then [] else zbq t.s).length 4 ++ (if null then [] else zbq t.s) := by simp [valB]
def Txt.kind : Txt → Int | .str => 8 | .nstr => 8 | .byt => 9 | .nbyt => 9
theorem zqo {k : Nat} {x : List UInt8} : ∀ {a : List (Nat × List UInt8)}, (a.map Prod.fst).Pairwise (· < ·) → ((insT k x a).map Prod.fst).Pairwise (· < ·)
 | [], _ => by simp [insT]
 | (k', y) :: a, h => by
  rw [List.map_cons, List.pairwise_cons] at h
  rw [insT]
  split
  ·rw [List.map_cons, List.pairwise_cons]
   refine ⟨fun z hz => ?_, zqo h.2⟩
   obtain ⟨p, hp, rfl⟩ := List.mem_map.1 hz
   rcases ztv hp with rfl | hp
   ·assumption
   ·exact h.1 _ (List.mem_map.2 ⟨p, hp, rfl⟩)
  ·split
   ·rw [List.map_cons, List.pairwise_cons]; exact h
   ·rw [List.map_cons, List.map_cons, List.pairwise_cons, List.pairwise_cons]
    refine ⟨fun z hz => ?_, h⟩
    rcases List.mem_cons.1 hz with e | hz
    ·rw [e]; show k < k'; omega
    ·have := h.1 z hz
     show k < z
     have h2 : k' < z := this
     omega
theorem zqq : ∀ (u a : List (Nat × List UInt8)), (a.map Prod.fst).Pairwise (· < ·) → ((u.foldl (fun a x => insT x.1 x.2 a) a).map Prod.fst).Pairwise (· < ·)
 | [], a, h => h
 | x :: u, a, h => zqq u _ (zqo h)
theorem zqe (u : List (Nat × List UInt8)) : ((unkT u).map Prod.fst).Pairwise (· < ·) := zqq _ _ (by simp)
theorem zwv {l : List (Nat × List UInt8)} (h : (l.map Prod.fst).Pairwise (· < ·)) : zdd l = l := by
 unfold zdd
 refine List.mergeSort_of_pairwise ?_
 rw [List.pairwise_map] at h
 exact h.imp fun h => by simpa using Nat.le_of_lt h
def znh (flex : Bool) (v : Int) (fs : List Fld) (i : Nat) (t : Tr) : List UInt8 := zcs flex v fs i t ++ if flex then uvB (unkT t.u).length ++ (unkT t.u).flatMap tagB else []
theorem zkd {fl : Bool} {ver : Int} {f : Fld} {t : Tr} (h : f.kind ≠ 11) : zfe fl ver f t = valB fl f.kind (zeh fl ver f.sub) (f.nullB ver t) t := zor h
theorem znj {f : Fld} {ver : Int} {t : Tr} (h : f.may ver = false) : f.nullB ver t = false := by
 unfold Fld.may at h; unfold Fld.nullB; rw [Bool.and_assoc, h]; simp
theorem zxl {k : PK} {n : Int} (h : zop k n = true) : n ≠ 11 ∧ n ≠ 8 ∧ n ≠ 10 ∧ n ≠ 9 := by
 cases k <;> simp [zop] at h <;> omega
def szU (u : List (Nat × List UInt8)) : Nat := (u.map fun x => 1 + x.2.length).sum
mutual
def szT : Tr → Nat
 | .mk _ s _ l u => 1 + s.length + szTs l + szU u
def szTs : List Tr → Nat
 | [] => 0
 | t :: l => szT t + szTs l
end
theorem zsa (t : Tr) : szT t = 1 + t.s.length + szTs t.l + szU t.u := by cases t; rfl
theorem zte (t : Tr) : 1 ≤ szT t := by rw [zsa]; omega
theorem szU_ins (k : Nat) (x : List UInt8) : ∀ a : List (Nat × List UInt8), szU (insT k x a) ≤ szU a + (1 + x.length)
 | [] => by simp [insT, szU]
 | (k', y) :: a => by
  have ih := szU_ins k x a
  rw [insT]
  split
  ·simp only [szU, List.map_cons, List.sum_cons] at ih ⊢; omega
  ·split
   ·omega
   ·simp only [szU, List.map_cons, List.sum_cons]; omega
theorem szU_fold : ∀ u a : List (Nat × List UInt8), szU (u.foldl (fun a x => insT x.1 x.2 a) a) ≤ szU a + szU u
 | [], a => by simp [szU]
 | x :: u, a => by
  have h1 := szU_ins x.1 x.2 a
  have h2 := szU_fold u (insT x.1 x.2 a)
  have e : szU (x :: u) = 1 + x.2.length + szU u := by simp [szU]
  rw [List.foldl_cons]; omega
theorem szU_take (n : Nat) : ∀ u : List (Nat × List UInt8), szU (u.take n) ≤ szU u := by
 induction n with
 | zero => intro u; simp [szU]
 | succ n ih =>
  intro u
  cases u with
  | nil => simp
  | cons x u => have := ih u; simp only [szU, List.take_succ_cons, List.map_cons, List.sum_cons] at this ⊢; omega
theorem szU_unk (u : List (Nat × List UInt8)) : szU (unkT u) ≤ szU u := by
 have h1 := szU_fold (u.take most) []
 have h2 := szU_take most u
 have : szU ([] : List (Nat × List UInt8)) = 0 := rfl
 unfold unkT; omega
theorem uvB_le {n : Nat} (h : n < 2 ^ 64) : (uvB n).length ≤ 10 := zil h
theorem tags_len : ∀ (u : List (Nat × List UInt8)), (∀ x ∈ u, x.1 < 4294967296) → (u.flatMap tagB).length ≤ 20 * szU u
 | [], _ => by simp [szU]
 | x :: u, h => by
  have ih := tags_len u fun y hy => h y (by simp [hy])
  have h1 := uvB_le (n := x.1) (by have := h x (by simp); omega)
  have hw := zry x.2
  have h2 := uvB_le (n := (zbq x.2).length) (by omega)
  have h3 : (zbq x.2).length ≤ x.2.length := by simp [zbq]; omega
  have e : szU (x :: u) = 1 + x.2.length + szU u := by simp [szU]
  rw [List.flatMap_cons, List.length_append, e, tagB]
  simp only [List.length_append]; omega
theorem end_len {flex : Bool} {u : List (Nat × List UInt8)} (h : ∀ x ∈ u, x.1 < 4294967296) : (if flex then uvB (unkT u).length ++ (unkT u).flatMap tagB else []).length ≤ 10 + 20 * szU u := by
 cases flex with
 | false => simp
 | true =>
  have h1 := unkT_len u
  have h2 := uvB_le (n := (unkT u).length) (by omega)
  have h3 := tags_len (unkT u) fun x hx => h x (unkT_mem hx)
  have h4 := szU_unk u
  simp only [if_true, List.length_append]; omega
def K0 : Nat := 40000
theorem zqt (fl null : Bool) (n size : Nat) (hn : n ≤ 32767) (hs : size ≤ 8) : (zao fl null n size).length ≤ 10 := zpd fl null n size hn hs
theorem valB_len {fl : Bool} {kind : Int} {pt : Tr → List UInt8} {null : Bool} {t : Tr} (hp : kind = 10 → (pt t).length ≤ K0 * szT t) : (valB fl kind pt null t).length ≤ K0 * szT t ∧ (kind ≠ 10 → (valB fl kind pt null t).length ≤ 20 + t.s.length) := by
 have h1 := zte t
 have hs : t.s.length ≤ szT t := by rw [zsa]; omega
 have hw : (zbq t.s).length ≤ t.s.length := by simp [zbq]; omega
 have hw2 := zry t.s
 have key : (valB fl kind pt null t).length ≤ 20 + t.s.length → (valB fl kind pt null t).length ≤ K0 * szT t ∧ (kind ≠ 10 → (valB fl kind pt null t).length ≤ 20 + t.s.length) := fun h => ⟨by unfold K0; omega, fun _ => h⟩
 have hc : ∀ size, size ≤ 8 → (zao fl null (if null then [] else zbq t.s).length size ++ (if null then [] else zbq t.s)).length ≤ 20 + t.s.length := by
  intro size hsz
  have hl : (if null then [] else zbq t.s).length ≤ t.s.length ∧ (if null then [] else zbq t.s).length ≤ 32767 := by cases null <;> simp <;> omega
  have := zqt fl null _ size hl.2 hsz
  rw [List.length_append]; omega
 by_cases e0 : kind = 0
 ·exact key (by rw [valB, if_pos e0]; simp; omega)
 by_cases e7 : kind = 7
 ·exact key (by rw [valB, if_neg e0, if_pos e7]; have := idB_len t.s; unfold idB at this; omega)
 by_cases e8 : kind = 8
 ·exact key (by rw [valB, if_neg e0, if_neg e7, if_pos e8]; exact hc 2 (by decide))
 by_cases e9 : kind = 9
 ·exact key (by rw [valB, if_neg e0, if_neg e7, if_neg e8, if_pos e9]; exact hc 4 (by decide))
 by_cases e10 : kind = 10
 ·rw [valB, if_neg e0, if_neg e7, if_neg e8, if_neg e9, if_pos e10]
  exact ⟨hp e10, fun h => absurd e10 h⟩
 ·refine key ?_
  rw [valB, if_neg e0, if_neg e7, if_neg e8, if_neg e9, if_neg e10, zdr]
  have : zgl kind ≤ 8 := by unfold zgl; (repeat' split) <;> omega
  omega
theorem flat_len {f : Tr → List UInt8} : ∀ {l : List Tr}, (∀ x ∈ l, (f x).length ≤ K0 * szT x) → (l.flatMap f).length ≤ K0 * szTs l
 | [], _ => by simp
 | x :: l, h => by
  have h1 := h x (by simp)
  have h2 := flat_len fun y hy => h y (List.mem_cons_of_mem _ hy)
  rw [List.flatMap_cons, List.length_append, szTs, Nat.mul_add]; omega
theorem szTs_take (n : Nat) : ∀ l : List Tr, szTs (l.take n) ≤ szTs l := by
 induction n with
 | zero => intro l; simp [szTs]
 | succ n ih =>
  intro l
  cases l with
  | nil => simp
  | cons x l => have := ih l; simp only [szTs, List.take_succ_cons]; omega
def zrn (t : Tr) (i : Nat) : Nat := szTs (t.l.drop i)
theorem restS_at (t : Tr) (i : Nat) : (i < t.l.length → zrn t i = szT (atT t i) + zrn t (i + 1)) ∧ (¬ i < t.l.length → atT t i = tr0 ∧ zrn t (i + 1) = 0) := by
 refine ⟨fun h => ?_, fun h => ?_⟩
 ·unfold zrn atT
  rw [List.drop_eq_getElem_cons h, szTs, List.getD, List.getElem?_eq_getElem h]; rfl
 ·unfold zrn atT
  rw [List.getD, List.getElem?_eq_none (by omega), List.drop_of_length_le (by omega)]
  exact ⟨rfl, rfl⟩
mutual
theorem fieldB_len {fl : Bool} {v : Int} : ∀ (f : Fld), okFB f = true → ∀ t, wfT t → (zfe fl v f t).length ≤ K0 * szT t ∧ (t.l = [] → (zfe fl v f t).length ≤ 20 + t.s.length)
 | .mk k fr to n g d o sub, h, t, hw => by
  simp only [okFB, Bool.and_eq_true, decide_eq_true_eq, Bool.or_eq_true] at h
  obtain ⟨⟨h1, h2⟩, h3⟩ := h
  have h1 := zte t
  by_cases e11 : k = 11
  ·have hp : o = 10 → ∀ x, wfT x → (zeh fl v sub x).length ≤ K0 * szT x := by
    intro ho x hx
    rcases h3 with (h3 | h3) | ⟨h3, h4⟩
    ·exact absurd e11 h3
    ·exact absurd ho h3
    ·have hs : sub.length < 1000 := by simpa using h3
     have hf := zmw (fl := fl) (v := v) sub h4 0 x hx
     have he := end_len (flex := fl) (u := x.u) hx.u
     have hx0 : zrn x 0 = szTs x.l := by simp [zrn]
     unfold zeh endB
     rw [List.length_append]
     rw [hx0] at hf
     rw [zsa x]
     have : K0 * (1 + x.s.length + szTs x.l + szU x.u) = K0 + K0 * x.s.length + K0 * szTs x.l + K0 * szU x.u := by simp only [Nat.mul_add, Nat.mul_one]
     rw [this]
     have : 20 * szU x.u ≤ K0 * szU x.u := Nat.mul_le_mul_right _ (by decide)
     have : 20 * sub.length + 10 ≤ K0 := by unfold K0; omega
     omega
   have e : zfe fl v (.mk k fr to n g d o sub) t = _ := zmx (f := .mk k fr to n g d o sub) e11
   rw [e]
   obtain ⟨l, hl⟩ : ∃ l, l = (if (Fld.mk k fr to n g d o sub).nullB v t then [] else zev t.l) := ⟨_, rfl⟩
   rw [← hl]
   have hsub : szTs l ≤ szTs t.l ∧ l.length ≤ 32767 ∧ (∀ x ∈ l, wfT x) ∧ (t.l = [] → l = []) := by
    rw [hl]
    cases (Fld.mk k fr to n g d o sub).nullB v t with
    | true => exact ⟨by simp [szTs], by simp, (fun x hx => by cases hx), fun _ => rfl⟩
    | false => exact ⟨szTs_take most t.l, by simp [zev, most]; omega, fun x hx => hw.l x (List.mem_of_mem_take hx), fun h => by simp [zev, h]⟩
   obtain ⟨s1, s2, s3, s4⟩ := hsub
   have hc := zqt fl ((Fld.mk k fr to n g d o sub).nullB v t) l.length 4 s2 (by decide)
   have hfl : (l.flatMap (valB fl o (zeh fl v sub) false)).length ≤ K0 * szTs l := flat_len fun x hx => (valB_len (fun ho => hp ho x (s3 x hx))).1
   have hm : K0 * szTs l ≤ K0 * szTs t.l := Nat.mul_le_mul_left _ s1
   refine ⟨?_, fun h0 => ?_⟩
   ·rw [List.length_append]
    show _ + (l.flatMap (valB fl o (zeh fl v sub) false)).length ≤ _
    rw [zsa t]
    have : K0 * (1 + t.s.length + szTs t.l + szU t.u) = K0 + K0 * t.s.length + K0 * szTs t.l + K0 * szU t.u := by simp only [Nat.mul_add, Nat.mul_one]
    rw [this]
    have : 10 ≤ K0 := by decide
    omega
   ·rw [List.length_append]
    have := s4 h0
    rw [this] at hc ⊢
    simp only [List.flatMap_nil, List.length_nil] at hc ⊢
    omega
  ·have e : zfe fl v (.mk k fr to n g d o sub) t = _ := zor (f := .mk k fr to n g d o sub) e11
   rw [e]
   have := valB_len (fl := fl) (kind := k) (pt := zeh fl v sub) (null := (Fld.mk k fr to n g d o sub).nullB v t) (t := t) (fun hc => absurd hc h2)
   exact ⟨this.1, fun _ => this.2 h2⟩
theorem zmw {fl : Bool} {v : Int} : ∀ (fs : List Fld), zkq fs = true → ∀ (i : Nat) (t : Tr), wfT t → (zcs fl v fs i t).length ≤ 20 * fs.length + K0 * zrn t i
 | [], _, i, t, _ => by simp [zcs]
 | f :: r, h, i, t, hw => by
  simp only [zkq, Bool.and_eq_true] at h
  have h1 := fieldB_len (fl := fl) (v := v) f h.1 (atT t i) (hw.at i)
  have h2 := zmw (fl := fl) (v := v) r h.2 (i + 1) t hw
  rw [zcs, List.length_append, List.length_cons]
  have h3 : (if f.has v then zfe fl v f (atT t i) else []).length ≤ (zfe fl v f (atT t i)).length := by split <;> simp
  have hm : 20 * (r.length + 1) = 20 * r.length + 20 := by omega
  rw [hm]
  obtain ⟨r1, r2⟩ := restS_at t i
  by_cases hi : i < t.l.length
  ·rw [r1 hi, Nat.mul_add]
   have h5 := h1.1
   omega
  ·obtain ⟨e1, e2⟩ := r2 hi
   have h4 := h1.2 (by rw [e1]; rfl)
   have e3 : (atT t i).s.length = 0 := by rw [e1]; rfl
   rw [e2] at h2
   have : K0 * 0 = 0 := rfl
   omega
end
theorem zvh {fl : Bool} {v : Int} {fs : List Fld} (h : zkq fs = true) (hl : fs.length < 1000) {t : Tr} (hw : wfT t) : (zeh fl v fs t).length ≤ K0 * szT t := by
 have hf := zmw (fl := fl) (v := v) fs h 0 t hw
 have he := end_len (flex := fl) (u := t.u) hw.u
 have hx0 : zrn t 0 = szTs t.l := by simp [zrn]
 unfold zeh endB
 rw [List.length_append]
 rw [hx0] at hf
 rw [zsa t]
 have : K0 * (1 + t.s.length + szTs t.l + szU t.u) = K0 + K0 * t.s.length + K0 * szTs t.l + K0 * szU t.u := by simp only [Nat.mul_add, Nat.mul_one]
 rw [this]
 have : 20 * szU t.u ≤ K0 * szU t.u := Nat.mul_le_mul_right _ (by decide)
 have : 20 * fs.length + 10 ≤ K0 := by unfold K0; omega
 omega
section
open Go Go.RowKit Go.ChangeShapes Go.WideShapes
structure BulkF {H : Type} (B : DataW H → Nat) (BA : List (DataW H) → Nat) : Prop where
 lit : ∀ l, 1 ≤ B (.lit l)
 slice : ∀ e s, B (.slice e s) = BA e + BA s + 1
 agg : ∀ l, B (.agg l) = BA l + 1
 nil : B .nil = 1
 anil : BA [] = 0
 acons : ∀ d l, BA (d :: l) = B d + BA l
structure TreeO (P : Program) (N : Nums) : Prop where
 tree : ∃ fs, P.underlying N.zb = some (.struct fs) ∧ fs.toList.map (fun f => (f.offset, f.type)) = [(0, N.zbn), (1, N.za), (2, N.zaq), (3, N.zj), (4, N.zi)]
 tag : ∃ fs, P.underlying N.zy = some (.struct fs) ∧ fs.toList.map (fun f => (f.offset, f.type)) = [(0, N.zc), (1, N.za)]
 cTree : P.cellsOf N.zb = 5
 cTag : P.cellsOf N.zy = 2
 c1 : P.cellsOf N.zbn = 1 ∧ P.cellsOf N.za = 1 ∧ P.cellsOf N.zaq = 1 ∧ P.cellsOf N.zj = 1 ∧ P.cellsOf N.zi = 1 ∧ P.cellsOf N.zc = 1 ∧ P.cellsOf N.zk = 1
theorem zsl {w : World} {a : Addr} : ∀ {n k : Nat} {cs : List Value}, ((List.range' k n).mapM fun i => w.cell? (a.add i)) = some cs → cs.length = n ∧ ∀ j, j < n → w.cell? (a.add (k + j)) = cs[j]?
 | 0, k, cs, h => by simp at h; subst h; exact ⟨rfl, fun j hj => by omega⟩
 | n + 1, k, cs, h => by
  rw [List.range'_succ, List.mapM_cons] at h
  simp only [Option.bind_eq_bind, Option.bind_eq_some_iff, Option.pure_def, Option.some.injEq] at h
  obtain ⟨c, hc, r, hr, rfl⟩ := h
  obtain ⟨g1, g2⟩ := zsl hr
  refine ⟨by simp [g1], fun j hj => ?_⟩
  cases j with
  | zero => simpa using hc
  | succ j => have := g2 j (by omega); rw [show k + (j + 1) = k + 1 + j by omega, this]; simp
theorem zxt {w : World} {base : Nat} {a : Addr} {n : Nat} {cs : List Value} (h : w.cells? base a n = some cs) (hn : 0 < n) : ∃ b o, a = ⟨b, o, none⟩ ∧ cs.length = n ∧ w.rangeAt b o cs := by
 unfold World.cells? at h
 split at h
 case isFalse => cases h
 rw [List.range_eq_range'] at h
 obtain ⟨h1, h2⟩ := zsl h
 have h0 := h2 0 hn
 have e0 : a.add (0 + 0) = a := by simp [Addr.add]
 rw [e0, List.getElem?_eq_getElem (by omega)] at h0
 obtain ⟨b, o, s⟩ := a
 have hs : s = none := by
  cases s with
  | none => rfl
  | some x =>
   unfold World.cell? at h0
   split at h0
   ·simp at h0
   ·cases h0
 subst hs
 refine ⟨b, o, rfl, h1, fun j v hj => ?_⟩
 have hl := (List.getElem?_eq_some_iff.1 hj).1
 have := h2 j (by omega)
 rw [hj, Nat.zero_add] at this
 rwa [Addr.add_mid] at this
theorem add_next {a : Addr} {m b o n : Nat} (h : a.add m = ⟨b, o, none⟩) : a.add (m + n) = ⟨b, o + n, none⟩ := by
 unfold Addr.add at h ⊢
 split at h
 ·rename_i hm
  subst hm h
  split
  ·rename_i h2; have : n = 0 := by omega
   subst this; rfl
  ·simp
 ·rename_i hm
  rw [if_neg (by omega)]
  simp only [Addr.mk.injEq, and_true] at h ⊢
  omega
inductive RelL {α : Type} (R : α → List Value → Prop) : List α → List (List Value) → Prop
 | nil : RelL R [] []
 | cons {x l c r} : R x c → RelL R l r → RelL R (x :: l) (c :: r)
theorem zmb {H α : Type} {w : World} {a : Addr} {sz : Nat} (hsz : 0 < sz) (R : α → List Value → Prop) (S : α → Nat) {B : DataW H → Nat} {BA : List (DataW H) → Nat} (hB : BulkF B BA) : ∀ (elems : List (DataW H × List MemPlace)) (k : Nat),
  (∀ i (h : i < elems.length), ∃ cs x, w.cells? 0 (a.add ((k + i) * sz)) sz = some cs ∧ R x cs ∧ S x ≤ B (elems[i]).1) →
  ∃ l css, l.length = elems.length ∧ RelL R l css ∧ (l.map S).sum ≤ BA (elems.map (·.1)) ∧ (elems ≠ [] → ∃ b o, a.add (k * sz) = ⟨b, o, none⟩ ∧ w.rangeAt b o css.flatten)
 | [], k, _ => ⟨[], [], rfl, .nil, by simp, fun h => absurd rfl h⟩
 | e :: elems, k, h => by
  obtain ⟨cs, x, hc, hR, hS⟩ := h 0 (by simp)
  obtain ⟨b, o, ha, hl, hr⟩ := zxt hc hsz
  rw [Nat.add_zero] at ha
  obtain ⟨l, css, g1, g2, g3, g4⟩ := zmb hsz R S hB elems (k + 1) fun i hi => by
   have := h (i + 1) (by simp; omega)
   rw [show k + (i + 1) = k + 1 + i by omega] at this
   simpa using this
  refine ⟨x :: l, cs :: css, by simp [g1], .cons hR g2, ?_, fun _ => ⟨b, o, ha, ?_⟩⟩
  ·rw [List.map_cons, List.sum_cons, List.map_cons, hB.acons]
   have hS : S x ≤ B e.1 := hS
   omega
  ·rw [List.flatten_cons, zx]
   refine ⟨hr, ?_⟩
   cases elems with
   | nil =>
    have : l = [] := List.length_eq_zero_iff.1 (by simpa using g1)
    subst this
    cases g2
    intro j v hj; simp at hj
   | cons e' elems =>
    obtain ⟨b2, o2, ha2, hr2⟩ := g4 (by simp)
    have := add_next (n := sz) ha
    rw [show k * sz + sz = (k + 1) * sz by rw [Nat.add_mul, Nat.one_mul], ha2] at this
    injection this with e1 e2
    subst e1 e2
    rw [hl]; exact hr2
theorem wf_i64 {n : Int} (h : (Lit.int .i64 n).wf = true) : -9223372036854775808 ≤ n ∧ n < 9223372036854775808 := by
 simp [Lit.wf, IntKind.min, IntKind.max, IntKind.signed, IntKind.bits] at h
 omega
theorem wf_u32 {n : Int} (h : (Lit.int .u32 n).wf = true) : 0 ≤ n ∧ n < 4294967296 := by
 simp [Lit.wf, IntKind.min, IntKind.max, IntKind.signed, IntKind.bits] at h
 omega
section
variable {P : Program} {N : Nums} {H : Type} {enc : TypeId × Value → H} {w : World} {B : DataW H → Nat} {BA : List (DataW H) → Nat}
theorem oct_open (T : TreeO P N) (Bs : Base P N) (hB : BulkF B BA) {fuel : Nat} {c : Value} {x : DataW H × List MemPlace} (h : DataW.trod enc P w 0 (fun _ => true) true fuel N.za [c] = some x) : ∃ s, OctA w c s ∧ s.length + 1 ≤ B x.1 := by
 have he : P.underlying N.zk = some (.int .u8) := Bs.uint8.und
 rcases DataW.trod_slice Bs.Lu8.und h with ⟨hc, rfl⟩ | ⟨a, len, cap, elems, rest, n, rfl, hc, rfl, hb, hl, hm, hlen, hel, hsp, _⟩
 ·injection hc with hc
  exact ⟨[], .inl ⟨none, 0, hc, rfl⟩, by rw [hB.nil]; simp⟩
 ·injection hc with hc
  rw [T.c1.2.2.2.2.2.2] at hel
  obtain ⟨l, css, g1, g2, g3, g4⟩ := zmb (a := a) (sz := 1) (by decide) (fun (y : UInt8) cs => cs = [zam y]) (fun _ => 1) hB elems 0 fun i hi => by
   have h1 := hel i (by omega)
   rw [List.getElem?_eq_getElem hi, Option.bind_eq_some_iff] at h1
   obtain ⟨cs, hcs, hy⟩ := h1
   obtain ⟨m, rfl, hx, hw⟩ := DataW.trod_int he hy
   refine ⟨_, UInt8.ofNat m.toNat, by rw [Nat.zero_add]; exact hcs, by rw [octet_of hw], ?_⟩
   rw [hx]; exact hB.lit _
  have hcs : ∀ {l : List UInt8} {css : List (List Value)}, RelL (fun (y : UInt8) cs => cs = [zam y]) l css → css.flatten = l.map zam := by
   intro l css hr
   induction hr with
   | nil => rfl
   | cons h _ ih => subst h; simp [ih]
  have hs : (l.map fun _ => 1).sum = l.length := by
   clear g1 g2 g3 g4
   induction l with
   | nil => rfl
   | cons y l ih => simp [ih]; omega
  refine ⟨l, ?_, ?_⟩
  ·by_cases h0 : len = 0
   ·exact .inl ⟨some a, cap, by rw [hc, h0], List.length_eq_zero_iff.1 (by omega)⟩
   ·obtain ⟨b, o, ha, hr⟩ := g4 (fun e => by rw [e] at hlen; simp at hlen; omega)
    have ha : a = ⟨b, o, none⟩ := by simpa [Addr.add] using ha
    exact .inr ⟨b, o, cap, by rw [hc, ha, g1, hlen], by omega, by rw [← hcs g2]; exact hr⟩
  ·rw [hB.slice]; omega
theorem tags_open (T : TreeO P N) (Bs : Base P N) (hT : zct P N N.zb N.zy N.zj N.zi) (hB : BulkF B BA) {fuel : Nat} {c : Value} {x : DataW H × List MemPlace} (h : DataW.trod enc P w 0 (fun _ => true) true fuel N.zi [c] = some x) : ∃ u, zje w c u ∧ (∀ y ∈ u, y.1 < 4294967296) ∧ szU u + 1 ≤ B x.1 := by
 rcases DataW.trod_slice hT.lg.und h with ⟨hc, rfl⟩ | ⟨a, len, cap, elems, rest, n, rfl, hc, rfl, hb, hl, hm, hlen, hel, hsp, _⟩
 ·injection hc with hc
  exact ⟨[], .inl ⟨none, 0, hc, rfl⟩, (fun y hy => by cases hy), by rw [hB.nil]; simp [szU]⟩
 ·injection hc with hc
  rw [T.cTag] at hel
  obtain ⟨fs, hu, hfs⟩ := T.tag
  obtain ⟨l, css, g1, g2, g3, g4⟩ := zmb (a := a) (sz := 2) (by decide) (fun (y : Nat × List UInt8) cs => ∃ s, cs = [.int .u32 y.1, s] ∧ OctA w s y.2 ∧ y.1 < 4294967296) (fun y => 1 + y.2.length) hB elems 0 fun i hi => by
   have h1 := hel i (by omega)
   rw [List.getElem?_eq_getElem hi, Option.bind_eq_some_iff] at h1
   obtain ⟨cs, hcs, hy⟩ := h1
   obtain ⟨xs, n', rfl, hx, hcl, hxl, hfi⟩ := DataW.trod_struct hu hy
   rw [T.cTag] at hcl
   have hfl : fs.toList.length = 2 := by have := congrArg List.length hfs; simpa using this
   match cs, hcl with
   | [c0, c1], _ =>
    have f0 : ∃ f, fs[0]? = some f ∧ f.offset = 0 ∧ f.type = N.zc := by
     have := congrArg (fun l => l[0]?) hfs
     simp only [List.getElem?_map, Array.getElem?_toList] at this
     cases hf : fs[0]? with
     | none => rw [hf] at this; simp at this
     | some f => rw [hf] at this; simp at this; exact ⟨f, rfl, this.1, this.2⟩
    have f1 : ∃ f, fs[1]? = some f ∧ f.offset = 1 ∧ f.type = N.za := by
     have := congrArg (fun l => l[1]?) hfs
     simp only [List.getElem?_map, Array.getElem?_toList] at this
     cases hf : fs[1]? with
     | none => rw [hf] at this; simp at this
     | some f => rw [hf] at this; simp at this; exact ⟨f, rfl, this.1, this.2⟩
    obtain ⟨f0, e0, o0, t0⟩ := f0
    obtain ⟨f1, e1, o1, t1⟩ := f1
    have h0 := hfi 0 f0 e0
    have h1 := hfi 1 f1 e1
    rw [o0, t0, T.c1.2.2.2.2.2.1, List.getElem?_eq_getElem (by rw [hxl, ← Array.length_toList, hfl]; decide)] at h0
    rw [o1, t1, T.c1.2.1, List.getElem?_eq_getElem (by rw [hxl, ← Array.length_toList, hfl]; decide)] at h1
    obtain ⟨m, hm1, hm2, hm3⟩ := DataW.trod_int Bs.uint32.und h0
    obtain ⟨s, hs1, hs2⟩ := oct_open T Bs hB h1
    have hw := wf_u32 hm3
    refine ⟨_, (m.toNat, s), by rw [Nat.zero_add]; exact hcs, ⟨c1, ?_, hs1, by show m.toNat < _; omega⟩, ?_⟩
    ·have : c0 = .int .u32 m := by simpa using hm1
     rw [this, show ((m.toNat : Nat) : Int) = m by omega]
    ·rw [hx, hB.agg]
     have hx2 : xs.length = 2 := by rw [hxl, ← Array.length_toList, hfl]
     match xs, hx2 with
     | [x0, x1], _ =>
      simp only [List.map_cons, hB.acons]
      have hs2 : s.length + 1 ≤ B x1.1 := hs2
      show 1 + s.length ≤ _
      omega
  have hcs : ∀ {l : List (Nat × List UInt8)} {css : List (List Value)}, RelL (fun (y : Nat × List UInt8) cs => ∃ s, cs = [.int .u32 y.1, s] ∧ OctA w s y.2 ∧ y.1 < 4294967296) l css → UsA w l css.flatten ∧ ∀ y ∈ l, y.1 < 4294967296 := by
   intro l css hr
   induction hr with
   | nil => exact ⟨rfl, fun y hy => by cases hy⟩
   | cons h _ ih =>
    obtain ⟨s, rfl, h1, h2⟩ := h
    refine ⟨⟨s, _, rfl, h1, ih.1⟩, fun y hy => ?_⟩
    rcases List.mem_cons.1 hy with e | hy
    ·rw [e]; exact h2
    ·exact ih.2 y hy
  obtain ⟨k1, k2⟩ := hcs g2
  refine ⟨l, ?_, k2, by rw [hB.slice]; unfold szU; omega⟩
  by_cases h0 : len = 0
  ·exact .inl ⟨some a, cap, by rw [hc, h0], List.length_eq_zero_iff.1 (by omega)⟩
  ·obtain ⟨b, o, ha, hr⟩ := g4 (fun e => by rw [e] at hlen; simp at hlen; omega)
   have ha : a = ⟨b, o, none⟩ := by simpa [Addr.add] using ha
   exact .inr ⟨b, o, cap, css.flatten, by rw [hc, ha, g1, hlen], by omega, k1, hr⟩
theorem tree_open (T : TreeO P N) (Bs : Base P N) (hT : zct P N N.zb N.zy N.zj N.zi) (hB : BulkF B BA) : ∀ (fuel : Nat) (cs : List Value) (x : DataW H × List MemPlace), DataW.trod enc P w 0 (fun _ => true) true fuel N.zb cs = some x → ∃ t, RepA w t cs ∧ wfT t ∧ szT t ≤ B x.1 := by
 intro fuel
 induction fuel using Nat.strongRecOn with
 | _ fuel ih =>
 intro cs x h
 obtain ⟨fs, hu, hfs⟩ := T.tree
 obtain ⟨xs, n', rfl, hx, hcl, hxl, hfi⟩ := DataW.trod_struct hu h
 rw [T.cTree] at hcl
 have hfl : fs.toList.length = 5 := by have := congrArg List.length hfs; simpa using this
 have hf : ∀ (k : Nat) (o : Nat) (t : TypeId), [(0, N.zbn), (1, N.za), (2, N.zaq), (3, N.zj), (4, N.zi)][k]? = some (o, t) → ∃ f, fs[k]? = some f ∧ f.offset = o ∧ f.type = t := by
  intro k o t hk
  have := congrArg (fun l => l[k]?) hfs
  simp only [List.getElem?_map, Array.getElem?_toList] at this
  rw [hk] at this
  cases hf : fs[k]? with
  | none => rw [hf] at this; simp at this
  | some f => rw [hf] at this; simp at this; exact ⟨f, rfl, this.1, this.2⟩
 have hx5 : xs.length = 5 := by rw [hxl, ← Array.length_toList, hfl]
 match cs, hcl, xs, hx5 with
 | [c0, c1, c2, c3, c4], _, [x0, x1, x2, x3, x4], _ =>
  obtain ⟨f0, e0, o0, t0⟩ := hf 0 _ _ rfl
  obtain ⟨f1, e1, o1, t1⟩ := hf 1 _ _ rfl
  obtain ⟨f2, e2, o2, t2⟩ := hf 2 _ _ rfl
  obtain ⟨f3, e3, o3, t3⟩ := hf 3 _ _ rfl
  obtain ⟨f4, e4, o4, t4⟩ := hf 4 _ _ rfl
  have h0 := hfi 0 f0 e0
  have h1 := hfi 1 f1 e1
  have h2 := hfi 2 f2 e2
  have h3 := hfi 3 f3 e3
  have h4 := hfi 4 f4 e4
  rw [o0, t0, T.c1.1] at h0
  rw [o1, t1, T.c1.2.1] at h1
  rw [o2, t2, T.c1.2.2.1] at h2
  rw [o3, t3, T.c1.2.2.2.1] at h3
  rw [o4, t4, T.c1.2.2.2.2.1] at h4
  have h0 : DataW.trod enc P w 0 (fun _ => true) true n' N.zbn [c0] = some x0 := h0
  have h1 : DataW.trod enc P w 0 (fun _ => true) true n' N.za [c1] = some x1 := h1
  have h2 : DataW.trod enc P w 0 (fun _ => true) true n' N.zaq [c2] = some x2 := h2
  have h3 : DataW.trod enc P w 0 (fun _ => true) true n' N.zj [c3] = some x3 := h3
  have h4 : DataW.trod enc P w 0 (fun _ => true) true n' N.zi [c4] = some x4 := h4
  obtain ⟨m, hm1, hm2, hm3⟩ := DataW.trod_int Bs.int64.und h0
  obtain ⟨s, hs1, hs2⟩ := oct_open T Bs hB h1
  obtain ⟨nl, hn1, hn2⟩ := DataW.trod_bool Bs.bool.und h2
  obtain ⟨u, hu1, hu2, hu3⟩ := tags_open T Bs hT hB h4
  have hc0 : c0 = .int .i64 m := by simpa using hm1
  have hc2 : c2 = .bool nl := by simpa using hn1
  have hb0 : 1 ≤ B x0.1 := by rw [hm2]; exact hB.lit _
  have trees : ∃ l, zgb w c3 l ∧ (∀ y ∈ l, wfT y) ∧ szTs l + 1 ≤ B x3.1 := by
   rcases DataW.trod_slice hT.lt.und h3 with ⟨hc, hx3⟩ | ⟨a, len, cap, elems, rest, n, hn', hc, hx3, hb, hl, hm, hlen, hel, hsp, _⟩
   ·injection hc with hc
    exact ⟨[], .inl ⟨none, 0, hc, rfl⟩, (fun y hy => by cases hy), by rw [hx3, hB.nil]; simp [szTs]⟩
   ·injection hc with hc
    rw [T.cTree] at hel
    obtain ⟨l, css, g1, g2, g3, g4⟩ := zmb (a := a) (sz := 5) (by decide) (fun (y : Tr) cs => RepA w y cs ∧ wfT y) szT hB elems 0 fun i hi => by
     have h1 := hel i (by omega)
     rw [List.getElem?_eq_getElem hi, Option.bind_eq_some_iff] at h1
     obtain ⟨cs, hcs, hy⟩ := h1
     obtain ⟨y, y1, y2, y3⟩ := ih n (by omega) cs _ hy
     exact ⟨cs, y, by rw [Nat.zero_add]; exact hcs, ⟨y1, y2⟩, y3⟩
    have hcs : ∀ {l : List Tr} {css : List (List Value)}, RelL (fun (y : Tr) cs => RepA w y cs ∧ wfT y) l css → zjf w l css ∧ ∀ y ∈ l, wfT y := by
     intro l css hr
     induction hr with
     | nil => exact ⟨rfl, fun y hy => by cases hy⟩
     | cons h _ ih =>
      refine ⟨⟨_, _, rfl, h.1, ih.1⟩, fun y hy => ?_⟩
      rcases List.mem_cons.1 hy with e | hy
      ·rw [e]; exact h.2
      ·exact ih.2 y hy
    obtain ⟨k1, k2⟩ := hcs g2
    have hsum : ∀ l : List Tr, (l.map szT).sum = szTs l := by
     intro l
     induction l with
     | nil => rfl
     | cons y l ih => rw [List.map_cons, List.sum_cons, szTs, ih]
    rw [hsum] at g3
    refine ⟨l, ?_, k2, by rw [hx3, hB.slice]; omega⟩
    by_cases h0 : len = 0
    ·exact .inl ⟨some a, cap, by rw [hc, h0], List.length_eq_zero_iff.1 (by omega)⟩
    ·obtain ⟨b, o, ha, hr⟩ := g4 (fun e => by rw [e] at hlen; simp at hlen; omega)
     have ha : a = ⟨b, o, none⟩ := by simpa [Addr.add] using ha
     exact .inr ⟨b, o, cap, css, by rw [hc, ha, g1, hlen], by omega, k1, hr⟩
  obtain ⟨l, hl1, hl2, hl3⟩ := trees
  have hwfs : ∀ l : List Tr, (∀ y ∈ l, wfT y) → wfTs l := by
   intro l
   induction l with
   | nil => intro _; trivial
   | cons y l ih => intro h; exact ⟨h y (by simp), ih fun z hz => h z (List.mem_cons_of_mem _ hz)⟩
  refine ⟨.mk m s nl l u, ?_, ⟨wf_i64 hm3, hu2, hwfs l hl2⟩, ?_⟩
  ·rw [hc0, hc2]
   exact RepA.mk' (t := .mk m s nl l u) hs1 hl1 hu1
  ·rw [hx, hB.agg]
   simp only [List.map_cons, List.map_nil, hB.acons, hB.anil, szT]
   omega
end
end
inductive SC where
 | mk (parts : List (Nat × Int)) (sub : Option FuncId) (fs : List SC)
def zvi (parts : List (Nat × Int)) : List Int := parts.foldl (fun l p => l.set p.1 p.2) [0, 0, 0, 0, 0, 0, 0]
def mkF (l : List Int) (sub : List Fld) : Fld := .mk (l.getD 0 0) (l.getD 1 0) (l.getD 2 0) (l.getD 3 0) (l.getD 4 0) (l.getD 5 0) (l.getD 6 0) sub
mutual
def SC.fld : SC → Fld
 | .mk parts _ fs => mkF (zvi parts) (SC.flds fs)
def SC.flds : List SC → List Fld
 | [] => []
 | s :: l => s.fld :: SC.flds l
end
def SC.parts : SC → List (Nat × Int) | .mk p _ _ => p
def SC.fs : SC → List SC | .mk _ _ l => l
theorem SC.flds_len : ∀ l : List SC, (SC.flds l).length = l.length
 | [] => rfl
 | _ :: l => by simp [SC.flds, SC.flds_len l]
section
variable (N : Nums) (M : zaz)
def partO (p : Nat × Int) : Nat × Operand := (p.1, .const (.int .i64 p.2))
def zwx : List SC → Nat → List ROp
 | [], _ => []
 | .mk parts none _ :: l, k => ⟨some k, .build M.zg (parts.map partO).toArray, 0, none, []⟩ :: zwx l (k + 1)
 | .mk parts (some f) _ :: l, k => ⟨some k, .call ⟨.value (.func f), #[], #[]⟩, M.zab, none, []⟩ :: ⟨some (k + 1), .build M.zg (parts.map partO ++ [(7, T k)]).toArray, 0, none, []⟩ :: zwx l (k + 2)
def scSl : List SC → Nat → List Nat
 | [], _ => []
 | .mk _ none _ :: l, k => k :: scSl l (k + 1)
 | .mk _ (some _) _ :: l, k => (k + 1) :: scSl l (k + 2)
def zmr : List SC → Nat → Nat
 | [], k => k
 | .mk _ none _ :: l, k => zmr l (k + 1)
 | .mk _ (some _) _ :: l, k => zmr l (k + 2)
def zti (l : List SC) (k : Nat) : ROp := ⟨some (zmr l k), .buildSlice M.zab l.length ((scSl l k).zipIdx.map fun p => (p.2, T p.1)).toArray, 0, none, []⟩
def c_flds (l : List SC) : C := seqs [.ops [⟨some 100, .assign (.const (.slice none 0 0)), 0, none, []⟩], .ops (zwx M l 0 ++ [zti M l 0, ⟨some 100, .assign (T (zmr l 0)), 0, none, []⟩]), .ret]
def c_msg (l : List SC) (fl : Int) : C := seqs [.ops [⟨some 100, .alloc M.zac, 0, none, []⟩],
 .ops (zwx M l 0 ++ [zti M l 0, ⟨some (zmr l 0 + 1), .build M.zac #[(1, .const (.int .i64 fl)), (0, T (zmr l 0))], 0, none, []⟩, ⟨none, .store M.zac (V 0) (T (zmr l 0 + 1)), 0, none, []⟩]), .ret]
end
def SC.partsB (s : SC) : Bool := s.parts.all fun p => Nat.blt p.1 7
def scB (l : List SC) : Bool := l.all SC.partsB && Nat.blt (zmr l 0) 90 && Nat.blt 0 l.length && Nat.blt l.length 1000
theorem zpt : ∀ (l : List SC) (k : Nat), k ≤ zmr l k
 | [], k => Nat.le_refl _
 | .mk _ none _ :: l, k => Nat.le_trans (Nat.le_succ k) (zpt l (k + 1))
 | .mk _ (some _) _ :: l, k => Nat.le_trans (by omega) (zpt l (k + 2))
theorem ztj : ∀ (l : List SC) (k : Nat), (scSl l k).length = l.length
 | [], k => rfl
 | .mk _ none _ :: l, k => by simp [scSl, ztj l]
 | .mk _ (some _) _ :: l, k => by simp [scSl, ztj l]
def zjb (l : List Int) (v : Value) : List Value := l.map (fun n => Value.int .i64 n) ++ [v]
def ztr : Array (Nat × Nat) := [(0, 1), (1, 1), (2, 1), (3, 1), (4, 1), (5, 1), (6, 1), (7, 1)].toArray
theorem zsj : ∀ i, i < 8 → ztr[i]? = some (i, 1)
 | 0, _ => rfl | 1, _ => rfl | 2, _ => rfl | 3, _ => rfl | 4, _ => rfl | 5, _ => rfl | 6, _ => rfl | 7, _ => rfl
 | n + 8, h => by omega
theorem ztx (rest : List (Nat × Value)) : ∀ (parts : List (Nat × Int)) (l : List Int) (v : Value), l.length = 7 → (parts.all fun p => Nat.blt p.1 7) = true →
  Instr.fill (ztr[·]?) (zjb l v).toArray (parts.map (fun (p : Nat × Int) => (p.1, Value.int .i64 p.2)) ++ rest) = Instr.fill (ztr[·]?) (zjb (parts.foldl (fun l p => l.set p.1 p.2) l) v).toArray rest
 | [], l, v, _, _ => rfl
 | (i, n) :: parts, l, v, hl, h => by
  simp only [List.all_cons, Bool.and_eq_true] at h
  have hi : i < 7 := by simpa using h.1
  rw [List.map_cons, List.cons_append, Instr.fill, zsj i (by omega)]
  simp only
  have hc : (Value.int .i64 n).cells = #[.int .i64 n] := rfl
  rw [hc, if_neg (by simp [zjb, hl]; omega)]
  have e : (((#[Value.int .i64 n] : Array Value).zipIdx.foldl (fun cs x => cs.setIfInBounds (i + x.2) x.1) (zjb l v).toArray)) = (zjb (l.set i n) v).toArray := by
   have : (#[Value.int .i64 n] : Array Value).zipIdx = #[(Value.int .i64 n, 0)] := rfl
   rw [this]
   simp only [List.foldl_toArray', List.foldl_cons, List.foldl_nil, Nat.add_zero, zjb, List.setIfInBounds_toArray]
   congr 1
   rw [List.set_append_left _ _ (by simp [hl]; exact hi), List.map_set]
  rw [e, List.foldl_cons]
  exact ztx rest parts (l.set i n) v (by simp [hl]) h.2
theorem zpx : ∀ (parts : List (Nat × Int)) (l : List Int), (parts.foldl (fun l p => l.set p.1 p.2) l).length = l.length
 | [], l => rfl
 | p :: parts, l => by rw [List.foldl_cons, zpx]; simp
section
variable {P : Program} {N : Nums} {M : zaz}
theorem zss {w : World} {l : List Int} (hl : l.length = 7) {v : Value} {sub : List Fld} (h : zgd w v sub) : RepF w (mkF l sub) (zjb l v) := by
 match l, hl with
 | [a, b, c, d, e, f, g], _ => exact RepF.mk' (f := mkF [a, b, c, d, e, f, g] sub) h
theorem build_num (S : SpT P N M) {w : World} {parts : List (Nat × Int)} (h : (parts.all fun p => Nat.blt p.1 7) = true) :
  (Instr.build M.zg ((parts.map fun (p : Nat × Int) => (p.1, Value.int .i64 p.2)).toArray)).run P w = .ok (.agg (zjb (zvi parts) (.slice none 0 0)).toArray) w :=
 S.fld.run_build (by
  have := ztx [] parts [0, 0, 0, 0, 0, 0, 0] (.slice none 0 0) rfl h
  rw [List.append_nil] at this
  exact this)
theorem build_sub (S : SpT P N M) {w : World} {parts : List (Nat × Int)} (h : (parts.all fun p => Nat.blt p.1 7) = true) {v : Value} (hv : v.oneCell' = true) :
  (Instr.build M.zg ((parts.map (fun (p : Nat × Int) => (p.1, Value.int .i64 p.2)) ++ [(7, v)]).toArray)).run P w = .ok (.agg (zjb (zvi parts) v).toArray) w :=
 S.fld.run_build (by
  have := ztx [(7, v)] parts [0, 0, 0, 0, 0, 0, 0] (.slice none 0 0) rfl h
  refine this.trans ?_
  have hl := zpx parts [0, 0, 0, 0, 0, 0, 0]
  show Instr.fill (ztr[·]?) (zjb (zvi parts) (.slice none 0 0)).toArray [(7, v)] = _
  have hl : (zvi parts).length = 7 := hl
  rw [Instr.fill, zsj 7 (by decide)]
  simp only
  rw [zcn hv, if_neg (by simp [zjb, hl])]
  have e : (#[v] : Array Value).zipIdx = #[(v, 0)] := rfl
  rw [e]
  simp only [List.foldl_toArray', List.foldl_cons, List.foldl_nil, Nat.add_zero, zjb, List.setIfInBounds_toArray, Instr.fill]
  congr 2
  rw [List.set_append_right _ _ (by simp [hl])]
  simp [hl])
def MkOk (P : Program) (f : FuncId) (l : List Fld) : Prop := ∀ w, Call P f #[] w fun r w' => zgd w' r l ∧ Mod w w' zw
def scOk (P : Program) : List SC → Prop
 | [] => True
 | .mk parts none fs :: l => fs = [] ∧ scOk P l
 | .mk parts (some f) fs :: l => (MkOk P f (SC.flds fs) ∧ zdh P f) ∧ scOk P l
theorem step_callZ {f : FuncId} {d : Option Nat} {ty : TypeId} {af : List Nat} {ρ : Env} {w : World} {K : Env → World → Prop} (hf : zdh P f) : zbk P ⟨d, .call ⟨.value (.func f), #[], #[]⟩, ty, none, af⟩ ρ w K = Call P f #[] w fun v w' => K (put ρ d v) w' := zjy hf
theorem znf (S : SpT P N M) {K : Env → World → Prop} : ∀ (l : List SC) (k : Nat) (ρ : Env) (w w0 : World), (l.all SC.partsB) = true → scOk P l → Mod w0 w zw →
  (∀ (ρ' : Env) (w' : World) (css : List (List Value)), (∀ t, t < k ∨ 100 ≤ t → ρ' t = ρ t) → zgc w' (SC.flds l) css → (∀ (j s : Nat), (scSl l k)[j]? = some s → ∃ c : List Value, css[j]? = some c ∧ ρ' s = .agg c.toArray) → Mod w0 w' zw → K ρ' w') → zmr l k < 90 →
  runR P (zwx M l k) ρ w K
 | [], k, ρ, w, w0, _, _, m, hK, _ => hK ρ w [] (fun _ _ => rfl) rfl (fun j s h => by simp [scSl] at h) m
 | .mk parts none fs :: l, k, ρ, w, w0, hp, ⟨hfs, hok⟩, m, hK, he => by
  subst hfs
  simp only [List.all_cons, Bool.and_eq_true] at hp
  have he2 := zpt l (k + 1)
  rw [zwx, runR]
  have e1 : ((parts.map partO).toArray.map fun (p : Nat × Operand) => (p.1, ev ρ p.2)) = (parts.map fun (p : Nat × Int) => (p.1, Value.int .i64 p.2)).toArray := by
   simp [partO, Function.comp_def]
  rw [zjz, e1, build_num S (parts := parts) hp.1]
  simp only [stepV_ok]
  have hrep : ∀ w', RepF w' (SC.fld (.mk parts none [])) (zjb (zvi parts) (.slice none 0 0)) := fun w' => zss (zpx _ _) (.inl ⟨_, _, rfl, rfl⟩)
  refine znf S l (k + 1) _ w w0 hp.2 hok m (fun ρ' w' css h1 h2 h3 h4 => ?_) he
  refine hK ρ' w' (zjb (zvi parts) (.slice none 0 0) :: css) (fun t ht => ?_) ⟨_, _, rfl, hrep w', h2⟩ (fun j s hs => ?_) h4
  ·rw [h1 t (by omega), zie]
   have : (t == k) = false := beq_eq_false_iff_ne.2 (by have : zmr l (k + 1) < 90 := he; omega)
   rw [this]; rfl
  ·cases j with
   | zero =>
    simp [scSl] at hs
    subst hs
    exact ⟨_, rfl, by rw [h1 k (by omega), zie]; simp [sel]⟩
   | succ j => exact h3 j s (by simpa [scSl] using hs)
 | .mk parts (some f) fs :: l, k, ρ, w, w0, hp, ⟨⟨hmk, hbody⟩, hok⟩, m, hK, he => by
  simp only [List.all_cons, Bool.and_eq_true] at hp
  have he2 := zpt l (k + 2)
  have he3 : zmr l (k + 2) < 90 := he
  rw [zwx, runR, step_callZ hbody]
  refine (hmk w).mono ?_
  rintro r w1 ⟨hr, m1⟩
  rw [runR]
  have e1 : (((parts.map partO ++ [((7 : Nat), T k)]).toArray : Array (Nat × Operand)).map fun (p : Nat × Operand) => (p.1, ev (put ρ (some k) r) p.2)) = (parts.map (fun (p : Nat × Int) => (p.1, Value.int .i64 p.2)) ++ [(7, r)]).toArray := by
   simp [partO, Function.comp_def, zie, sel]
  rw [zjz, e1, build_sub S (parts := parts) hp.1 hr.one]
  simp only [stepV_ok]
  have m01 := m.trans' m1
  refine znf S l (k + 2) _ w1 w1 hp.2 hok (.refl _ _) (fun ρ' w' css h1 h2 h3 h4 => ?_) he
  refine hK ρ' w' (zjb (zvi parts) r :: css) (fun t ht => ?_) ⟨_, _, rfl, zss (zpx _ _) (hr.stay h4), h2⟩ (fun j s hs => ?_) (m01.trans' h4)
  ·rw [h1 t (by omega), zie, zie]
   have : (t == k + 1) = false := beq_eq_false_iff_ne.2 (by omega)
   have h2 : (t == k) = false := beq_eq_false_iff_ne.2 (by omega)
   rw [this, h2]; rfl
  ·cases j with
   | zero =>
    simp [scSl] at hs
    subst hs
    exact ⟨_, rfl, by rw [h1 (k + 1) (by omega), zie]; simp [sel]⟩
   | succ j => exact h3 j s (by simpa [scSl] using hs)
end
theorem zvn (off : Nat) : ∀ (l : List Value) (k : Nat) (arr : Array Value), (l.zipIdx k).foldl (fun cs (x : Value × Nat) => cs.setIfInBounds (off + x.2) x.1) arr = (l.zipIdx (off + k)).foldl (fun cs (x : Value × Nat) => cs.setIfInBounds x.2 x.1) arr
 | [], k, arr => rfl
 | v :: l, k, arr => by
  rw [List.zipIdx_cons, List.zipIdx_cons, List.foldl_cons, List.foldl_cons, zvn off l (k + 1), Nat.add_assoc]
theorem zvp (sz : Nat) : ∀ (css : List (List Value)) (k : Nat) (arr : Array Value), (∀ c ∈ css, c.length = sz) → (k + css.length) * sz ≤ arr.size →
  ∃ out, Instr.fill (fun i => some (i * sz, sz)) arr ((css.zipIdx k).map fun p => (p.2, Value.agg p.1.toArray)) = some out ∧ out.toList = arr.toList.take (k * sz) ++ css.flatten ++ arr.toList.drop ((k + css.length) * sz)
 | [], k, arr, _, h => ⟨arr, rfl, by simp⟩
 | c :: css, k, arr, hc, h => by
  have hcl := hc c (by simp)
  have h1 : (k + 1) * sz + css.length * sz ≤ arr.size := by
   rw [← Nat.add_mul]; simp only [List.length_cons] at h; rwa [show k + 1 + css.length = k + (css.length + 1) by omega]
  have h2 : (k + 1) * sz = k * sz + sz := by rw [Nat.add_mul, Nat.one_mul]
  rw [List.zipIdx_cons, List.map_cons, Instr.fill]
  simp only
  have hcells : (Value.agg c.toArray).cells = c.toArray := rfl
  rw [hcells, if_neg (by simp [hcl]; omega)]
  have e : c.toArray.zipIdx = (c.zipIdx 0).toArray := by simp
  obtain ⟨arr1, harr1⟩ : ∃ arr1, arr1 = c.toArray.zipIdx.foldl (fun cs (x : Value × Nat) => cs.setIfInBounds (k * sz + x.2) x.1) arr := ⟨_, rfl⟩
  have hl1 : arr1.toList = arr.toList.take (k * sz) ++ c ++ arr.toList.drop (k * sz + c.length) := by
   rw [harr1, e, List.foldl_toArray, zvn, Nat.add_zero]
   exact zoq c (k * sz) arr (by rw [hcl]; omega)
  have hs1 : arr1.size = arr.size := by
   have := congrArg List.length hl1
   simp only [Array.length_toList, List.length_append, List.length_take, List.length_drop] at this
   omega
  obtain ⟨out, g1, g2⟩ := zvp sz css (k + 1) arr1 (fun x hx => hc x (List.mem_cons_of_mem _ hx)) (by rw [hs1, Nat.add_mul]; exact h1)
  refine ⟨out, ?_, ?_⟩
  ·rw [← harr1]; exact g1
  ·rw [g2, hl1, List.flatten_cons]
   have t1 : (arr.toList.take (k * sz) ++ c ++ arr.toList.drop (k * sz + c.length)).take ((k + 1) * sz) = arr.toList.take (k * sz) ++ c := by
    rw [List.take_append_of_le_length (by simp [hcl]; omega), List.take_of_length_le (by simp [hcl]; omega)]
   have t2 : (arr.toList.take (k * sz) ++ c ++ arr.toList.drop (k * sz + c.length)).drop ((k + 1 + css.length) * sz) = arr.toList.drop ((k + (c :: css).length) * sz) := by
    have hm : (k + 1 + css.length) * sz = k * sz + sz + css.length * sz := by rw [Nat.add_mul, Nat.add_mul, Nat.one_mul]
    have hm2 : (k + (c :: css).length) * sz = k * sz + sz + css.length * sz := by rw [← hm, List.length_cons]; congr 1; omega
    have hle : (arr.toList.take (k * sz) ++ c).length = k * sz + sz := by simp [hcl]; omega
    rw [List.drop_append, hle, List.drop_of_length_le (by rw [hle]; omega), List.nil_append, List.drop_drop, hm, hm2, hcl]
    congr 1; omega
   rw [t1, t2]
   simp
theorem zsm {w w' : World} {k b o : Nat} {fs : List Fld} {css : List (List Value)} (hm : Mod w w' (blk k)) (hk : ∀ i, 7 ≤ i → w.cell? ⟨k, i, none⟩ = none) (hr : zgc w fs css) (h : w.rangeAt b o css.flatten) : w'.rangeAt b o css.flatten := by
 cases fs with
 | nil => simp only [zgc] at hr; subst hr; intro j v hj; simp at hj
 | cons f fs =>
  obtain ⟨c, r, rfl, hc, hr⟩ := hr
  have h8 := hc.len
  match c, h8 with
  | [x0, x1, x2, x3, x4, x5, x6, x7], _ =>
   have h7 := h 7 x7 (by simp)
   have hne : b ≠ k := fun e => by
    subst e
    rw [hk (o + 7) (by omega)] at h7; cases h7
   have hb : b < w.heap.size := zfc (by rw [h7]; rfl)
   exact hm.rangeAt hb (fun i _ _ e => hne e) h
mutual
theorem RepF.but {w w' : World} {k : Nat} (hm : Mod w w' (blk k)) (hk : ∀ i, 7 ≤ i → w.cell? ⟨k, i, none⟩ = none) : ∀ (t : Fld) {cs : List Value}, RepF w t cs → RepF w' t cs
 | .mk _ _ _ _ _ _ _ sub, _, ⟨v, h1, h3⟩ => ⟨v, h1, h3.imp id fun ⟨b, o, c, css, g1, g2, g3, g4⟩ => ⟨b, o, c, css, g1, g2, zgc.but hm hk sub g3, zsm hm hk g3 g4⟩⟩
theorem zgc.but {w w' : World} {k : Nat} (hm : Mod w w' (blk k)) (hk : ∀ i, 7 ≤ i → w.cell? ⟨k, i, none⟩ = none) : ∀ (l : List Fld) {css : List (List Value)}, zgc w l css → zgc w' l css
 | [], _, hr => hr
 | t :: l, _, ⟨c, r, h1, h2, h3⟩ => ⟨c, r, h1, RepF.but hm hk t h2, zgc.but hm hk l h3⟩
end
theorem zgd.but {w w' : World} {k : Nat} (hm : Mod w w' (blk k)) (hk : ∀ i, 7 ≤ i → w.cell? ⟨k, i, none⟩ = none) {v : Value} {fs : List Fld} (hs : zgd w v fs) : zgd w' v fs :=
 hs.imp id fun ⟨b, o, c, css, h1, h2, h3, h4⟩ => ⟨b, o, c, css, h1, h2, zgc.but hm hk fs h3, zsm hm hk h3 h4⟩
section
variable {P : Program} {N : Nums} {M : zaz}
theorem run_bsFs (S : SpT P N M) {w : World} {l : List Fld} {css : List (List Value)} (h : zgc w l css) (h0 : 0 < l.length) (h1 : l.length < 1000) :
  ∃ w1, (Instr.buildSlice M.zab l.length ((css.zipIdx 0).map fun p => (p.2, Value.agg p.1.toArray)).toArray).run P w = .ok (.slice (some ⟨w.heap.size, 0, none⟩) l.length l.length) w1 ∧ Mod w w1 zw ∧ zgd w1 (.slice (some ⟨w.heap.size, 0, none⟩) l.length l.length) l := by
 obtain ⟨fs', hti⟩ := S.fld.out
 obtain ⟨i, hi, hsz, _, hz⟩ := hti.1.info
 have hsz : i.size = 8 := hsz
 have hlen : css.length = l.length := by
  have : ∀ (l : List Fld) (css : List (List Value)), zgc w l css → css.length = l.length := by
   intro l
   induction l with
   | nil => intro css h; simp only [zgc] at h; subst h; rfl
   | cons f l ih => rintro _ ⟨c, r, rfl, _, hr⟩; simp [ih r hr]
  exact this l css h
 have h8 := h.len8
 have hlz : ((Array.range (l.length * 8)).map ((Value.agg ([Value.int .i64 0, .int .i64 0, .int .i64 0, .int .i64 0, .int .i64 0, .int .i64 0, .int .i64 0, .slice none 0 0] : List Value).toArray).cells[· % (Value.agg ([Value.int .i64 0, .int .i64 0, .int .i64 0, .int .i64 0, .int .i64 0, .int .i64 0, .int .i64 0, .slice none 0 0] : List Value).toArray).cells.size]!)).size = l.length * 8 := by simp
 obtain ⟨out, g1, g2⟩ := zvp 8 css 0 _ h8 (by rw [hlz, Nat.zero_add, hlen]; exact Nat.le_refl _)
 have hr := run_buildSlice (P := P) w M.zab M.zg l.length ((css.zipIdx 0).map fun p => (p.2, Value.agg p.1.toArray)).toArray out i _ S.lf.und hi hz (by rw [hsz]; omega) (by rw [hsz]; omega) (by rw [hsz]; exact g1)
 have hout : out = css.flatten.toArray := by
  apply Array.ext'
  rw [g2]
  rw [Nat.zero_mul, List.take_zero, List.nil_append, Nat.zero_add, hlen, List.drop_of_length_le (by rw [Array.length_toList, hlz]; exact Nat.le_refl _)]
  simp
 rw [hout] at hr
 have m : Mod w (w.alloc (.cells css.flatten.toArray M.zg)) zw := Mod.alloc _ _ _
 refine ⟨_, hr, m, .inr ⟨w.heap.size, 0, l.length, css, rfl, Nat.le_refl _, zgc.stay m _ h, ?_⟩⟩
 have := zu w css.flatten.toArray M.zg (0, 0)
 simpa using this
theorem zqh (S : SpT P N M) {l : List SC} {k : Nat} {ρ : Env} {w : World} {css : List (List Value)} {K : Env → World → Prop} (hr : zgc w (SC.flds l) css) (hs : ∀ (j s : Nat), (scSl l k)[j]? = some s → ∃ c : List Value, css[j]? = some c ∧ ρ s = .agg c.toArray) (h0 : 0 < l.length) (h1 : l.length < 1000)
  (hK : ∀ (r : Value) (w1 : World), Mod w w1 zw → zgd w1 r (SC.flds l) → K (put ρ (some (zmr l k)) r) w1) : zbk P (zti M l k) ρ w K := by
 unfold zti
 have hfl := SC.flds_len l
 obtain ⟨w1, hb, m1, hf1⟩ := run_bsFs S hr (by omega) (by omega)
 have hcl : css.length = l.length := by
  have : ∀ (l : List Fld) (css : List (List Value)), zgc w l css → css.length = l.length := by
   intro l
   induction l with
   | nil => intro css h; simp only [zgc] at h; subst h; rfl
   | cons f l ih => rintro _ ⟨c, r, rfl, _, hr⟩; simp [ih r hr]
  rw [this _ _ hr, hfl]
 have e : (((scSl l k).zipIdx.map fun p => (p.2, T p.1)).toArray.map fun (p : Nat × Operand) => (p.1, ev ρ p.2)) = ((css.zipIdx 0).map fun p => (p.2, Value.agg p.1.toArray)).toArray := by
  rw [List.map_toArray, List.map_map]
  congr 1
  apply List.ext_getElem?
  intro j
  rw [List.getElem?_map, List.getElem?_map, List.getElem?_zipIdx, List.getElem?_zipIdx]
  cases hj : (scSl l k)[j]? with
  | none =>
   have : css[j]? = none := by
    rw [List.getElem?_eq_none_iff] at hj ⊢
    rw [ztj] at hj; omega
   rw [this]; rfl
  | some s =>
   obtain ⟨c, hc, hv⟩ := hs j s hj
   rw [hc]
   simp [hv]
 rw [hfl] at hb
 rw [zio, e, hb]
 simp only [stepV_ok]
 rw [hfl] at hf1
 exact hK _ _ m1 hf1
theorem ztk {l : List SC} (h : scB l = true) : (l.all SC.partsB) = true ∧ zmr l 0 < 90 ∧ 0 < l.length ∧ l.length < 1000 := by
 unfold scB at h
 simp only [Bool.and_eq_true] at h
 obtain ⟨⟨⟨h1, h2⟩, h3⟩, h4⟩ := h
 exact ⟨h1, by simpa using h2, by simpa using h3, by simpa using h4⟩
theorem mk_flds (S : SpT P N M) {l : List SC} (hB : scB l = true) (hok : scOk P l) {f : FuncId} (hf : FOk P f 0 (c_flds M l) [.var 0]) : MkOk P f (SC.flds l) := by
 intro w
 obtain ⟨b1, b2, b3, b4⟩ := ztk hB
 refine hf.call rfl fun loc N' hlo => ?_
 unfold c_flds seqs seqs seqs
 refine zf fun K hK => zcy (hK _ _ ?_)
 clear hK K
 refine zf fun K hK => zn fun τ => zmt _ _ _ _ (znf S l 0 _ w w b1 hok (.refl _ _) (fun ρ w1 css h1 h2 h3 m1 => ?_) b2)
 rw [runR]
 refine zqh S h2 h3 b3 b4 fun r w2 m2 hr => ?_
 simp +decide only [runR, zmq, ev_tmp, zie, sel_true, BEq.rfl]
 refine hK _ _ (zd fun σ' hσ => zbl ⟨.inr rfl, _, rfl, ?_⟩)
 have q := hσ 0
 simp +decide only [bE, BEq.rfl, Nat.zero_add] at q
 rw [q]
 exact ⟨hr, m1.trans' m2⟩
theorem mk_msg (S : SpT P N M) {l : List SC} {fl : Int} (hB : scB l = true) (hok : scOk P l) {f : FuncId} (hf : FOk P f 0 (c_msg M l fl) [.cell 0 M.zac]) (w : World) :
  Call P f #[] w fun r w' => ∃ fv, r = .agg [fv, .int .i64 fl].toArray ∧ zgd w' fv (SC.flds l) ∧ Mod w w' zw := by
 obtain ⟨b1, b2, b3, b4⟩ := ztk hB
 refine hf.call rfl fun loc N' hlo => ?_
 unfold c_msg seqs seqs seqs
 obtain ⟨fs', hti, _⟩ := S.msg.out
 obtain ⟨w0, hw0⟩ : ∃ w0, w0 = w.alloc (.cells (Value.cells (.agg ([.slice none 0 0, .int .i64 0] : List Value).toArray)) M.zac) := ⟨_, rfl⟩
 have hal := fun old => hti.run_alloc (P := P) (w := w) old
 rw [← hw0] at hal
 have m0 : Mod w w0 zw := by rw [hw0]; exact Mod.alloc _ _ _
 have s0 : w0.heap.size = w.heap.size + 1 := by rw [hw0]; exact zae _ _
 have t0 : w0.there w.heap.size 0 2 := by rw [hw0]; exact zbe w _ M.zac
 have r0 : w0.rangeAt w.heap.size 0 [.slice none 0 0, .int .i64 0] := by rw [hw0]; exact zu w _ _ _
 have c0 : ∀ i, 2 ≤ i → w0.cell? ⟨w.heap.size, i, none⟩ = none := by
  intro i hi
  rw [hw0]
  simp only [World.cell?, zlx]
  have : (Value.cells (.agg ([.slice none 0 0, .int .i64 0] : List Value).toArray)).size = 2 := rfl
  simp [this]; omega
 clear hw0
 refine zf fun K hK => zn fun τ => ?_
 simp +decide only [runR, zog, hal, stepV_ok]
 refine hK _ _ (zd fun σ1 hσ => ?_)
 have a0 := hσ 0
 simp +decide only [bE, BEq.rfl, Nat.zero_add] at a0
 clear hσ hK K
 refine zf fun K hK => zn fun τ => zmt _ _ _ _ (znf S l 0 _ w0 w0 b1 hok (.refl _ _) (fun ρ w1 css h1 h2 h3 m1 => ?_) b2)
 rw [runR]
 refine zqh S h2 h3 b3 b4 fun r w2 m2 hr => ?_
 have hv0 : ρ 100 = .pointer (some ⟨w.heap.size, 0, none⟩) := by
  rw [h1 100 (.inr (Nat.le_refl _)), zqs]; simp +decide only [bE, decide_false, Nat.reduceSub, a0]
 obtain ⟨n, hn⟩ : ∃ n, n = zmr l 0 := ⟨_, rfl⟩
 rw [← hn] at b2 ⊢
 have hbuild : (Instr.build M.zac #[(1, .int .i64 fl), (0, r)]).run P w2 = .ok (.agg [r, .int .i64 fl].toArray) w2 := S.msg.run_build (by simp [Instr.fill, zcn hr.one, zcn (show (Value.int .i64 fl).oneCell' = true from rfl)])
 have m02 := m1.trans' m2
 have hst := hti.run_store (w := w2) (b := w.heap.size) (o := 0) (v := .agg [r, .int .i64 fl].toArray) (cs := [r, .int .i64 fl]) rfl rfl (m02.there (by omega) t0) (by
  intro c hc; simp at hc; rcases hc with rfl | rfl
  ·exact hr.one
  ·rfl)
 obtain ⟨w3, hw3⟩ : ∃ w3, w3 = w2.setCells w.heap.size 0 [r, .int .i64 fl] := ⟨_, rfl⟩
 have m3 : Mod w2 w3 (blk w.heap.size) := by rw [hw3]; exact Mod.setCells _ _ _ fun _ _ _ _ => rfl
 have r3 : w3.rangeAt w.heap.size 0 [r, .int .i64 fl] := by
  rw [hw3]
  exact zar [r, .int .i64 fl] 0 w2 _ (zh m02 r0) (Nat.le_refl _)
 rw [← hw3] at hst
 clear hw3
 have e1 : (n == n + 1) = false := beq_eq_false_iff_ne.2 (by omega)
 have e2 : (100 == n + 1) = false := beq_eq_false_iff_ne.2 (by omega)
 have e3 : (100 == n) = false := beq_eq_false_iff_ne.2 (by omega)
 have ep : (#[(1, Operand.const (.int .i64 fl)), (0, T n)].map fun (p : Nat × Operand) => (p.1, ev (put ρ (some n) r) p.2)) = #[(1, .int .i64 fl), (0, r)] := by simp [zie, sel]
 simp +decide only [runR, zjz, ep, hbuild, stepV_ok, zjx, ev_tmp, zie, sel_true, sel_false, BEq.rfl, e2, e3, hv0, hst, stepU_ok]
 have m03 : Mod w w3 zw := (m0.trans' m02).fresh m3 fun k o h => by have : k = w.heap.size := h; omega
 refine hK _ _ (zd fun σ' hσ => zbl ⟨.inr rfl, .agg [r, .int .i64 fl].toArray, ?_, r, rfl, ?_, m03⟩)
 ·have q := hσ 0
  rw [show (0 + 100 : Nat) = 100 from rfl] at q
  simp +decide only [zie, e2, e3, sel_false, hv0] at q
  refine ⟨_, q, ?_⟩
  have := hti.run_load (w := w3) (b := w.heap.size) (o := 0) r3 rfl (fun h => by cases h)
  have e : (Instr.loadAt M.zac (.pointer (some ⟨w.heap.size, 0, none⟩))).run P w3 = (loadVar M.zac ⟨w.heap.size, 0, none⟩).run P w3 := by simp [Instr.loadAt, Instr.sureAddr]
  rw [← e, this]; rfl
 ·refine hr.but m3 fun i hi => ?_
  have h1 := m02.isCell w.heap.size i (by omega)
  have h2 : w0.cell? ⟨w.heap.size, i, none⟩ = none := c0 i (by omega)
  rw [h2] at h1
  cases hc : w2.cell? ⟨w.heap.size, i, none⟩ with
  | none => rfl
  | some x => rw [hc] at h1; cases h1
end
section
variable {P : Program} {N : Nums} {M : zaz}
theorem OctA.argOct {w : World} {v : Value} {s : List UInt8} (h : OctA w v s) : ArgOct w v s := by
 rcases h with ⟨ad, c, e, h⟩ | ⟨b, o, c, e, h1, h2⟩
 ·exact .inl ⟨ad, c, e, h⟩
 ·cases s with
  | nil => exact .inl ⟨_, c, e, rfl⟩
  | cons x s =>
   have h0 := h2 0 (zam x) rfl
   refine .inr ⟨_, c, e, h1, zfc (by rw [h0]; rfl), fun j y hj => ?_⟩
   rw [Addr.add_mid]
   exact h2 j (zam y) (by rw [List.getElem?_map, hj]; rfl)
theorem fits_of {t : Tr} (h : szT t ≤ 1048576) : fitsT t := by
 have h1 := zsa t
 have hl : ∀ l : List Tr, l.length ≤ szTs l := by
  intro l
  induction l with
  | nil => simp
  | cons x l ih => have := zte x; simp only [szTs, List.length_cons]; omega
 have hu : ∀ u : List (Nat × List UInt8), u.length ≤ szU u ∧ ∀ x ∈ u, x.2.length ≤ szU u := by
  intro u
  induction u with
  | nil => exact ⟨by simp, fun x hx => by cases hx⟩
  | cons x u ih =>
   have e : szU (x :: u) = 1 + x.2.length + szU u := by simp [szU]
   refine ⟨by rw [e, List.length_cons]; omega, fun y hy => ?_⟩
   rcases List.mem_cons.1 hy with hy | hy
   ·rw [hy, e]; omega
   ·have := ih.2 y hy; rw [e]; omega
 have h2 := hl t.l
 have h3 := hu t.u
 exact ⟨by omega, by omega, by omega, fun x hx => by have := h3.2 x hx; omega⟩
end
section
open Go Go.RowKit Go.ChangeShapes Go.WideShapes
theorem treeArg_of {P : Program} {N : Nums} {H : Type} {enc : TypeId × Value → H} {B : DataW H → Nat} {BA : List (DataW H) → Nat} {W : World} {v : Value} {d : DataW H} {p : List MemPlace} {base : Nat} (T : TreeO P N) (Bs : Base P N) (hT : zct P N N.zb N.zy N.zj N.zi) (hB : BulkF B BA)
  (hok : Value.okWide P W .any base N.zb v) (h : DataW.Trod enc P W 0 (fun _ => true) true N.zb v d p) : ∃ t ct, v = .agg ct.toArray ∧ RepA W t ct ∧ wfT t ∧ szT t ≤ B d := by
 obtain ⟨fs, hu, _⟩ := T.tree
 unfold Value.okWide at hok
 rw [hu] at hok
 obtain ⟨cs, rfl, _⟩ := hok
 obtain ⟨fuel, hf⟩ := h
 obtain ⟨t, h1, h2, h3⟩ := tree_open T Bs hT hB fuel cs.toList (d, p) hf
 exact ⟨t, cs.toList, by simp, h1, h2, h3⟩
end
section
variable {P : Program} {N : Nums}
end
section
variable (N : Nums)
end
section
variable {P : Program} {N : Nums}
end
structure FP (P : Program) (T : TypeId) (k off : Nat) : Prop where
 out : ∃ fs f d, P.underlying T = some (.struct fs) ∧ fs[k]? = some f ∧ f.offset = off ∧ P.underlying f.type = some d ∧ zml d = false
def fpB (P : Program) (t : TypeId) (k off : Nat) : Bool :=
 match P.underlying t with
 | some (.struct fs) => (match fs[k]? with
  | some f => Nat.beq f.offset off && (match P.underlying f.type with | some d => !zml d | none => false)
  | none => false)
 | _ => false
theorem fpB_ok {P : Program} {t : TypeId} {k off : Nat} (h : fpB P t k off = true) : FP P t k off := by
 unfold fpB at h
 split at h
 ·rename_i fs hfs
  split at h
  ·rename_i f hf
   rw [Bool.and_eq_true] at h
   have h2 := h.2
   split at h2
   ·rename_i d hd
    exact ⟨fs, f, d, hfs, hf, by simpa using h.1, hd, by simpa using h2⟩
   ·cases h2
  ·cases h
 ·cases h
theorem FP.run {P : Program} {T : TypeId} {k off : Nat} (h : FP P T k off) {w : World} {cs : List Value} {v : Value} (hv : cs[off]? = some v) : (Instr.field T (.agg cs.toArray) k).run P w = .ok v w := by
 obtain ⟨fs, f, d, h1, h2, h3, h4, h5⟩ := h.out
 subst h3
 have hu : ∀ {t : TypeId} {d : TypeDesc}, P.underlying t = some d → (underlying t).run P w = .ok d w := fun h => by simp [underlying, program, Sem.run, bind, Sem.bind, h, pure]
 have hi : (isAgg f.type).run P w = .ok false w := by
  unfold isAgg
  rw [Sem.run_bind, hu h4]
  cases d <;> first | rfl | cases h5
 unfold Instr.field
 rw [Sem.run_bind, hu h1]
 simp only [Result.andThen_ok, h2, asAgg, part, Sem.run_bind, Sem.run_pure, hi, Bool.false_eq_true, if_false]
 have : cs.toArray[f.offset]? = some v := by simpa using hv
 rw [this]; rfl
section
variable {P : Program} {N : Nums} {M : zaz}
end
def PK.wr : PK → Value → List UInt8
 | .bool, .bool b => [if b then 1 else 0]
 | .i8, .int _ n => fixB n 1
 | .i16, .int _ n => fixB n 2
 | .u16, .int _ n => fixB n 2
 | .i32, .int _ n => fixB n 4
 | .i64, .int _ n => fixB n 8
 | .uuid, v => zhn v
 | _, _ => []
def Txt.wr (fl : Bool) : Txt → Val → List UInt8
 | .str, .num v => zao fl false (zhn v).length 2 ++ zhn v
 | .nstr, .nstr none => zao fl true 0 2
 | .nstr, .nstr (some l) => zao fl false l.length 2 ++ l
 | .byt, .oct o => zao fl false (o.getD []).length 4 ++ o.getD []
 | .nbyt, .oct none => zao fl true 0 4
 | .nbyt, .oct (some l) => zao fl false l.length 4 ++ l
 | _, _ => []
def tvW (fl : Bool) : Val → List UInt8
 | .nstr o => zao fl false (o.getD []).length 2 ++ o.getD []
 | _ => []
def tagW (x : Nat × List UInt8) : List UInt8 := uvB x.1 ++ (uvB x.2.length ++ x.2)
def zuq (l : List (Nat × List UInt8)) : List UInt8 := uvB l.length ++ (zdd l).flatMap tagW
section
variable (ver : Int) (fl : Bool)
def nulAt : Option Int → Bool
 | none => false
 | some k => decide (k ≤ ver)
mutual
def Ty.wr : Ty → Val → List UInt8
 | .pr k _, .num v => k.wr v
 | .txt k, v => k.wr fl v
 | .arr _ nul _, .nilA => zao fl (nulAt ver nul) 0 4
 | .arr _ _ e, .arr _ l => zao fl false l.length 4 ++ l.flatMap e.wr
 | .row _ _ _ fs, .row l => fs.wr l
 | .tv k, v => if ver < k then tvW fl v else Txt.nstr.wr fl v
 | _, _ => []
def El.wr : El → Val → List UInt8
 | .pr k, .num v => k.wr v
 | .txt k, v => k.wr fl v
 | .row _ _ _ fs, .row l => fs.wr l
 | _, _ => []
def Fds.wr : Fds → List Val → List UInt8
 | .tags, [.tags l] => if fl then zuq l else []
 | .cons g ty r, v :: l => (if g.on ver then ty.wr v else []) ++ r.wr l
 | _, _ => []
end
end
theorem be_lt : ∀ l : List UInt8, be l < 256 ^ l.length
 | [] => by simp [be]
 | x :: l => by
  rw [zue, List.length_cons, Nat.pow_succ]
  have h1 := be_lt l
  have h2 : x.toNat < 256 := x.toNat_lt
  have : x.toNat * 256 ^ l.length ≤ 255 * 256 ^ l.length := Nat.mul_le_mul_right _ (by omega)
  omega
theorem be_inj : ∀ {l l' : List UInt8}, l.length = l'.length → be l = be l' → l = l'
 | [], [], _, _ => rfl
 | [], _ :: _, h, _ => by simp at h
 | _ :: _, [], h, _ => by simp at h
 | x :: l, y :: l', h, e => by
  have hl : l.length = l'.length := by simpa using h
  rw [zue, zue, ← hl] at e
  have h1 := be_lt l
  have h2 := be_lt l'
  rw [← hl] at h2
  obtain ⟨p, hp⟩ : ∃ p, p = 256 ^ l.length := ⟨_, rfl⟩
  rw [← hp] at e h1 h2
  have ex : x.toNat = y.toNat := by
   have d1 : (x.toNat * p + be l) / p = x.toNat := by
    rw [Nat.mul_comm, Nat.mul_add_div (by omega), Nat.div_eq_of_lt h1]; omega
   have d2 : (y.toNat * p + be l') / p = y.toNat := by
    rw [Nat.mul_comm, Nat.mul_add_div (by omega), Nat.div_eq_of_lt h2]; omega
   rw [← d1, e, d2]
  rw [ex] at e
  rw [UInt8.toNat_inj.1 ex, be_inj hl (by omega)]
theorem zsn {a b : Int} {k : Nat} (h : a % (256 ^ k : Nat) = b % (256 ^ k : Nat)) : fixB a k = fixB b k := by
 refine be_inj (by rw [zdr, zdr]) ?_
 have h1 := zxw a k
 have h2 := zxw b k
 rw [h] at h1
 have : (be (fixB a k) : Int) = be (fixB b k) := h1.trans h2.symm
 exact Int.ofNat_inj.1 this
theorem zji (l : List UInt8) : zhn (strV l) = l := by simp [zhn, strV]
theorem tags_wr (u : List (Nat × List UInt8)) : zuq ((unkT u).map fun x => (x.1, zbq x.2)) = uvB (unkT u).length ++ (unkT u).flatMap tagB := by
 unfold zuq
 rw [zwv, List.length_map, List.flatMap_map]
 ·rfl
 ·have := zqe u
  rw [List.map_map]
  exact this
structure zck where
 zce : Nat := 0
 zhv : Nat := 0
 zgp : Nat := 0
 zba : Nat := 0
 zdp : Nat := 0
 zak : Nat := 0
 zfi : Nat := 0
 zbu : Nat := 0
 zbs : Nat := 0
 zbx : Nat := 0
 zbi : Nat := 0
 zfp : Nat := 0
 zhu : Nat := 0
 zaw : Nat := 0
 zht : Nat := 0
 zda : Nat := 0
 zdw : Nat := 0
 zdg : Nat := 0
 zdf : Nat := 0
 zhs : Nat := 0
 zcb : Nat := 0
 zek : Nat := 0
 zcg : Nat := 0
 ziz : Nat := 0
 zhr : Nat := 0
 zfz : Nat := 0
 zdz : Nat := 0
 t_PTags : Nat := 0
def zlv (N : Nums) (A : zck) : C :=
 .seq (
 .ops [
  ⟨some (2+100), .assign (.const (.slice none 0 0)), 0, none, []⟩]) (
 .seq (
 .seq (
 .ops [
  ⟨some (3+100), .move (V 1), 0, none, []⟩]) (
 .cond 3 (
  .seq (
  .ops [
   ⟨some 0, .move (V 0), 0, none, []⟩,
   ⟨some 1, .buildSlice N.za 1 #[(0, (.const (.int .u8 1)))], 0, none, []⟩,
   ⟨some 2, .call ⟨.builtin .append, #[T 0, T 1], #[N.za, N.za]⟩, N.za, none, []⟩,
   ⟨some (2+100), .assign (T 2), 0, none, []⟩]) (
  .ret)) (
  .skip))) (
 .seq (
 .ops [
  ⟨some 0, .move (V 0), 0, none, []⟩,
  ⟨some 1, .buildSlice N.za 1 #[(0, (.const (.int .u8 0)))], 0, none, []⟩,
  ⟨some 2, .call ⟨.builtin .append, #[T 0, T 1], #[N.za, N.za]⟩, N.za, none, []⟩,
  ⟨some (2+100), .assign (T 2), 0, none, []⟩]) (
 .ret)))
def zlu (N : Nums) (A : zck) : C :=
 .seq (
 .ops [
  ⟨some (2+100), .assign (.const (.slice none 0 0)), 0, none, []⟩]) (
 .seq (
 .ops [
  ⟨some 0, .move (V 0), 0, none, []⟩,
  ⟨some 1, .move (V 1), 0, none, []⟩,
  ⟨some 2, .convert N.zjw N.zk (T 1), 0, none, []⟩,
  ⟨some 3, .buildSlice N.za 1 #[(0, (T 2))], 0, none, []⟩,
  ⟨some 4, .call ⟨.builtin .append, #[T 0, T 3], #[N.za, N.za]⟩, N.za, none, []⟩,
  ⟨some (2+100), .assign (T 4), 0, none, []⟩]) (
 .ret))
def zfr (N : Nums) (A : zck) : C :=
 .seq (
 .ops [
  ⟨some (2+100), .assign (.const (.slice none 0 0)), 0, none, []⟩]) (
 .seq (
 .ops [
  ⟨some 0, .move (V 0), 0, none, []⟩,
  ⟨some 1, .move (V 1), 0, none, []⟩,
  ⟨some 2, .convert N.zbd N.zed (T 1), 0, none, []⟩,
  ⟨some 3, .call ⟨.value (.func A.zdg), #[T 0, T 2], #[N.za, N.zed]⟩, N.za, none, []⟩,
  ⟨some (2+100), .assign (T 3), 0, none, []⟩]) (
 .ret))
def zep (N : Nums) (A : zck) : C :=
 .seq (
 .ops [
  ⟨some (2+100), .assign (.const (.slice none 0 0)), 0, none, []⟩]) (
 .seq (
 .ops [
  ⟨some 0, .move (V 0), 0, none, []⟩,
  ⟨some 1, .move (V 1), 0, none, []⟩,
  ⟨some 2, .binOp .shr N.zed (T 1) (.const (.int .u64 8)) N.zbr, 0, none, []⟩,
  ⟨some 3, .convert N.zed N.zk (T 2), 0, none, []⟩,
  ⟨some 4, .move (V 1), 0, none, []⟩,
  ⟨some 5, .convert N.zed N.zk (T 4), 0, none, []⟩,
  ⟨some 6, .buildSlice N.za 2 #[(0, (T 3)), (1, (T 5))], 0, none, []⟩,
  ⟨some 7, .call ⟨.builtin .append, #[T 0, T 6], #[N.za, N.za]⟩, N.za, none, []⟩,
  ⟨some (2+100), .assign (T 7), 0, none, []⟩]) (
 .ret))
def zew (N : Nums) (A : zck) : C :=
 .seq (
 .ops [
  ⟨some (2+100), .assign (.const (.slice none 0 0)), 0, none, []⟩]) (
 .seq (
 .ops [
  ⟨some 0, .move (V 0), 0, none, []⟩,
  ⟨some 1, .move (V 1), 0, none, []⟩,
  ⟨some 2, .convert N.zbp N.zc (T 1), 0, none, []⟩,
  ⟨some 3, .call ⟨.value (.func A.zdf), #[T 0, T 2], #[N.za, N.zc]⟩, N.za, none, []⟩,
  ⟨some (2+100), .assign (T 3), 0, none, []⟩]) (
 .ret))
def zdx (N : Nums) (A : zck) : C :=
 .seq (
 .ops [
  ⟨some (2+100), .assign (.const (.slice none 0 0)), 0, none, []⟩]) (
 .seq (
 .ops [
  ⟨some 0, .move (V 0), 0, none, []⟩,
  ⟨some 1, .move (V 1), 0, none, []⟩,
  ⟨some 2, .binOp .shr N.zc (T 1) (.const (.int .u64 24)) N.zbr, 0, none, []⟩,
  ⟨some 3, .convert N.zc N.zk (T 2), 0, none, []⟩,
  ⟨some 4, .move (V 1), 0, none, []⟩,
  ⟨some 5, .binOp .shr N.zc (T 4) (.const (.int .u64 16)) N.zbr, 0, none, []⟩,
  ⟨some 6, .convert N.zc N.zk (T 5), 0, none, []⟩,
  ⟨some 7, .move (V 1), 0, none, []⟩,
  ⟨some 8, .binOp .shr N.zc (T 7) (.const (.int .u64 8)) N.zbr, 0, none, []⟩,
  ⟨some 9, .convert N.zc N.zk (T 8), 0, none, []⟩,
  ⟨some 10, .move (V 1), 0, none, []⟩,
  ⟨some 11, .convert N.zc N.zk (T 10), 0, none, []⟩,
  ⟨some 12, .buildSlice N.za 4 #[(0, (T 3)), (1, (T 6)), (2, (T 9)), (3, (T 11))], 0, none, []⟩,
  ⟨some 13, .call ⟨.builtin .append, #[T 0, T 12], #[N.za, N.za]⟩, N.za, none, []⟩,
  ⟨some (2+100), .assign (T 13), 0, none, []⟩]) (
 .ret))
def zkw (N : Nums) (A : zck) : C :=
 .seq (
 .ops [
  ⟨some (2+100), .assign (.const (.slice none 0 0)), 0, none, []⟩]) (
 .seq (
 .ops [
  ⟨some 0, .move (V 0), 0, none, []⟩,
  ⟨some 1, .move (V 1), 0, none, []⟩,
  ⟨some 2, .convert N.zbn N.zad (T 1), 0, none, []⟩,
  ⟨some 3, .call ⟨.value (.func A.zfz), #[T 0, T 2], #[N.za, N.zad]⟩, N.za, none, []⟩,
  ⟨some (2+100), .assign (T 3), 0, none, []⟩]) (
 .ret))
def zlt (N : Nums) (A : zck) : C :=
 .seq (
 .ops [
  ⟨some (2+100), .box N.zag (V 1), 0, none, []⟩,
  ⟨some (3+100), .assign (.const (.slice none 0 0)), 0, none, []⟩]) (
 .seq (
 .ops [
  ⟨some 0, .move (V 0), 0, none, []⟩,
  ⟨some 1, .slice N.zag (V 2) none none none, 0, none, []⟩,
  ⟨some 2, .call ⟨.builtin .append, #[T 0, T 1], #[N.za, N.za]⟩, N.za, none, []⟩,
  ⟨some (3+100), .assign (T 2), 0, none, []⟩]) (
 .ret))
def zls (N : Nums) (A : zck) : C :=
 .seq (
 .ops [
  ⟨some (2+100), .assign (.const (.slice none 0 0)), 0, none, []⟩]) (
 .seq (
 .seq (
 .ops [
  ⟨some 0, .move (V 1), 0, none, []⟩,
  ⟨some (3+100), .call ⟨.value (.func A.zhr), #[T 0], #[N.zc]⟩, N.ze, none, []⟩]) (
 .block 0 (
  .seq (
  .ops [
   ⟨some 0, .binOp .eql N.ze (V 3) (.const (.int .i64 5)) N.ze, 0, none, []⟩,
   ⟨some (4+100), .assign (T 0), 0, none, []⟩]) (
  .cond 4 (
   .seq (
   .ops [
    ⟨some 0, .move (V 0), 0, none, []⟩,
    ⟨some 1, .move (V 1), 0, none, []⟩,
    ⟨some 2, .binOp .and N.zc (T 1) (.const (.int .u32 127)) N.zc, 0, none, []⟩,
    ⟨some 3, .binOp .or N.zc (T 2) (.const (.int .u32 128)) N.zc, 0, none, []⟩,
    ⟨some 4, .convert N.zc N.zk (T 3), 0, none, []⟩,
    ⟨some 5, .move (V 1), 0, none, []⟩,
    ⟨some 6, .binOp .shr N.zc (T 5) (.const (.int .u64 7)) N.zbr, 0, none, []⟩,
    ⟨some 7, .binOp .and N.zc (T 6) (.const (.int .u32 127)) N.zc, 0, none, []⟩,
    ⟨some 8, .binOp .or N.zc (T 7) (.const (.int .u32 128)) N.zc, 0, none, []⟩,
    ⟨some 9, .convert N.zc N.zk (T 8), 0, none, []⟩,
    ⟨some 10, .move (V 1), 0, none, []⟩,
    ⟨some 11, .binOp .shr N.zc (T 10) (.const (.int .u64 14)) N.zbr, 0, none, []⟩,
    ⟨some 12, .binOp .and N.zc (T 11) (.const (.int .u32 127)) N.zc, 0, none, []⟩,
    ⟨some 13, .binOp .or N.zc (T 12) (.const (.int .u32 128)) N.zc, 0, none, []⟩,
    ⟨some 14, .convert N.zc N.zk (T 13), 0, none, []⟩,
    ⟨some 15, .move (V 1), 0, none, []⟩,
    ⟨some 16, .binOp .shr N.zc (T 15) (.const (.int .u64 21)) N.zbr, 0, none, []⟩,
    ⟨some 17, .binOp .and N.zc (T 16) (.const (.int .u32 127)) N.zc, 0, none, []⟩,
    ⟨some 18, .binOp .or N.zc (T 17) (.const (.int .u32 128)) N.zc, 0, none, []⟩,
    ⟨some 19, .convert N.zc N.zk (T 18), 0, none, []⟩,
    ⟨some 20, .move (V 1), 0, none, []⟩,
    ⟨some 21, .binOp .shr N.zc (T 20) (.const (.int .u64 28)) N.zbr, 0, none, []⟩,
    ⟨some 22, .convert N.zc N.zk (T 21), 0, none, []⟩,
    ⟨some 23, .buildSlice N.za 5 #[(0, (T 4)), (1, (T 9)), (2, (T 14)), (3, (T 19)), (4, (T 22))], 0, none, []⟩,
    ⟨some 24, .call ⟨.builtin .append, #[T 0, T 23], #[N.za, N.za]⟩, N.za, none, []⟩,
    ⟨some (2+100), .assign (T 24), 0, none, []⟩]) (
   .ret)) (
   .seq (
   .ops [
    ⟨some 0, .binOp .eql N.ze (V 3) (.const (.int .i64 4)) N.ze, 0, none, []⟩,
    ⟨some (5+100), .assign (T 0), 0, none, []⟩]) (
   .cond 5 (
    .seq (
    .ops [
     ⟨some 0, .move (V 0), 0, none, []⟩,
     ⟨some 1, .move (V 1), 0, none, []⟩,
     ⟨some 2, .binOp .and N.zc (T 1) (.const (.int .u32 127)) N.zc, 0, none, []⟩,
     ⟨some 3, .binOp .or N.zc (T 2) (.const (.int .u32 128)) N.zc, 0, none, []⟩,
     ⟨some 4, .convert N.zc N.zk (T 3), 0, none, []⟩,
     ⟨some 5, .move (V 1), 0, none, []⟩,
     ⟨some 6, .binOp .shr N.zc (T 5) (.const (.int .u64 7)) N.zbr, 0, none, []⟩,
     ⟨some 7, .binOp .and N.zc (T 6) (.const (.int .u32 127)) N.zc, 0, none, []⟩,
     ⟨some 8, .binOp .or N.zc (T 7) (.const (.int .u32 128)) N.zc, 0, none, []⟩,
     ⟨some 9, .convert N.zc N.zk (T 8), 0, none, []⟩,
     ⟨some 10, .move (V 1), 0, none, []⟩,
     ⟨some 11, .binOp .shr N.zc (T 10) (.const (.int .u64 14)) N.zbr, 0, none, []⟩,
     ⟨some 12, .binOp .and N.zc (T 11) (.const (.int .u32 127)) N.zc, 0, none, []⟩,
     ⟨some 13, .binOp .or N.zc (T 12) (.const (.int .u32 128)) N.zc, 0, none, []⟩,
     ⟨some 14, .convert N.zc N.zk (T 13), 0, none, []⟩,
     ⟨some 15, .move (V 1), 0, none, []⟩,
     ⟨some 16, .binOp .shr N.zc (T 15) (.const (.int .u64 21)) N.zbr, 0, none, []⟩,
     ⟨some 17, .convert N.zc N.zk (T 16), 0, none, []⟩,
     ⟨some 18, .buildSlice N.za 4 #[(0, (T 4)), (1, (T 9)), (2, (T 14)), (3, (T 17))], 0, none, []⟩,
     ⟨some 19, .call ⟨.builtin .append, #[T 0, T 18], #[N.za, N.za]⟩, N.za, none, []⟩,
     ⟨some (2+100), .assign (T 19), 0, none, []⟩]) (
    .ret)) (
    .seq (
    .ops [
     ⟨some 0, .binOp .eql N.ze (V 3) (.const (.int .i64 3)) N.ze, 0, none, []⟩,
     ⟨some (6+100), .assign (T 0), 0, none, []⟩]) (
    .cond 6 (
     .seq (
     .ops [
      ⟨some 0, .move (V 0), 0, none, []⟩,
      ⟨some 1, .move (V 1), 0, none, []⟩,
      ⟨some 2, .binOp .and N.zc (T 1) (.const (.int .u32 127)) N.zc, 0, none, []⟩,
      ⟨some 3, .binOp .or N.zc (T 2) (.const (.int .u32 128)) N.zc, 0, none, []⟩,
      ⟨some 4, .convert N.zc N.zk (T 3), 0, none, []⟩,
      ⟨some 5, .move (V 1), 0, none, []⟩,
      ⟨some 6, .binOp .shr N.zc (T 5) (.const (.int .u64 7)) N.zbr, 0, none, []⟩,
      ⟨some 7, .binOp .and N.zc (T 6) (.const (.int .u32 127)) N.zc, 0, none, []⟩,
      ⟨some 8, .binOp .or N.zc (T 7) (.const (.int .u32 128)) N.zc, 0, none, []⟩,
      ⟨some 9, .convert N.zc N.zk (T 8), 0, none, []⟩,
      ⟨some 10, .move (V 1), 0, none, []⟩,
      ⟨some 11, .binOp .shr N.zc (T 10) (.const (.int .u64 14)) N.zbr, 0, none, []⟩,
      ⟨some 12, .convert N.zc N.zk (T 11), 0, none, []⟩,
      ⟨some 13, .buildSlice N.za 3 #[(0, (T 4)), (1, (T 9)), (2, (T 12))], 0, none, []⟩,
      ⟨some 14, .call ⟨.builtin .append, #[T 0, T 13], #[N.za, N.za]⟩, N.za, none, []⟩,
      ⟨some (2+100), .assign (T 14), 0, none, []⟩]) (
     .ret)) (
     .seq (
     .ops [
      ⟨some 0, .binOp .eql N.ze (V 3) (.const (.int .i64 2)) N.ze, 0, none, []⟩,
      ⟨some (7+100), .assign (T 0), 0, none, []⟩]) (
     .cond 7 (
      .seq (
      .ops [
       ⟨some 0, .move (V 0), 0, none, []⟩,
       ⟨some 1, .move (V 1), 0, none, []⟩,
       ⟨some 2, .binOp .and N.zc (T 1) (.const (.int .u32 127)) N.zc, 0, none, []⟩,
       ⟨some 3, .binOp .or N.zc (T 2) (.const (.int .u32 128)) N.zc, 0, none, []⟩,
       ⟨some 4, .convert N.zc N.zk (T 3), 0, none, []⟩,
       ⟨some 5, .move (V 1), 0, none, []⟩,
       ⟨some 6, .binOp .shr N.zc (T 5) (.const (.int .u64 7)) N.zbr, 0, none, []⟩,
       ⟨some 7, .convert N.zc N.zk (T 6), 0, none, []⟩,
       ⟨some 8, .buildSlice N.za 2 #[(0, (T 4)), (1, (T 7))], 0, none, []⟩,
       ⟨some 9, .call ⟨.builtin .append, #[T 0, T 8], #[N.za, N.za]⟩, N.za, none, []⟩,
       ⟨some (2+100), .assign (T 9), 0, none, []⟩]) (
      .ret)) (
      .seq (
      .ops [
       ⟨some 0, .binOp .eql N.ze (V 3) (.const (.int .i64 1)) N.ze, 0, none, []⟩,
       ⟨some (8+100), .assign (T 0), 0, none, []⟩]) (
      .cond 8 (
       .seq (
       .ops [
        ⟨some 0, .move (V 0), 0, none, []⟩,
        ⟨some 1, .move (V 1), 0, none, []⟩,
        ⟨some 2, .convert N.zc N.zk (T 1), 0, none, []⟩,
        ⟨some 3, .buildSlice N.za 1 #[(0, (T 2))], 0, none, []⟩,
        ⟨some 4, .call ⟨.builtin .append, #[T 0, T 3], #[N.za, N.za]⟩, N.za, none, []⟩,
        ⟨some (2+100), .assign (T 4), 0, none, []⟩]) (
       .ret)) (
       .skip))))))))))))) (
 .seq (
 .ops [
  ⟨some 0, .move (V 0), 0, none, []⟩,
  ⟨some (2+100), .assign (T 0), 0, none, []⟩]) (
 .ret)))
def zhk (N : Nums) (A : zck) : C :=
 .seq (
 .ops [
  ⟨some (2+100), .assign (.const (.slice none 0 0)), 0, none, []⟩]) (
 .seq (
 .ops [
  ⟨some 0, .move (V 0), 0, none, []⟩,
  ⟨some 1, .move (V 1), 0, none, []⟩,
  ⟨some 2, .call ⟨.builtin .len, #[T 1], #[N.zal]⟩, N.ze, none, []⟩,
  ⟨some 3, .convert N.ze N.zbd (T 2), 0, none, []⟩,
  ⟨some 4, .call ⟨.value (.func A.zbx), #[T 0, T 3], #[N.za, N.zbd]⟩, N.za, none, []⟩,
  ⟨some (0+100), .assign (T 4), 0, none, []⟩]) (
 .seq (
 .ops [
  ⟨some 0, .move (V 0), 0, none, []⟩,
  ⟨some 1, .move (V 1), 0, none, []⟩,
  ⟨some 2, .call ⟨.builtin .append, #[T 0, T 1], #[N.za, N.zal]⟩, N.za, none, []⟩,
  ⟨some (2+100), .assign (T 2), 0, none, []⟩]) (
 .ret)))
def zem (N : Nums) (A : zck) : C :=
 .seq (
 .ops [
  ⟨some (2+100), .assign (.const (.slice none 0 0)), 0, none, []⟩]) (
 .seq (
 .ops [
  ⟨some 0, .move (V 0), 0, none, []⟩,
  ⟨some 1, .move (V 1), 0, none, []⟩,
  ⟨some 2, .call ⟨.builtin .len, #[T 1], #[N.zal]⟩, N.ze, none, []⟩,
  ⟨some 3, .convert N.ze N.zc (T 2), 0, none, []⟩,
  ⟨some 4, .binOp .add N.zc (.const (.int .u32 1)) (T 3) N.zc, 0, none, []⟩,
  ⟨some 5, .call ⟨.value (.func A.zcb), #[T 0, T 4], #[N.za, N.zc]⟩, N.za, none, []⟩,
  ⟨some (0+100), .assign (T 5), 0, none, []⟩]) (
 .seq (
 .ops [
  ⟨some 0, .move (V 0), 0, none, []⟩,
  ⟨some 1, .move (V 1), 0, none, []⟩,
  ⟨some 2, .call ⟨.builtin .append, #[T 0, T 1], #[N.za, N.zal]⟩, N.za, none, []⟩,
  ⟨some (2+100), .assign (T 2), 0, none, []⟩]) (
 .ret)))
def zfd (N : Nums) (A : zck) : C :=
 .seq (
 .ops [
  ⟨some (2+100), .assign (.const (.slice none 0 0)), 0, none, []⟩]) (
 .seq (
 .seq (
 .ops [
  ⟨some 0, .move (V 1), 0, none, []⟩,
  ⟨some (3+100), .binOp .eql N.zay (T 0) (.const (.pointer none)) N.zay, 0, none, []⟩]) (
 .cond 3 (
  .seq (
  .ops [
   ⟨some 0, .move (V 0), 0, none, []⟩,
   ⟨some 1, .call ⟨.value (.func A.zbx), #[(T 0), (.const (.int .i16 (-1)))], #[N.za, N.zbd]⟩, N.za, none, []⟩,
   ⟨some (2+100), .assign (T 1), 0, none, []⟩]) (
  .ret)) (
  .skip))) (
 .seq (
 .ops [
  ⟨some 0, .move (V 0), 0, none, []⟩,
  ⟨some 1, .move (V 1), 0, none, []⟩,
  ⟨some 2, .nilCheck (T 1), 0, none, []⟩,
  ⟨some 3, .load N.zal (T 2), 0, none, []⟩,
  ⟨some 4, .call ⟨.value (.func A.zdw), #[T 0, T 3], #[N.za, N.zal]⟩, N.za, none, []⟩,
  ⟨some (2+100), .assign (T 4), 0, none, []⟩]) (
 .ret)))
def zdo (N : Nums) (A : zck) : C :=
 .seq (
 .ops [
  ⟨some (2+100), .assign (.const (.slice none 0 0)), 0, none, []⟩]) (
 .seq (
 .seq (
 .ops [
  ⟨some 0, .move (V 1), 0, none, []⟩,
  ⟨some (3+100), .binOp .eql N.zay (T 0) (.const (.pointer none)) N.zay, 0, none, []⟩]) (
 .cond 3 (
  .seq (
  .ops [
   ⟨some 0, .move (V 0), 0, none, []⟩,
   ⟨some 1, .call ⟨.value (.func A.zcb), #[(T 0), (.const (.int .u32 0))], #[N.za, N.zc]⟩, N.za, none, []⟩,
   ⟨some (2+100), .assign (T 1), 0, none, []⟩]) (
  .ret)) (
  .skip))) (
 .seq (
 .ops [
  ⟨some 0, .move (V 0), 0, none, []⟩,
  ⟨some 1, .move (V 1), 0, none, []⟩,
  ⟨some 2, .nilCheck (T 1), 0, none, []⟩,
  ⟨some 3, .load N.zal (T 2), 0, none, []⟩,
  ⟨some 4, .call ⟨.value (.func A.zbs), #[T 0, T 3], #[N.za, N.zal]⟩, N.za, none, []⟩,
  ⟨some (2+100), .assign (T 4), 0, none, []⟩]) (
 .ret)))
def zid (N : Nums) (A : zck) : C :=
 .seq (
 .ops [
  ⟨some (2+100), .assign (.const (.slice none 0 0)), 0, none, []⟩]) (
 .seq (
 .ops [
  ⟨some 0, .move (V 0), 0, none, []⟩,
  ⟨some 1, .move (V 1), 0, none, []⟩,
  ⟨some 2, .convert N.ze N.zbp (T 1), 0, none, []⟩,
  ⟨some 3, .call ⟨.value (.func A.zbi), #[T 0, T 2], #[N.za, N.zbp]⟩, N.za, none, []⟩,
  ⟨some (2+100), .assign (T 3), 0, none, []⟩]) (
 .ret))
def zex (N : Nums) (A : zck) : C :=
 .seq (
 .ops [
  ⟨some (2+100), .assign (.const (.slice none 0 0)), 0, none, []⟩]) (
 .seq (
 .ops [
  ⟨some 0, .move (V 0), 0, none, []⟩,
  ⟨some 1, .move (V 1), 0, none, []⟩,
  ⟨some 2, .convert N.ze N.zc (T 1), 0, none, []⟩,
  ⟨some 3, .binOp .add N.zc (.const (.int .u32 1)) (T 2) N.zc, 0, none, []⟩,
  ⟨some 4, .call ⟨.value (.func A.zcb), #[T 0, T 3], #[N.za, N.zc]⟩, N.za, none, []⟩,
  ⟨some (2+100), .assign (T 4), 0, none, []⟩]) (
 .ret))
def zeu (N : Nums) (A : zck) : C :=
 .seq (
 .ops [
  ⟨some (3+100), .assign (.const (.slice none 0 0)), 0, none, []⟩]) (
 .seq (
 .seq (
 .ops [
  ⟨some (4+100), .move (V 2), 0, none, []⟩]) (
 .cond 4 (
  .seq (
  .ops [
   ⟨some 0, .move (V 0), 0, none, []⟩,
   ⟨some 1, .call ⟨.value (.func A.zbi), #[(T 0), (.const (.int .i32 (-1)))], #[N.za, N.zbp]⟩, N.za, none, []⟩,
   ⟨some (3+100), .assign (T 1), 0, none, []⟩]) (
  .ret)) (
  .skip))) (
 .seq (
 .ops [
  ⟨some 0, .move (V 0), 0, none, []⟩,
  ⟨some 1, .move (V 1), 0, none, []⟩,
  ⟨some 2, .convert N.ze N.zbp (T 1), 0, none, []⟩,
  ⟨some 3, .call ⟨.value (.func A.zbi), #[T 0, T 2], #[N.za, N.zbp]⟩, N.za, none, []⟩,
  ⟨some (3+100), .assign (T 3), 0, none, []⟩]) (
 .ret)))
def zdc (N : Nums) (A : zck) : C :=
 .seq (
 .ops [
  ⟨some (3+100), .assign (.const (.slice none 0 0)), 0, none, []⟩]) (
 .seq (
 .seq (
 .ops [
  ⟨some (4+100), .move (V 2), 0, none, []⟩]) (
 .cond 4 (
  .seq (
  .ops [
   ⟨some 0, .move (V 0), 0, none, []⟩,
   ⟨some 1, .call ⟨.value (.func A.zcb), #[(T 0), (.const (.int .u32 0))], #[N.za, N.zc]⟩, N.za, none, []⟩,
   ⟨some (3+100), .assign (T 1), 0, none, []⟩]) (
  .ret)) (
  .skip))) (
 .seq (
 .ops [
  ⟨some 0, .move (V 0), 0, none, []⟩,
  ⟨some 1, .move (V 1), 0, none, []⟩,
  ⟨some 2, .convert N.ze N.zc (T 1), 0, none, []⟩,
  ⟨some 3, .binOp .add N.zc (.const (.int .u32 1)) (T 2) N.zc, 0, none, []⟩,
  ⟨some 4, .call ⟨.value (.func A.zcb), #[T 0, T 3], #[N.za, N.zc]⟩, N.za, none, []⟩,
  ⟨some (3+100), .assign (T 4), 0, none, []⟩]) (
 .ret)))
def zhj (N : Nums) (A : zck) : C :=
 .seq (
 .ops [
  ⟨some (2+100), .assign (.const (.slice none 0 0)), 0, none, []⟩]) (
 .seq (
 .ops [
  ⟨some 0, .move (V 0), 0, none, []⟩,
  ⟨some 1, .move (V 1), 0, none, []⟩,
  ⟨some 2, .binOp .shr N.zad (T 1) (.const (.int .u64 56)) N.zbr, 0, none, []⟩,
  ⟨some 3, .convert N.zad N.zk (T 2), 0, none, []⟩,
  ⟨some 4, .move (V 1), 0, none, []⟩,
  ⟨some 5, .binOp .shr N.zad (T 4) (.const (.int .u64 48)) N.zbr, 0, none, []⟩,
  ⟨some 6, .convert N.zad N.zk (T 5), 0, none, []⟩,
  ⟨some 7, .move (V 1), 0, none, []⟩,
  ⟨some 8, .binOp .shr N.zad (T 7) (.const (.int .u64 40)) N.zbr, 0, none, []⟩,
  ⟨some 9, .convert N.zad N.zk (T 8), 0, none, []⟩,
  ⟨some 10, .move (V 1), 0, none, []⟩,
  ⟨some 11, .binOp .shr N.zad (T 10) (.const (.int .u64 32)) N.zbr, 0, none, []⟩,
  ⟨some 12, .convert N.zad N.zk (T 11), 0, none, []⟩,
  ⟨some 13, .move (V 1), 0, none, []⟩,
  ⟨some 14, .binOp .shr N.zad (T 13) (.const (.int .u64 24)) N.zbr, 0, none, []⟩,
  ⟨some 15, .convert N.zad N.zk (T 14), 0, none, []⟩,
  ⟨some 16, .move (V 1), 0, none, []⟩,
  ⟨some 17, .binOp .shr N.zad (T 16) (.const (.int .u64 16)) N.zbr, 0, none, []⟩,
  ⟨some 18, .convert N.zad N.zk (T 17), 0, none, []⟩,
  ⟨some 19, .move (V 1), 0, none, []⟩,
  ⟨some 20, .binOp .shr N.zad (T 19) (.const (.int .u64 8)) N.zbr, 0, none, []⟩,
  ⟨some 21, .convert N.zad N.zk (T 20), 0, none, []⟩,
  ⟨some 22, .move (V 1), 0, none, []⟩,
  ⟨some 23, .convert N.zad N.zk (T 22), 0, none, []⟩,
  ⟨some 24, .buildSlice N.za 8 #[(0, (T 3)), (1, (T 6)), (2, (T 9)), (3, (T 12)), (4, (T 15)), (5, (T 18)), (6, (T 21)), (7, (T 23))], 0, none, []⟩,
  ⟨some 25, .call ⟨.builtin .append, #[T 0, T 24], #[N.za, N.za]⟩, N.za, none, []⟩,
  ⟨some (2+100), .assign (T 25), 0, none, []⟩]) (
 .ret))
def zlr (N : Nums) (A : zck) : C :=
 .seq (
 .ops [
  ⟨some (1+100), .assign (.const (.int .i64 0)), 0, none, []⟩]) (
 .seq (
 .ops [
  ⟨some 0, .move (V 0), 0, none, []⟩,
  ⟨some 1, .call ⟨.value (.func A.zdz), #[T 0], #[N.zc]⟩, N.ze, none, []⟩,
  ⟨some 2, .convert N.ze N.zk (T 1), 0, none, []⟩,
  ⟨some 3, .index N.zal (.const (.string ⟨#[1, 1, 1, 1, 1, 1, 1, 1, 2, 2, 2, 2, 2, 2, 2, 3, 3, 3, 3, 3, 3, 3, 4, 4, 4, 4, 4, 4, 4, 5, 5, 5, 5, 5, 5, 5, 6, 6, 6, 6, 6, 6, 6, 7, 7, 7, 7, 7, 7, 7, 8, 8, 8, 8, 8, 8, 8, 9, 9, 9, 9, 9, 9, 9, 10, 0, 0, 0, 0, 0, 0, 0, 0, 0, 0, 0, 0, 0, 0, 0, 0, 0, 0, 0, 0, 0, 0, 0, 0, 0, 0, 0, 0, 0, 0, 0, 0, 0, 0, 0, 0, 0, 0, 0, 0, 0, 0, 0, 0, 0, 0, 0, 0, 0, 0, 0, 0, 0, 0, 0, 0, 0, 0, 0, 0, 0, 0, 0, 0, 0, 0, 0, 0, 0, 0, 0, 0, 0, 0, 0, 0, 0, 0, 0, 0, 0, 0, 0, 0, 0, 0, 0, 0, 0, 0, 0, 0, 0, 0, 0, 0, 0, 0, 0, 0, 0, 0, 0, 0, 0, 0, 0, 0, 0, 0, 0, 0, 0, 0, 0, 0, 0, 0, 0, 0, 0, 0, 0, 0, 0, 0, 0, 0, 0, 0, 0, 0, 0, 0, 0, 0, 0, 0, 0, 0, 0, 0, 0, 0, 0, 0, 0, 0, 0, 0, 0, 0, 0, 0, 0, 0, 0, 0, 0, 0, 0, 0, 0, 0, 0, 0, 0, 0, 0, 0, 0, 0, 0, 0, 0, 0, 0, 0, 0, 0, 0, 0, 0, 0, 0, 0, 0, 0, 0, 0, 0]⟩)) (T 2), 0, none, []⟩,
  ⟨some 4, .convert N.zk N.ze (T 3), 0, none, []⟩,
  ⟨some (1+100), .assign (T 4), 0, none, []⟩]) (
 .ret))
def zfq (N : Nums) (A : zck) : C :=
 .seq (
 .ops [
  ⟨some (1+100), .assign (.const (.int .i64 0)), 0, none, []⟩]) (
 .seq (
 .seq (
 .ops [
  ⟨some 0, .move (V 0), 0, none, []⟩,
  ⟨some (2+100), .binOp .geq N.zc (T 0) (.const (.int .u32 65536)) N.zc, 0, none, []⟩]) (
 .cond 2 (
  .seq (
  .ops [
   ⟨some 0, .move (V 0), 0, none, []⟩,
   ⟨some 1, .binOp .shr N.zc (T 0) (.const (.int .u64 16)) N.zbr, 0, none, []⟩,
   ⟨some (0+100), .assign (T 1), 0, none, []⟩]) (
  .ops [
   ⟨some (1+100), .assign (.const (.int .i64 16)), 0, none, []⟩])) (
  .skip))) (
 .seq (
 .seq (
 .ops [
  ⟨some 0, .move (V 0), 0, none, []⟩,
  ⟨some (3+100), .binOp .geq N.zc (T 0) (.const (.int .u32 256)) N.zc, 0, none, []⟩]) (
 .cond 3 (
  .seq (
  .ops [
   ⟨some 0, .move (V 0), 0, none, []⟩,
   ⟨some 1, .binOp .shr N.zc (T 0) (.const (.int .u64 8)) N.zbr, 0, none, []⟩,
   ⟨some (0+100), .assign (T 1), 0, none, []⟩]) (
  .ops [
   ⟨some 0, .move (V 1), 0, none, []⟩,
   ⟨some 1, .binOp .add N.ze (T 0) (.const (.int .i64 8)) N.ze, 0, none, []⟩,
   ⟨some (1+100), .assign (T 1), 0, none, []⟩])) (
  .skip))) (
 .seq (
 .ops [
  ⟨some 0, .move (V 1), 0, none, []⟩,
  ⟨some 1, .move (V 0), 0, none, []⟩,
  ⟨some 2, .convert N.zc N.zk (T 1), 0, none, []⟩,
  ⟨some 3, .index N.zal (.const (.string ⟨#[0, 1, 2, 2, 3, 3, 3, 3, 4, 4, 4, 4, 4, 4, 4, 4, 5, 5, 5, 5, 5, 5, 5, 5, 5, 5, 5, 5, 5, 5, 5, 5, 6, 6, 6, 6, 6, 6, 6, 6, 6, 6, 6, 6, 6, 6, 6, 6, 6, 6, 6, 6, 6, 6, 6, 6, 6, 6, 6, 6, 6, 6, 6, 6, 7, 7, 7, 7, 7, 7, 7, 7, 7, 7, 7, 7, 7, 7, 7, 7, 7, 7, 7, 7, 7, 7, 7, 7, 7, 7, 7, 7, 7, 7, 7, 7, 7, 7, 7, 7, 7, 7, 7, 7, 7, 7, 7, 7, 7, 7, 7, 7, 7, 7, 7, 7, 7, 7, 7, 7, 7, 7, 7, 7, 7, 7, 7, 7, 8, 8, 8, 8, 8, 8, 8, 8, 8, 8, 8, 8, 8, 8, 8, 8, 8, 8, 8, 8, 8, 8, 8, 8, 8, 8, 8, 8, 8, 8, 8, 8, 8, 8, 8, 8, 8, 8, 8, 8, 8, 8, 8, 8, 8, 8, 8, 8, 8, 8, 8, 8, 8, 8, 8, 8, 8, 8, 8, 8, 8, 8, 8, 8, 8, 8, 8, 8, 8, 8, 8, 8, 8, 8, 8, 8, 8, 8, 8, 8, 8, 8, 8, 8, 8, 8, 8, 8, 8, 8, 8, 8, 8, 8, 8, 8, 8, 8, 8, 8, 8, 8, 8, 8, 8, 8, 8, 8, 8, 8, 8, 8, 8, 8, 8, 8, 8, 8, 8, 8, 8, 8, 8, 8, 8, 8, 8, 8]⟩)) (T 2), 0, none, []⟩,
  ⟨some 4, .convert N.zk N.ze (T 3), 0, none, []⟩,
  ⟨some 5, .binOp .add N.ze (T 0) (T 4) N.ze, 0, none, []⟩,
  ⟨some (1+100), .assign (T 5), 0, none, []⟩]) (
 .ret))))
def zkt (N : Nums) (A : zck) : C :=
 .seq (
 .ops [
  ⟨some (1+100), .assign (.const (.int .i64 0)), 0, none, []⟩]) (
 .seq (
 .ops [
  ⟨some 0, .move (V 0), 0, none, []⟩,
  ⟨some 1, .nilCheck (T 0), 0, none, []⟩,
  ⟨some 2, .fieldAddr N.zcq (T 1) 0, 0, none, []⟩,
  ⟨some 3, .load N.zz (T 2), 0, none, []⟩,
  ⟨some 4, .call ⟨.builtin .len, #[T 3], #[N.zz]⟩, N.ze, none, []⟩,
  ⟨some (1+100), .assign (T 4), 0, none, []⟩]) (
 .ret))
def zfj (N : Nums) (A : zck) : C :=
 .seq (
 .ops [
  ⟨some (2+100), .box N.za (V 1), 0, none, []⟩,
  ⟨some (3+100), .assign (.const (.slice none 0 0)), 0, none, []⟩]) (
 .seq (
 .ops [
  ⟨some 0, .move (V 0), 0, none, []⟩,
  ⟨some 1, .makeFunc (.func A.zcg) #[] #[V 2], 0, none, []⟩,
  ⟨some 2, .call ⟨.value (.func N.zgk), #[T 0, T 1], #[A.t_PTags, N.zfs]⟩, N.t_, none, []⟩]) (
 .seq (
 .ops [
  ⟨some 0, .load N.za (V 2), 0, none, []⟩,
  ⟨some (3+100), .assign (T 0), 0, none, []⟩]) (
 .ret)))
def zdq (N : Nums) (A : zck) : C :=
 .seq (
 .ops [
  ⟨some 0, .load N.za (V 2), 0, none, []⟩,
  ⟨some 1, .move (V 0), 0, none, []⟩,
  ⟨some 2, .call ⟨.value (.func A.zcb), #[T 0, T 1], #[N.za, N.zc]⟩, N.za, none, []⟩,
  ⟨none, .store N.za (V 2) (T 2), 0, none, []⟩]) (
 .seq (
 .ops [
  ⟨some 0, .load N.za (V 2), 0, none, []⟩,
  ⟨some 1, .move (V 1), 0, none, []⟩,
  ⟨some 2, .call ⟨.builtin .len, #[T 1], #[N.za]⟩, N.ze, none, []⟩,
  ⟨some 3, .convert N.ze N.zc (T 2), 0, none, []⟩,
  ⟨some 4, .call ⟨.value (.func A.zcb), #[T 0, T 3], #[N.za, N.zc]⟩, N.za, none, []⟩,
  ⟨none, .store N.za (V 2) (T 4), 0, none, []⟩]) (
 .ops [
  ⟨some 0, .load N.za (V 2), 0, none, []⟩,
  ⟨some 1, .move (V 1), 0, none, []⟩,
  ⟨some 2, .call ⟨.builtin .append, #[T 0, T 1], #[N.za, N.za]⟩, N.za, none, []⟩,
  ⟨none, .store N.za (V 2) (T 2), 0, none, []⟩]))
structure Apd (w : World) (lo : Nat) (v : Value) (l s : List UInt8) (v' : Value) (w' : World) : Prop where
 own : OwnB w' lo v' (l ++ s)
 mod : Mod w w' (fun k _ => ¬ zaj v k)
 keep : ∀ k, k < w.heap.size → zaj v k → zaj v' k
theorem Apd.trans {w w1 w2 : World} {lo : Nat} {l s s' : List UInt8} {v v1 v2 : Value} (h1 : Apd w lo v l s v1 w1) (h2 : Apd w1 lo v1 (l ++ s) s' v2 w2) : Apd w lo v l (s ++ s') v2 w2 :=
 ⟨by rw [← List.append_assoc]; exact h2.own, h1.mod.trans h2.mod fun k _ hk h => h.elim id fun h hn => h (h1.keep k hk hn), fun k hk hn => h2.keep k (Nat.lt_of_lt_of_le hk h1.mod.size) (h1.keep k hk hn)⟩
theorem Apd.after {w w1 w2 : World} {lo : Nat} {l s : List UInt8} {v v' : Value} (m : Mod w w1 zw) (h : Apd w1 lo v l s v' w2) : Apd w lo v l s v' w2 :=
 ⟨h.own, m.trans h.mod fun _ _ _ h => h.elim False.elim id, fun k hk hn => h.keep k (Nat.lt_of_lt_of_le hk m.size) hn⟩
theorem Apd.low {w w' : World} {lo : Nat} {l s : List UInt8} {v v' : Value} (ho : OwnB w lo v l) (h : Apd w lo v l s v' w') : Mod w w' (fun k _ => lo ≤ k) :=
 h.mod.mono fun _ _ _ h => (ho.blk h).1
section
variable {P : Program} {N : Nums} {A : zck}
theorem zvd (n : Nat) : ((Array.range (n * 1)).map ((Value.int IntKind.u8 0).cells[· % (Value.int IntKind.u8 0).cells.size]!)) = Array.replicate n (.int .u8 0) := by
 apply Array.ext
 ·simp
 ·intro i h1 h2
  simp [Value.cells, Nat.mod_one]
theorem run_bsL2 (B : Base P N) {w : World} {a b : UInt8} : (Instr.buildSlice N.za 2 #[(0, zam a), (1, zam b)]).run P w = .ok (.slice (some ⟨w.heap.size, 0, none⟩) 2 2) (w.alloc (.cells ([a, b].map zam).toArray N.zk)) := by
 obtain ⟨i, hi, h1, h2, h3⟩ := B.uint8.info
 refine run_buildSlice w _ _ 2 _ _ i _ B.Lu8.und hi h3 (by omega) (by omega) ?_
 rw [h1, zvd, show Array.replicate 2 (Value.int IntKind.u8 0) = #[.int .u8 0, .int .u8 0] from rfl]
 simp [Instr.fill, zam, Value.cells]
theorem run_bsL3 (B : Base P N) {w : World} {a b c : UInt8} : (Instr.buildSlice N.za 3 #[(0, zam a), (1, zam b), (2, zam c)]).run P w = .ok (.slice (some ⟨w.heap.size, 0, none⟩) 3 3) (w.alloc (.cells ([a, b, c].map zam).toArray N.zk)) := by
 obtain ⟨i, hi, h1, h2, h3⟩ := B.uint8.info
 refine run_buildSlice w _ _ 3 _ _ i _ B.Lu8.und hi h3 (by omega) (by omega) ?_
 rw [h1, zvd, show Array.replicate 3 (Value.int IntKind.u8 0) = #[.int .u8 0, .int .u8 0, .int .u8 0] from rfl]
 simp [Instr.fill, zam, Value.cells]
theorem run_bsL4 (B : Base P N) {w : World} {a b c d : UInt8} : (Instr.buildSlice N.za 4 #[(0, zam a), (1, zam b), (2, zam c), (3, zam d)]).run P w = .ok (.slice (some ⟨w.heap.size, 0, none⟩) 4 4) (w.alloc (.cells ([a, b, c, d].map zam).toArray N.zk)) := by
 obtain ⟨i, hi, h1, h2, h3⟩ := B.uint8.info
 refine run_buildSlice w _ _ 4 _ _ i _ B.Lu8.und hi h3 (by omega) (by omega) ?_
 rw [h1, zvd, show Array.replicate 4 (Value.int IntKind.u8 0) = #[.int .u8 0, .int .u8 0, .int .u8 0, .int .u8 0] from rfl]
 simp [Instr.fill, zam, Value.cells]
theorem run_bsL5 (B : Base P N) {w : World} {a b c d e : UInt8} : (Instr.buildSlice N.za 5 #[(0, zam a), (1, zam b), (2, zam c), (3, zam d), (4, zam e)]).run P w = .ok (.slice (some ⟨w.heap.size, 0, none⟩) 5 5) (w.alloc (.cells ([a, b, c, d, e].map zam).toArray N.zk)) := by
 obtain ⟨i, hi, h1, h2, h3⟩ := B.uint8.info
 refine run_buildSlice w _ _ 5 _ _ i _ B.Lu8.und hi h3 (by omega) (by omega) ?_
 rw [h1, zvd, show Array.replicate 5 (Value.int IntKind.u8 0) = #[.int .u8 0, .int .u8 0, .int .u8 0, .int .u8 0, .int .u8 0] from rfl]
 simp [Instr.fill, zam, Value.cells]
theorem run_bsL8 (B : Base P N) {w : World} {a b c d e f g h : UInt8} : (Instr.buildSlice N.za 8 #[(0, zam a), (1, zam b), (2, zam c), (3, zam d), (4, zam e), (5, zam f), (6, zam g), (7, zam h)]).run P w = .ok (.slice (some ⟨w.heap.size, 0, none⟩) 8 8) (w.alloc (.cells ([a, b, c, d, e, f, g, h].map zam).toArray N.zk)) := by
 obtain ⟨i, hi, h1, h2, h3⟩ := B.uint8.info
 refine run_buildSlice w _ _ 8 _ _ i _ B.Lu8.und hi h3 (by omega) (by omega) ?_
 rw [h1, zvd, show Array.replicate 8 (Value.int IntKind.u8 0) = #[.int .u8 0, .int .u8 0, .int .u8 0, .int .u8 0, .int .u8 0, .int .u8 0, .int .u8 0, .int .u8 0] from rfl]
 simp [Instr.fill, zam, Value.cells]
theorem zir (B : Base P N) {w : World} {lo : Nat} {v : Value} {l s : List UInt8} (ho : OwnB w lo v l) (hlo : lo ≤ w.heap.size) (hb : l.length + s.length < 1099511627776) {ty : TypeId} :
  ∃ v' w', (Builtin.append_ #[N.za, N.za] ty #[v, .slice (some ⟨w.heap.size, 0, none⟩) s.length s.length]).run P (w.alloc (.cells (s.map zam).toArray N.zk)) = .ok v' w' ∧ Apd w lo v l s v' w' := by
 obtain ⟨w1, hw1⟩ : ∃ w1, w1 = w.alloc (.cells (s.map zam).toArray N.zk) := ⟨_, rfl⟩
 have m1 : Mod w w1 zw := by rw [hw1]; exact Mod.alloc _ _ _
 have s1 : w1.heap.size = w.heap.size + 1 := by rw [hw1]; exact zae _ _
 have r1 : w1.rangeAt w.heap.size 0 (s.map zam) := by rw [hw1]; exact zu w (s.map zam).toArray N.zk (0, 0)
 rw [← hw1]
 have ho1 : OwnB w1 lo v l := Own.stay m1 (fun _ _ _ h => h) ho
 obtain ⟨v', w', h1, h2, h3, h4⟩ := zee (ty := ty) B ho1 (src := .slice (some ⟨w.heap.size, 0, none⟩) s.length s.length) (s := s) (.inr ⟨w.heap.size, 0, s.length, rfl, Nat.le_refl _, r1⟩) (by omega) hb
 exact ⟨v', w', h1, Apd.after m1 ⟨h2, h3, h4⟩⟩
def ApF (P : Program) (f : FuncId) (x : Value) (s : List UInt8) : Prop := ∀ {w : World} {lo : Nat} {v : Value} {l : List UInt8}, OwnB w lo v l → lo ≤ w.heap.size → l.length + s.length < 1099511627776 → Call P f #[v, x] w (Apd w lo v l s)
def u8of (n : Int) : UInt8 := UInt8.ofNat (IntKind.u8.wrap n).toNat
theorem zqc (n : Int) : Value.int .u8 (IntKind.u8.wrap n) = zam (u8of n) := by
 unfold zam u8of
 rw [zmz, UInt8.toNat_ofNat']
 congr 1
 omega
theorem fixB2 (n : Int) : [u8of (n.fdiv (2 ^ min 8 IntKind.u16.bits)), u8of n] = fixB n 2 := by
 have e : n.fdiv 1 = n := Int.fdiv_one n
 simp only [fixB, u8of, Nat.mul_zero, Int.pow_zero, e]
 rfl
theorem zwi (B : Base P N) (h : FOk P A.zdg 2 (zep N A) [.var 2]) (n : Int) : ApF P A.zdg (.int .u16 n) (fixB n 2) := by
 intro w lo v l ho hlo hb
 refine h.call rfl fun loc N' hlo' => ?_
 unfold zep
 refine zf fun K hK => zn fun τ => ?_
 simp +decide only [bK, Nat.reduceAdd]
 refine hK _ _ (zd fun σ1 hσ => ?_)
 have a0 := hσ 0
 have a1 := hσ 1
 simp +decide only [bE, Nat.reduceBeqDiff, Nat.reduceAdd, Nat.zero_add, zbm, zcc] at a0 a1
 clear hσ hK K
 have e6 : ∀ ρ : Env, (#[(0, T 3), (1, T 5)] : Array (Nat × Operand)).map (fun p => (p.1, ev ρ p.2)) = #[(0, ρ 3), (1, ρ 5)] := fun ρ => by simp
 obtain ⟨v', w', h1, h2⟩ := zir (ty := N.za) (s := [u8of (n.fdiv (2 ^ min 8 IntKind.u16.bits)), u8of n]) B ho hlo hb
 refine zf fun K hK => zn fun τ => ?_
 simp +decide only [bK, bE, Nat.reduceBeqDiff, BEq.rfl, Nat.reduceAdd, Int.reduceToNat, Nat.zero_add, a0, a1, e6, zdm (show (0 : Int) ≤ 8 by decide), zax B.uint16 B.uint8 ⟨_, rfl⟩, zqc, run_bsL2 B]
 have h1 : (Builtin.append_ #[N.za, N.za] N.za #[v, .slice (some ⟨w.heap.size, 0, none⟩) 2 2]).run P (w.alloc (.cells ([u8of (n.fdiv (2 ^ min 8 IntKind.u16.bits)), u8of n].map zam).toArray N.zk)) = .ok v' w' := h1
 simp +decide only [bK, h1]
 refine hK _ _ (zd fun σ2 hσ => zbl ?_)
 have b2 := hσ 2
 simp +decide only [bE, BEq.rfl, Nat.reduceAdd] at b2
 exact ⟨.inr rfl, _, rfl, by rw [b2, ← fixB2]; exact h2⟩
end
def lensS : ByteArray := ⟨#[1, 1, 1, 1, 1, 1, 1, 1, 2, 2, 2, 2, 2, 2, 2, 3, 3, 3, 3, 3, 3, 3, 4, 4, 4, 4, 4, 4, 4, 5, 5, 5, 5, 5, 5, 5, 6, 6, 6, 6, 6, 6, 6, 7, 7, 7, 7, 7, 7, 7, 8, 8, 8, 8, 8, 8, 8, 9, 9, 9, 9, 9, 9, 9, 10, 0, 0, 0, 0, 0, 0, 0, 0, 0, 0, 0, 0, 0, 0, 0, 0, 0, 0, 0, 0, 0, 0, 0, 0, 0, 0, 0, 0, 0, 0, 0, 0, 0, 0, 0, 0, 0, 0, 0, 0, 0, 0, 0, 0, 0, 0, 0, 0, 0, 0, 0, 0, 0, 0, 0, 0, 0, 0, 0, 0, 0, 0, 0, 0, 0, 0, 0, 0, 0, 0, 0, 0, 0, 0, 0, 0, 0, 0, 0, 0, 0, 0, 0, 0, 0, 0, 0, 0, 0, 0, 0, 0, 0, 0, 0, 0, 0, 0, 0, 0, 0, 0, 0, 0, 0, 0, 0, 0, 0, 0, 0, 0, 0, 0, 0, 0, 0, 0, 0, 0, 0, 0, 0, 0, 0, 0, 0, 0, 0, 0, 0, 0, 0, 0, 0, 0, 0, 0, 0, 0, 0, 0, 0, 0, 0, 0, 0, 0, 0, 0, 0, 0, 0, 0, 0, 0, 0, 0, 0, 0, 0, 0, 0, 0, 0, 0, 0, 0, 0, 0, 0, 0, 0, 0, 0, 0, 0, 0, 0, 0, 0, 0, 0, 0, 0, 0, 0, 0, 0, 0, 0]⟩
def tabS : ByteArray := ⟨#[0, 1, 2, 2, 3, 3, 3, 3, 4, 4, 4, 4, 4, 4, 4, 4, 5, 5, 5, 5, 5, 5, 5, 5, 5, 5, 5, 5, 5, 5, 5, 5, 6, 6, 6, 6, 6, 6, 6, 6, 6, 6, 6, 6, 6, 6, 6, 6, 6, 6, 6, 6, 6, 6, 6, 6, 6, 6, 6, 6, 6, 6, 6, 6, 7, 7, 7, 7, 7, 7, 7, 7, 7, 7, 7, 7, 7, 7, 7, 7, 7, 7, 7, 7, 7, 7, 7, 7, 7, 7, 7, 7, 7, 7, 7, 7, 7, 7, 7, 7, 7, 7, 7, 7, 7, 7, 7, 7, 7, 7, 7, 7, 7, 7, 7, 7, 7, 7, 7, 7, 7, 7, 7, 7, 7, 7, 7, 7, 8, 8, 8, 8, 8, 8, 8, 8, 8, 8, 8, 8, 8, 8, 8, 8, 8, 8, 8, 8, 8, 8, 8, 8, 8, 8, 8, 8, 8, 8, 8, 8, 8, 8, 8, 8, 8, 8, 8, 8, 8, 8, 8, 8, 8, 8, 8, 8, 8, 8, 8, 8, 8, 8, 8, 8, 8, 8, 8, 8, 8, 8, 8, 8, 8, 8, 8, 8, 8, 8, 8, 8, 8, 8, 8, 8, 8, 8, 8, 8, 8, 8, 8, 8, 8, 8, 8, 8, 8, 8, 8, 8, 8, 8, 8, 8, 8, 8, 8, 8, 8, 8, 8, 8, 8, 8, 8, 8, 8, 8, 8, 8, 8, 8, 8, 8, 8, 8, 8, 8, 8, 8, 8, 8, 8, 8, 8, 8]⟩
theorem lens_size : lensS.data.size = 256 := by kernel_rfl
theorem tab_size : tabS.data.size = 256 := by kernel_rfl
def lensN (n : Nat) : Nat := (lensS.data.getD n 0).toNat
def tabN (n : Nat) : Nat := (tabS.data.getD n 0).toNat
def zkb (n : Nat) : Nat := if 65536 ≤ n then (if 256 ≤ n / 65536 then 24 + tabN (n / 65536 / 256) else 16 + tabN (n / 65536)) else if 256 ≤ n then 8 + tabN (n / 256) else tabN n
theorem lens_0 : ((List.range 256).all fun x => lensN (tabN x) == if x < 128 then 1 else 2) = true := by decide +kernel
theorem lens_8 : ((List.range 256).all fun x => x == 0 || lensN (8 + tabN x) == if x < 64 then 2 else 3) = true := by decide +kernel
theorem lens_16 : ((List.range 256).all fun x => x == 0 || lensN (16 + tabN x) == if x < 32 then 3 else 4) = true := by decide +kernel
theorem lens_24 : ((List.range 256).all fun x => x == 0 || lensN (24 + tabN x) == if x < 16 then 4 else 5) = true := by decide +kernel
theorem tab_8 : ((List.range 256).all fun x => Nat.ble (tabN x) 8) = true := by decide +kernel
def zjp (n : Nat) : Nat := if n < 128 then 1 else if n < 16384 then 2 else if n < 2097152 then 3 else if n < 268435456 then 4 else 5
theorem zwn {p : Nat → Bool} (h : ((List.range 256).all p) = true) {x : Nat} (hx : x < 256) : p x = true := List.all_eq_true.1 h x (List.mem_range.2 hx)
theorem lens_len {n : Nat} (hn : n < 4294967296) : lensN (zkb n) = zjp n := by
 unfold zkb zjp
 by_cases h1 : 65536 ≤ n
 ·rw [if_pos h1]
  by_cases h2 : 256 ≤ n / 65536
  ·rw [if_pos h2]
   have := zwn lens_24 (x := n / 65536 / 256) (by omega)
   have h0 : (n / 65536 / 256 == 0) = false := by simp; omega
   simp only [h0, Bool.false_or, beq_iff_eq] at this
   rw [this]
   have e : n / 65536 / 256 = n / 16777216 := by omega
   rw [e]
   rw [if_neg (show ¬ n < 128 by omega), if_neg (show ¬ n < 16384 by omega), if_neg (show ¬ n < 2097152 by omega)]
   by_cases h3 : n < 268435456
   ·rw [if_pos h3, if_pos (by omega)]
   ·rw [if_neg h3, if_neg (by omega)]
  ·rw [if_neg h2]
   have := zwn lens_16 (x := n / 65536) (by omega)
   have h0 : (n / 65536 == 0) = false := by simp; omega
   simp only [h0, Bool.false_or, beq_iff_eq] at this
   rw [this, if_neg (show ¬ n < 128 by omega), if_neg (show ¬ n < 16384 by omega)]
   by_cases h3 : n < 2097152
   ·rw [if_pos h3, if_pos (by omega)]
   ·rw [if_neg h3, if_neg (by omega), if_pos (by omega)]
 ·rw [if_neg h1]
  by_cases h2 : 256 ≤ n
  ·rw [if_pos h2]
   have := zwn lens_8 (x := n / 256) (by omega)
   have h0 : (n / 256 == 0) = false := by simp; omega
   simp only [h0, Bool.false_or, beq_iff_eq] at this
   rw [this, if_neg (show ¬ n < 128 by omega)]
   by_cases h3 : n < 16384
   ·rw [if_pos h3, if_pos (by omega)]
   ·rw [if_neg h3, if_neg (by omega), if_pos (by omega)]
  ·rw [if_neg h2]
   have := zwn lens_0 (x := n) (by omega)
   simp only [beq_iff_eq] at this
   rw [this]
   by_cases h3 : n < 128
   ·rw [if_pos h3, if_pos h3]
   ·rw [if_neg h3, if_neg h3, if_pos (by omega)]
theorem zuz {P : Program} {t : TypeId} {sz by' : Nat} {z : Value} (h : TI P t .string sz by' z) {w : World} {s : ByteArray} {k : IntKind} {i : Nat} (hi : i < s.data.size) : (Instr.index t (.string s) (.int k i)).run P w = .ok (.int .u8 (s.data.getD i 0).toNat) w := by
 have e : s[i]? = some (s.data.getD i 0) := by
  show s.data[i]? = _
  rw [Array.getElem?_eq_getElem hi, Array.getD_eq_getD_getElem?, Array.getElem?_eq_getElem hi]; rfl
 simp [Instr.index, Sem.run_bind, h.run_und, asIntOf, e]
section
variable (N : Nums) (A : zck)
def cL1 : C := .seq (.ops [⟨some 0, .move (V 0), 0, none, []⟩, ⟨some 102, .binOp .geq N.zc (T 0) (.const (.int .u32 65536)) N.zc, 0, none, []⟩])
 (.cond 2 (.seq (.ops [⟨some 0, .move (V 0), 0, none, []⟩, ⟨some 1, .binOp .shr N.zc (T 0) (.const (.int .u64 16)) N.zbr, 0, none, []⟩, ⟨some 100, .assign (T 1), 0, none, []⟩]) (.ops [⟨some 101, .assign (.const (.int .i64 16)), 0, none, []⟩])) .skip)
def cL2 : C := .seq (.ops [⟨some 0, .move (V 0), 0, none, []⟩, ⟨some 103, .binOp .geq N.zc (T 0) (.const (.int .u32 256)) N.zc, 0, none, []⟩])
 (.cond 3 (.seq (.ops [⟨some 0, .move (V 0), 0, none, []⟩, ⟨some 1, .binOp .shr N.zc (T 0) (.const (.int .u64 8)) N.zbr, 0, none, []⟩, ⟨some 100, .assign (T 1), 0, none, []⟩]) (.ops [⟨some 0, .move (V 1), 0, none, []⟩, ⟨some 1, .binOp .add N.ze (T 0) (.const (.int .i64 8)) N.ze, 0, none, []⟩, ⟨some 101, .assign (T 1), 0, none, []⟩])) .skip)
def cL3 (s : ByteArray) : C := .seq (.ops [⟨some 0, .move (V 1), 0, none, []⟩, ⟨some 1, .move (V 0), 0, none, []⟩, ⟨some 2, .convert N.zc N.zk (T 1), 0, none, []⟩, ⟨some 3, .index N.zal (.const (.string s)) (T 2), 0, none, []⟩, ⟨some 4, .convert N.zk N.ze (T 3), 0, none, []⟩,
 ⟨some 5, .binOp .add N.ze (T 0) (T 4) N.ze, 0, none, []⟩, ⟨some 101, .assign (T 5), 0, none, []⟩]) .ret
theorem c_Len32_eq : zfq N A = .seq (.ops [⟨some 101, .assign (.const (.int .i64 0)), 0, none, []⟩]) (.seq (cL1 N) (.seq (cL2 N) (cL3 N tabS))) := rfl
def cUl (s : ByteArray) : C := .seq (.ops [⟨some 101, .assign (.const (.int .i64 0)), 0, none, []⟩]) (.seq (.ops [⟨some 0, .move (V 0), 0, none, []⟩, ⟨some 1, .call ⟨.value (.func A.zdz), #[T 0], #[N.zc]⟩, N.ze, none, []⟩, ⟨some 2, .convert N.ze N.zk (T 1), 0, none, []⟩,
 ⟨some 3, .index N.zal (.const (.string s)) (T 2), 0, none, []⟩, ⟨some 4, .convert N.zk N.ze (T 3), 0, none, []⟩, ⟨some 101, .assign (T 4), 0, none, []⟩]) .ret)
theorem c_Ul_eq : zlr N A = cUl N A lensS := rfl
end
section
variable {P : Program} {N : Nums} {A : zck}
theorem zrz {m : Nat} (hm : m < 256) : tabN m ≤ 8 := by
 have := zwn tab_8 hm
 simpa using this
theorem W_L3 (B : Base P N) {s : ByteArray} {loc : List Nat} {N' : Nat} {Q : Value → World → Prop} {σ : Env} {w : World} {m r : Nat} (h0 : σ 0 = .int .u32 m) (h1 : σ 1 = .int .i64 r) (hm : m < s.data.size) {t : Nat} (hs : (s.data.getD m 0).toNat = t) (ht : t ≤ 8) (hm2 : m < 256) (hr : r ≤ 24) (hQ : Q (.int .i64 ((r + t : Nat) : Int)) w) :
  W P loc N' (cL3 N s) (retQ P [.var 1] Q) σ w := by
 unfold cL3
 have hw8 : IntKind.u8.wrap (m : Int) = m := by rw [zmz]; omega
 have hwi : IntKind.i64.wrap (t : Int) = (t : Int) := zge (by omega) (by omega)
 have hadd : IntKind.i64.wrap ((r : Int) + (t : Int)) = ((r + t : Nat) : Int) := by rw [zge (by omega) (by omega)]; omega
 have hix := fun {w : World} => zuz (P := P) (w := w) (k := .u8) B.string hm
 rw [hs] at hix
 refine zf fun K hK => zn fun τ => ?_
 simp +decide only [bK, bE, Nat.reduceBeqDiff, BEq.rfl, Nat.reduceAdd, Nat.zero_add, h0, h1, zax B.uint32 B.uint8 ⟨_, rfl⟩, hw8, zsc, hix, zax B.uint8 B.int ⟨_, rfl⟩, hwi, hadd]
 refine hK _ _ (zd fun σ1 hσ => zbl ?_)
 have a1 := hσ 1
 simp +decide only [bE, BEq.rfl, Nat.reduceAdd] at a1
 exact ⟨.inr rfl, _, rfl, by rw [a1]; exact hQ⟩
theorem call_Len32 (B : Base P N) (h : FOk P A.zdz 1 (zfq N A) [.var 1]) (w : World) {n : Nat} (hn : n < 4294967296) : Call P A.zdz #[.int .u32 n] w fun v w' => v = .int .i64 (zkb n : Nat) ∧ w = w' := by
 refine h.call rfl fun loc N' hlo => ?_
 rw [c_Len32_eq]
 refine zf fun K hK => zn fun τ => ?_
 simp +decide only [bK]
 refine hK _ _ (zd fun σ1 hσ => ?_)
 have a0 := hσ 0
 have a1 := hσ 1
 simp +decide only [bE, Nat.reduceBeqDiff, BEq.rfl, Nat.reduceAdd, Nat.zero_add, zkj] at a0 a1
 clear hσ hK K
 have s16 : ∀ m : Nat, ((m : Int)).fdiv (2 ^ min 16 IntKind.u32.bits) = ((m / 65536 : Nat) : Int) := fun m => by
  show ((m : Int)).fdiv 65536 = _
  rw [Int.fdiv_eq_ediv_of_nonneg _ (by decide)]; omega
 have s8 : ∀ m : Nat, ((m : Int)).fdiv (2 ^ min 8 IntKind.u32.bits) = ((m / 256 : Nat) : Int) := fun m => by
  show ((m : Int)).fdiv 256 = _
  rw [Int.fdiv_eq_ediv_of_nonneg _ (by decide)]; omega
 have half : ∀ {σ : Env} {m r : Nat}, σ 0 = .int .u32 m → σ 1 = .int .i64 r → m < 65536 → r ≤ 16 → ((if 256 ≤ m then r + 8 + tabN (m / 256) else r + tabN m) = zkb n) → W P loc N' (.seq (cL2 N) (cL3 N tabS)) (retQ P [.var 1] fun v w' => v = .int .i64 (zkb n : Nat) ∧ w = w') σ w := by
  intro σ m r h0 h1 hm hr he
  refine zf fun K hK => zf fun K1 hK1 => zn fun τ => ?_
  simp +decide only [bK, bE, BEq.rfl, Nat.zero_add, h0]
  refine hK1 _ _ (zd fun σ2 hσ => ?_)
  have b0 := hσ 0
  have b1 := hσ 1
  have b3 := hσ 3
  simp +decide only [bE, Nat.reduceBeqDiff, BEq.rfl, Nat.reduceAdd, Nat.zero_add, h0, h1] at b0 b1 b3
  clear hσ hK1 K1
  refine W_if hlo b3 ?_
  by_cases hc : 256 ≤ m
  ·rw [if_pos (by rw [decide_eq_true_eq]; omega)]
   rw [if_pos hc] at he
   refine zf fun K2 hK2 => zn fun τ => ?_
   simp +decide only [bK, bE, BEq.rfl, Int.reduceToNat, Nat.zero_add, b0, zdm (show (0 : Int) ≤ 8 by decide), s8]
   refine hK2 _ _ (zd fun σ3 hσ => ?_)
   have d0 := hσ 0
   have d1 := hσ 1
   simp +decide only [bE, Nat.reduceBeqDiff, BEq.rfl, Nat.reduceAdd, Nat.zero_add, b1] at d0 d1
   clear hσ hK2 K2
   have hadd : IntKind.i64.wrap ((r : Int) + 8) = ((r + 8 : Nat) : Int) := by rw [zge (by omega) (by omega)]; omega
   refine zn fun τ => ?_
   simp +decide only [bK, bE, BEq.rfl, Nat.reduceAdd, d1, hadd]
   refine hK _ _ (zd fun σ4 hσ => ?_)
   have e0 := hσ 0
   have e1 := hσ 1
   simp +decide only [bE, Nat.reduceBeqDiff, BEq.rfl, Nat.reduceAdd, Nat.zero_add, d0] at e0 e1
   have hx : m / 256 < 256 := by omega
   exact W_L3 B e0 e1 (by rw [tab_size]; exact hx) rfl (zrz hx) hx (by omega) ⟨by rw [← he]; rfl, rfl⟩
  ·rw [if_neg (by rw [decide_eq_true_eq]; omega)]
   rw [if_neg hc] at he
   refine zbv (hK _ _ ?_)
   have hx : m < 256 := by omega
   exact W_L3 B b0 b1 (by rw [tab_size]; exact hx) rfl (zrz hx) hx (by omega) ⟨by rw [← he]; rfl, rfl⟩
 refine zf fun K hK => zf fun K1 hK1 => zn fun τ => ?_
 simp +decide only [bK, bE, BEq.rfl, Nat.zero_add, a0]
 refine hK1 _ _ (zd fun σ2 hσ => ?_)
 have b0 := hσ 0
 have b1 := hσ 1
 have b2 := hσ 2
 simp +decide only [bE, Nat.reduceBeqDiff, BEq.rfl, Nat.reduceAdd, Nat.zero_add, a0, a1] at b0 b1 b2
 clear hσ hK1 K1
 refine W_if hlo b2 ?_
 by_cases hc : 65536 ≤ n
 ·rw [if_pos (by rw [decide_eq_true_eq]; omega)]
  refine zf fun K2 hK2 => zn fun τ => ?_
  simp +decide only [bK, bE, BEq.rfl, Int.reduceToNat, Nat.zero_add, b0, zdm (show (0 : Int) ≤ 16 by decide), s16]
  refine hK2 _ _ (zd fun σ3 hσ => ?_)
  have d0 := hσ 0
  simp +decide only [bE, BEq.rfl, Nat.zero_add] at d0
  clear hσ hK2 K2
  refine zn fun τ => ?_
  simp +decide only [bK]
  refine hK _ _ (zd fun σ4 hσ => ?_)
  have e0 := hσ 0
  have e1 := hσ 1
  simp +decide only [bE, Nat.reduceBeqDiff, BEq.rfl, Nat.reduceAdd, Nat.zero_add, d0] at e0 e1
  refine half (r := 16) e0 e1 (by omega) (by omega) ?_
  unfold zkb
  rw [if_pos hc]
 ·rw [if_neg (by rw [decide_eq_true_eq]; omega)]
  refine zbv (hK _ _ ?_)
  refine half (r := 0) b0 b1 (by omega) (by omega) ?_
  unfold zkb
  rw [if_neg hc]
  simp
theorem len32_le {n : Nat} (hn : n < 4294967296) : zkb n ≤ 32 := by
 unfold zkb
 split
 ·split
  ·have := zrz (m := n / 65536 / 256) (by omega); omega
  ·have := zrz (m := n / 65536) (by omega); omega
 ·split
  ·have := zrz (m := n / 256) (by omega); omega
  ·have := zrz (m := n) (by omega); omega
theorem call_Ul (B : Base P N) (h : FOk P A.zdz 1 (zfq N A) [.var 1]) (h2 : FOk P A.zhr 1 (zlr N A) [.var 1]) (w : World) {n : Nat} (hn : n < 4294967296) : Call P A.zhr #[.int .u32 n] w fun v w' => v = .int .i64 (zjp n : Nat) ∧ w = w' := by
 refine h2.call rfl fun loc N' hlo => ?_
 rw [c_Ul_eq]
 unfold cUl
 refine zf fun K hK => zn fun τ => ?_
 simp +decide only [bK]
 refine hK _ _ (zd fun σ1 hσ => ?_)
 have a0 := hσ 0
 simp +decide only [bE, Nat.reduceBeqDiff, Nat.zero_add, zkj] at a0
 clear hσ hK K
 have hl := len32_le hn
 have hw8 : IntKind.u8.wrap ((zkb n : Nat) : Int) = (zkb n : Nat) := by rw [zmz]; omega
 have hll := lens_len hn
 have hu : zjp n ≤ 5 := by unfold zjp; split <;> (try split) <;> (try split) <;> (try split) <;> omega
 have hwi : IntKind.i64.wrap (zjp n : Int) = (zjp n : Int) := zge (by omega) (by omega)
 have hix := fun {w : World} => zuz (P := P) (w := w) (k := .u8) B.string (show zkb n < lensS.data.size by rw [lens_size]; omega)
 have hll : (lensS.data.getD (zkb n) 0).toNat = zjp n := hll
 rw [hll] at hix
 generalize lensS = s at hix ⊢
 refine zf fun K hK => zn fun τ => ?_
 simp +decide only [bK, bE, BEq.rfl, Nat.zero_add, a0]
 rw [zbb h.has]
 simp +decide only [bK, bE, BEq.rfl]
 refine (call_Len32 B h w hn).mono ?_
 rintro _ w2 ⟨rfl, rfl⟩
 simp +decide only [bK, bE, BEq.rfl, zax B.int B.uint8 ⟨_, rfl⟩, hw8, zsc, hix, zax B.uint8 B.int ⟨_, rfl⟩, hwi]
 refine hK _ _ (zd fun σ2 hσ => zbl ?_)
 have b1 := hσ 1
 simp +decide only [bE, BEq.rfl, Nat.reduceAdd] at b1
 exact ⟨.inr rfl, _, rfl, by rw [b1], rfl⟩
end
section
variable (N : Nums) (A : zck)
def cUv1 : C := .seq (.ops [⟨some 0, .move (V 0), 0, none, []⟩, ⟨some 1, .move (V 1), 0, none, []⟩, ⟨some 2, .convert N.zc N.zk (T 1), 0, none, []⟩, ⟨some 3, .buildSlice N.za 1 #[(0, T 2)], 0, none, []⟩, ⟨some 4, .call ⟨.builtin .append, #[T 0, T 3], #[N.za, N.za]⟩, N.za, none, []⟩, ⟨some 102, .assign (T 4), 0, none, []⟩]) .ret
def cUv2 : C := .seq (.ops [⟨some 0, .move (V 0), 0, none, []⟩, ⟨some 1, .move (V 1), 0, none, []⟩, ⟨some 2, .binOp .and N.zc (T 1) (.const (.int .u32 127)) N.zc, 0, none, []⟩, ⟨some 3, .binOp .or N.zc (T 2) (.const (.int .u32 128)) N.zc, 0, none, []⟩, ⟨some 4, .convert N.zc N.zk (T 3), 0, none, []⟩, ⟨some 5, .move (V 1), 0, none, []⟩, ⟨some 6, .binOp .shr N.zc (T 5) (.const (.int .u64 7)) N.zbr, 0, none, []⟩, ⟨some 7, .convert N.zc N.zk (T 6), 0, none, []⟩, ⟨some 8, .buildSlice N.za 2 #[(0, T 4), (1, T 7)], 0, none, []⟩, ⟨some 9, .call ⟨.builtin .append, #[T 0, T 8], #[N.za, N.za]⟩, N.za, none, []⟩, ⟨some 102, .assign (T 9), 0, none, []⟩]) .ret
def cUv3 : C := .seq (.ops [⟨some 0, .move (V 0), 0, none, []⟩, ⟨some 1, .move (V 1), 0, none, []⟩, ⟨some 2, .binOp .and N.zc (T 1) (.const (.int .u32 127)) N.zc, 0, none, []⟩, ⟨some 3, .binOp .or N.zc (T 2) (.const (.int .u32 128)) N.zc, 0, none, []⟩, ⟨some 4, .convert N.zc N.zk (T 3), 0, none, []⟩, ⟨some 5, .move (V 1), 0, none, []⟩, ⟨some 6, .binOp .shr N.zc (T 5) (.const (.int .u64 7)) N.zbr, 0, none, []⟩, ⟨some 7, .binOp .and N.zc (T 6) (.const (.int .u32 127)) N.zc, 0, none, []⟩, ⟨some 8, .binOp .or N.zc (T 7) (.const (.int .u32 128)) N.zc, 0, none, []⟩, ⟨some 9, .convert N.zc N.zk (T 8), 0, none, []⟩, ⟨some 10, .move (V 1), 0, none, []⟩, ⟨some 11, .binOp .shr N.zc (T 10) (.const (.int .u64 14)) N.zbr, 0, none, []⟩, ⟨some 12, .convert N.zc N.zk (T 11), 0, none, []⟩, ⟨some 13, .buildSlice N.za 3 #[(0, T 4), (1, T 9), (2, T 12)], 0, none, []⟩, ⟨some 14, .call ⟨.builtin .append, #[T 0, T 13], #[N.za, N.za]⟩, N.za, none, []⟩, ⟨some 102, .assign (T 14), 0, none, []⟩]) .ret
def cUv4 : C := .seq (.ops [⟨some 0, .move (V 0), 0, none, []⟩, ⟨some 1, .move (V 1), 0, none, []⟩, ⟨some 2, .binOp .and N.zc (T 1) (.const (.int .u32 127)) N.zc, 0, none, []⟩, ⟨some 3, .binOp .or N.zc (T 2) (.const (.int .u32 128)) N.zc, 0, none, []⟩, ⟨some 4, .convert N.zc N.zk (T 3), 0, none, []⟩, ⟨some 5, .move (V 1), 0, none, []⟩, ⟨some 6, .binOp .shr N.zc (T 5) (.const (.int .u64 7)) N.zbr, 0, none, []⟩, ⟨some 7, .binOp .and N.zc (T 6) (.const (.int .u32 127)) N.zc, 0, none, []⟩, ⟨some 8, .binOp .or N.zc (T 7) (.const (.int .u32 128)) N.zc, 0, none, []⟩, ⟨some 9, .convert N.zc N.zk (T 8), 0, none, []⟩, ⟨some 10, .move (V 1), 0, none, []⟩, ⟨some 11, .binOp .shr N.zc (T 10) (.const (.int .u64 14)) N.zbr, 0, none, []⟩, ⟨some 12, .binOp .and N.zc (T 11) (.const (.int .u32 127)) N.zc, 0, none, []⟩, ⟨some 13, .binOp .or N.zc (T 12) (.const (.int .u32 128)) N.zc, 0, none, []⟩, ⟨some 14, .convert N.zc N.zk (T 13), 0, none, []⟩, ⟨some 15, .move (V 1), 0, none, []⟩, ⟨some 16, .binOp .shr N.zc (T 15) (.const (.int .u64 21)) N.zbr, 0, none, []⟩, ⟨some 17, .convert N.zc N.zk (T 16), 0, none, []⟩, ⟨some 18, .buildSlice N.za 4 #[(0, T 4), (1, T 9), (2, T 14), (3, T 17)], 0, none, []⟩, ⟨some 19, .call ⟨.builtin .append, #[T 0, T 18], #[N.za, N.za]⟩, N.za, none, []⟩, ⟨some 102, .assign (T 19), 0, none, []⟩]) .ret
def cUv5 : C := .seq (.ops [⟨some 0, .move (V 0), 0, none, []⟩, ⟨some 1, .move (V 1), 0, none, []⟩, ⟨some 2, .binOp .and N.zc (T 1) (.const (.int .u32 127)) N.zc, 0, none, []⟩, ⟨some 3, .binOp .or N.zc (T 2) (.const (.int .u32 128)) N.zc, 0, none, []⟩, ⟨some 4, .convert N.zc N.zk (T 3), 0, none, []⟩, ⟨some 5, .move (V 1), 0, none, []⟩, ⟨some 6, .binOp .shr N.zc (T 5) (.const (.int .u64 7)) N.zbr, 0, none, []⟩, ⟨some 7, .binOp .and N.zc (T 6) (.const (.int .u32 127)) N.zc, 0, none, []⟩, ⟨some 8, .binOp .or N.zc (T 7) (.const (.int .u32 128)) N.zc, 0, none, []⟩, ⟨some 9, .convert N.zc N.zk (T 8), 0, none, []⟩, ⟨some 10, .move (V 1), 0, none, []⟩, ⟨some 11, .binOp .shr N.zc (T 10) (.const (.int .u64 14)) N.zbr, 0, none, []⟩, ⟨some 12, .binOp .and N.zc (T 11) (.const (.int .u32 127)) N.zc, 0, none, []⟩, ⟨some 13, .binOp .or N.zc (T 12) (.const (.int .u32 128)) N.zc, 0, none, []⟩, ⟨some 14, .convert N.zc N.zk (T 13), 0, none, []⟩, ⟨some 15, .move (V 1), 0, none, []⟩, ⟨some 16, .binOp .shr N.zc (T 15) (.const (.int .u64 21)) N.zbr, 0, none, []⟩, ⟨some 17, .binOp .and N.zc (T 16) (.const (.int .u32 127)) N.zc, 0, none, []⟩, ⟨some 18, .binOp .or N.zc (T 17) (.const (.int .u32 128)) N.zc, 0, none, []⟩, ⟨some 19, .convert N.zc N.zk (T 18), 0, none, []⟩, ⟨some 20, .move (V 1), 0, none, []⟩, ⟨some 21, .binOp .shr N.zc (T 20) (.const (.int .u64 28)) N.zbr, 0, none, []⟩, ⟨some 22, .convert N.zc N.zk (T 21), 0, none, []⟩, ⟨some 23, .buildSlice N.za 5 #[(0, T 4), (1, T 9), (2, T 14), (3, T 19), (4, T 22)], 0, none, []⟩, ⟨some 24, .call ⟨.builtin .append, #[T 0, T 23], #[N.za, N.za]⟩, N.za, none, []⟩, ⟨some 102, .assign (T 24), 0, none, []⟩]) .ret
theorem c_Uv_eq : zls N A = .seq (.ops [⟨some 102, .assign (.const (.slice none 0 0)), 0, none, []⟩]) (.seq (.seq (.ops [⟨some 0, .move (V 1), 0, none, []⟩, ⟨some 103, .call ⟨.value (.func A.zhr), #[T 0], #[N.zc]⟩, N.ze, none, []⟩]) (.block 0 (.seq (.ops [⟨some 0, .binOp .eql N.ze (V 3) (.const (.int .i64 5)) N.ze, 0, none, []⟩, ⟨some 104, .assign (T 0), 0, none, []⟩]) (.cond 4 (cUv5 N) (.seq (.ops [⟨some 0, .binOp .eql N.ze (V 3) (.const (.int .i64 4)) N.ze, 0, none, []⟩, ⟨some 105, .assign (T 0), 0, none, []⟩]) (.cond 5 (cUv4 N) (.seq (.ops [⟨some 0, .binOp .eql N.ze (V 3) (.const (.int .i64 3)) N.ze, 0, none, []⟩, ⟨some 106, .assign (T 0), 0, none, []⟩]) (.cond 6 (cUv3 N) (.seq (.ops [⟨some 0, .binOp .eql N.ze (V 3) (.const (.int .i64 2)) N.ze, 0, none, []⟩, ⟨some 107, .assign (T 0), 0, none, []⟩]) (.cond 7 (cUv2 N) (.seq (.ops [⟨some 0, .binOp .eql N.ze (V 3) (.const (.int .i64 1)) N.ze, 0, none, []⟩, ⟨some 108, .assign (T 0), 0, none, []⟩]) (.cond 8 (cUv1 N) (.skip))))))))))))) (.seq (.ops [⟨some 0, .move (V 0), 0, none, []⟩, ⟨some 102, .assign (T 0), 0, none, []⟩]) .ret)) := rfl
end
section
variable {P : Program} {N : Nums} {A : zck}
theorem zhl (n : Nat) (h : n < 2 ^ 32) : band .u32 n 127 = (n % 128 : Nat) := by
 show IntKind.u32.wrap (((BitVec.ofInt 32 (n : Int) &&& BitVec.ofInt 32 127).toNat : Nat) : Int) = _
 have e1 : BitVec.ofInt 32 (n : Int) = BitVec.ofNat 32 n := by simp
 have e2 : BitVec.ofInt 32 127 = BitVec.ofNat 32 127 := by decide
 rw [e1, e2]
 have e3 : (BitVec.ofNat 32 n &&& BitVec.ofNat 32 127).toNat = n % 128 := by
  rw [BitVec.toNat_and, BitVec.toNat_ofNat, BitVec.toNat_ofNat, Nat.mod_eq_of_lt h]
  show n &&& 127 = _
  exact Nat.and_two_pow_sub_one_eq_mod n 7
 rw [e3]
 exact wrap_u32 _ (by omega)
theorem zjv : ∀ n : Nat, n < 128 → bor .u32 n 128 = (n + 128 : Nat) := by
 have h : ∀ n : Fin 128, bor .u32 (n.val : Nat) 128 = (n.val + 128 : Nat) := by decide +kernel
 exact fun n hn => h ⟨n, hn⟩
theorem zpu (B : Base P N) {w : World} {a : UInt8} : (Instr.buildSlice N.za 1 #[(0, zam a)]).run P w = .ok (.slice (some ⟨w.heap.size, 0, none⟩) 1 1) (w.alloc (.cells ([a].map zam).toArray N.zk)) := ziq (v := zam a) (cs := [zam a]) B.Lu8 B.uint8 rfl rfl (by decide) (by decide)
theorem zim (n : Nat) (h : n < 256) : IntKind.u8.wrap (n : Int) = n := by rw [zmz]; omega
theorem W_uv1 (B : Base P N) {loc : List Nat} {N' : Nat} {Q : Exit → Env → World → Prop} {σ : Env} {w : World} {lo n : Nat} {v : Value} {l : List UInt8} (h0 : σ 0 = v) (h1 : σ 1 = .int .u32 n) (hn : n < 128) (ho : OwnB w lo v l) (hlo : lo ≤ w.heap.size) (hb : l.length + 1 < 1099511627776)
  (hQ : ∀ σ' w', Apd w lo v l [UInt8.ofNat n] (σ' 2) w' → Q .ret σ' w') : W P loc N' (cUv1 N) Q σ w := by
 unfold cUv1
 have e6 : ∀ ρ : Env, (#[(0, T 2)] : Array (Nat × Operand)).map (fun p => (p.1, ev ρ p.2)) = #[(0, ρ 2)] := fun ρ => by simp
 obtain ⟨v', w', h4, h5⟩ := zir (ty := N.za) (s := [UInt8.ofNat n]) B ho hlo hb
 have h4 : (Builtin.append_ #[N.za, N.za] N.za #[v, .slice (some ⟨w.heap.size, 0, none⟩) 1 1]).run P (w.alloc (.cells ([UInt8.ofNat n].map zam).toArray N.zk)) = .ok v' w' := h4
 have c0 : IntKind.u8.wrap ((n : Nat) : Int) = ((n : Nat) : Int) := zim _ (by omega)
 have d0 : Value.int .u8 ((n : Nat) : Int) = zam (UInt8.ofNat n) := zgx _ (by omega)
 refine zf fun K hK => zn fun τ => ?_
 simp +decide only [bK, bE, Nat.reduceBeqDiff, BEq.rfl, Nat.reduceAdd, Nat.zero_add, h0, h1, e6, zax B.uint32 B.uint8 ⟨_, rfl⟩, c0, d0, zpu B, h4]
 refine hK _ _ (zd fun σ2 hσ => zbl ?_)
 have b2 := hσ 2
 simp +decide only [bE, BEq.rfl, Nat.reduceAdd] at b2
 exact hQ _ _ (by rw [b2]; exact h5)
theorem W_uv2 (B : Base P N) {loc : List Nat} {N' : Nat} {Q : Exit → Env → World → Prop} {σ : Env} {w : World} {lo n : Nat} {v : Value} {l : List UInt8} (h0 : σ 0 = v) (h1 : σ 1 = .int .u32 n) (hn : n < 16384) (ho : OwnB w lo v l) (hlo : lo ≤ w.heap.size) (hb : l.length + 2 < 1099511627776)
  (hQ : ∀ σ' w', Apd w lo v l [UInt8.ofNat (n % 128 + 128), UInt8.ofNat (n / 128)] (σ' 2) w' → Q .ret σ' w') : W P loc N' (cUv2 N) Q σ w := by
 unfold cUv2
 have e6 : ∀ ρ : Env, (#[(0, T 4), (1, T 7)] : Array (Nat × Operand)).map (fun p => (p.1, ev ρ p.2)) = #[(0, ρ 4), (1, ρ 7)] := fun ρ => by simp
 obtain ⟨v', w', h4, h5⟩ := zir (ty := N.za) (s := [UInt8.ofNat (n % 128 + 128), UInt8.ofNat (n / 128)]) B ho hlo hb
 have h4 : (Builtin.append_ #[N.za, N.za] N.za #[v, .slice (some ⟨w.heap.size, 0, none⟩) 2 2]).run P (w.alloc (.cells ([UInt8.ofNat (n % 128 + 128), UInt8.ofNat (n / 128)].map zam).toArray N.zk)) = .ok v' w' := h4
 have b0 := zhl n (by omega)
 have o0 := zjv (n % 128) (by omega)
 have c0 : IntKind.u8.wrap ((n % 128 + 128 : Nat) : Int) = ((n % 128 + 128 : Nat) : Int) := zim _ (by omega)
 have d0 : Value.int .u8 ((n % 128 + 128 : Nat) : Int) = zam (UInt8.ofNat (n % 128 + 128)) := zgx _ (by omega)
 have s1 : ((n : Int)).fdiv (2 ^ min 7 IntKind.u32.bits) = ((n / 128 : Nat) : Int) := by
  show ((n : Int)).fdiv 128 = _
  rw [Int.fdiv_eq_ediv_of_nonneg _ (by decide)]; omega
 have c1 : IntKind.u8.wrap (((n / 128) : Nat) : Int) = (((n / 128) : Nat) : Int) := zim _ (by omega)
 have d1 : Value.int .u8 (((n / 128) : Nat) : Int) = zam (UInt8.ofNat (n / 128)) := zgx _ (by omega)
 refine zf fun K hK => zn fun τ => ?_
 simp +decide only [bK, bE, Nat.reduceBeqDiff, BEq.rfl, Nat.reduceAdd, Int.reduceToNat, Nat.zero_add, h0, h1, e6, zax B.uint32 B.uint8 ⟨_, rfl⟩, b0, o0, c0, d0, zdm (show (0 : Int) ≤ 7 by decide), s1, c1, d1, run_bsL2 B, h4]
 refine hK _ _ (zd fun σ2 hσ => zbl ?_)
 have b2 := hσ 2
 simp +decide only [bE, BEq.rfl, Nat.reduceAdd] at b2
 exact hQ _ _ (by rw [b2]; exact h5)
theorem W_uv3 (B : Base P N) {loc : List Nat} {N' : Nat} {Q : Exit → Env → World → Prop} {σ : Env} {w : World} {lo n : Nat} {v : Value} {l : List UInt8} (h0 : σ 0 = v) (h1 : σ 1 = .int .u32 n) (hn : n < 2097152) (ho : OwnB w lo v l) (hlo : lo ≤ w.heap.size) (hb : l.length + 3 < 1099511627776)
  (hQ : ∀ σ' w', Apd w lo v l [UInt8.ofNat (n % 128 + 128), UInt8.ofNat ((n / 128) % 128 + 128), UInt8.ofNat (n / 16384)] (σ' 2) w' → Q .ret σ' w') : W P loc N' (cUv3 N) Q σ w := by
 unfold cUv3
 have e6 : ∀ ρ : Env, (#[(0, T 4), (1, T 9), (2, T 12)] : Array (Nat × Operand)).map (fun p => (p.1, ev ρ p.2)) = #[(0, ρ 4), (1, ρ 9), (2, ρ 12)] := fun ρ => by simp
 obtain ⟨v', w', h4, h5⟩ := zir (ty := N.za) (s := [UInt8.ofNat (n % 128 + 128), UInt8.ofNat ((n / 128) % 128 + 128), UInt8.ofNat (n / 16384)]) B ho hlo hb
 have h4 : (Builtin.append_ #[N.za, N.za] N.za #[v, .slice (some ⟨w.heap.size, 0, none⟩) 3 3]).run P (w.alloc (.cells ([UInt8.ofNat (n % 128 + 128), UInt8.ofNat ((n / 128) % 128 + 128), UInt8.ofNat (n / 16384)].map zam).toArray N.zk)) = .ok v' w' := h4
 have b0 := zhl n (by omega)
 have o0 := zjv (n % 128) (by omega)
 have c0 : IntKind.u8.wrap ((n % 128 + 128 : Nat) : Int) = ((n % 128 + 128 : Nat) : Int) := zim _ (by omega)
 have d0 : Value.int .u8 ((n % 128 + 128 : Nat) : Int) = zam (UInt8.ofNat (n % 128 + 128)) := zgx _ (by omega)
 have s1 : ((n : Int)).fdiv (2 ^ min 7 IntKind.u32.bits) = ((n / 128 : Nat) : Int) := by
  show ((n : Int)).fdiv 128 = _
  rw [Int.fdiv_eq_ediv_of_nonneg _ (by decide)]; omega
 have b1 := zhl (n / 128) (by omega)
 have o1 := zjv ((n / 128) % 128) (by omega)
 have c1 : IntKind.u8.wrap (((n / 128) % 128 + 128 : Nat) : Int) = (((n / 128) % 128 + 128 : Nat) : Int) := zim _ (by omega)
 have d1 : Value.int .u8 (((n / 128) % 128 + 128 : Nat) : Int) = zam (UInt8.ofNat ((n / 128) % 128 + 128)) := zgx _ (by omega)
 have s2 : ((n : Int)).fdiv (2 ^ min 14 IntKind.u32.bits) = ((n / 16384 : Nat) : Int) := by
  show ((n : Int)).fdiv 16384 = _
  rw [Int.fdiv_eq_ediv_of_nonneg _ (by decide)]; omega
 have c2 : IntKind.u8.wrap (((n / 16384) : Nat) : Int) = (((n / 16384) : Nat) : Int) := zim _ (by omega)
 have d2 : Value.int .u8 (((n / 16384) : Nat) : Int) = zam (UInt8.ofNat (n / 16384)) := zgx _ (by omega)
 refine zf fun K hK => zn fun τ => ?_
 simp +decide only [bK, bE, Nat.reduceBeqDiff, BEq.rfl, Nat.reduceAdd, Int.reduceToNat, Nat.zero_add, h0, h1, e6, zax B.uint32 B.uint8 ⟨_, rfl⟩, b0, o0, c0, d0, zdm (show (0 : Int) ≤ 7 by decide), s1, b1, o1, c1, d1, zdm (show (0 : Int) ≤ 14 by decide), s2, c2, d2, run_bsL3 B, h4]
 refine hK _ _ (zd fun σ2 hσ => zbl ?_)
 have b2 := hσ 2
 simp +decide only [bE, BEq.rfl, Nat.reduceAdd] at b2
 exact hQ _ _ (by rw [b2]; exact h5)
theorem W_uv4 (B : Base P N) {loc : List Nat} {N' : Nat} {Q : Exit → Env → World → Prop} {σ : Env} {w : World} {lo n : Nat} {v : Value} {l : List UInt8} (h0 : σ 0 = v) (h1 : σ 1 = .int .u32 n) (hn : n < 268435456) (ho : OwnB w lo v l) (hlo : lo ≤ w.heap.size) (hb : l.length + 4 < 1099511627776)
  (hQ : ∀ σ' w', Apd w lo v l [UInt8.ofNat (n % 128 + 128), UInt8.ofNat ((n / 128) % 128 + 128), UInt8.ofNat ((n / 16384) % 128 + 128), UInt8.ofNat (n / 2097152)] (σ' 2) w' → Q .ret σ' w') : W P loc N' (cUv4 N) Q σ w := by
 unfold cUv4
 have e6 : ∀ ρ : Env, (#[(0, T 4), (1, T 9), (2, T 14), (3, T 17)] : Array (Nat × Operand)).map (fun p => (p.1, ev ρ p.2)) = #[(0, ρ 4), (1, ρ 9), (2, ρ 14), (3, ρ 17)] := fun ρ => by simp
 obtain ⟨v', w', h4, h5⟩ := zir (ty := N.za) (s := [UInt8.ofNat (n % 128 + 128), UInt8.ofNat ((n / 128) % 128 + 128), UInt8.ofNat ((n / 16384) % 128 + 128), UInt8.ofNat (n / 2097152)]) B ho hlo hb
 have h4 : (Builtin.append_ #[N.za, N.za] N.za #[v, .slice (some ⟨w.heap.size, 0, none⟩) 4 4]).run P (w.alloc (.cells ([UInt8.ofNat (n % 128 + 128), UInt8.ofNat ((n / 128) % 128 + 128), UInt8.ofNat ((n / 16384) % 128 + 128), UInt8.ofNat (n / 2097152)].map zam).toArray N.zk)) = .ok v' w' := h4
 have b0 := zhl n (by omega)
 have o0 := zjv (n % 128) (by omega)
 have c0 : IntKind.u8.wrap ((n % 128 + 128 : Nat) : Int) = ((n % 128 + 128 : Nat) : Int) := zim _ (by omega)
 have d0 : Value.int .u8 ((n % 128 + 128 : Nat) : Int) = zam (UInt8.ofNat (n % 128 + 128)) := zgx _ (by omega)
 have s1 : ((n : Int)).fdiv (2 ^ min 7 IntKind.u32.bits) = ((n / 128 : Nat) : Int) := by
  show ((n : Int)).fdiv 128 = _
  rw [Int.fdiv_eq_ediv_of_nonneg _ (by decide)]; omega
 have b1 := zhl (n / 128) (by omega)
 have o1 := zjv ((n / 128) % 128) (by omega)
 have c1 : IntKind.u8.wrap (((n / 128) % 128 + 128 : Nat) : Int) = (((n / 128) % 128 + 128 : Nat) : Int) := zim _ (by omega)
 have d1 : Value.int .u8 (((n / 128) % 128 + 128 : Nat) : Int) = zam (UInt8.ofNat ((n / 128) % 128 + 128)) := zgx _ (by omega)
 have s2 : ((n : Int)).fdiv (2 ^ min 14 IntKind.u32.bits) = ((n / 16384 : Nat) : Int) := by
  show ((n : Int)).fdiv 16384 = _
  rw [Int.fdiv_eq_ediv_of_nonneg _ (by decide)]; omega
 have b2 := zhl (n / 16384) (by omega)
 have o2 := zjv ((n / 16384) % 128) (by omega)
 have c2 : IntKind.u8.wrap (((n / 16384) % 128 + 128 : Nat) : Int) = (((n / 16384) % 128 + 128 : Nat) : Int) := zim _ (by omega)
 have d2 : Value.int .u8 (((n / 16384) % 128 + 128 : Nat) : Int) = zam (UInt8.ofNat ((n / 16384) % 128 + 128)) := zgx _ (by omega)
 have s3 : ((n : Int)).fdiv (2 ^ min 21 IntKind.u32.bits) = ((n / 2097152 : Nat) : Int) := by
  show ((n : Int)).fdiv 2097152 = _
  rw [Int.fdiv_eq_ediv_of_nonneg _ (by decide)]; omega
 have c3 : IntKind.u8.wrap (((n / 2097152) : Nat) : Int) = (((n / 2097152) : Nat) : Int) := zim _ (by omega)
 have d3 : Value.int .u8 (((n / 2097152) : Nat) : Int) = zam (UInt8.ofNat (n / 2097152)) := zgx _ (by omega)
 refine zf fun K hK => zn fun τ => ?_
 simp +decide only [bK, bE, Nat.reduceBeqDiff, BEq.rfl, Nat.reduceAdd, Int.reduceToNat, Nat.zero_add, h0, h1, e6, zax B.uint32 B.uint8 ⟨_, rfl⟩, b0, o0, c0, d0, zdm (show (0 : Int) ≤ 7 by decide), s1, b1, o1, c1, d1, zdm (show (0 : Int) ≤ 14 by decide), s2, b2, o2, c2, d2, zdm (show (0 : Int) ≤ 21 by decide), s3, c3, d3, run_bsL4 B, h4]
 refine hK _ _ (zd fun σ2 hσ => zbl ?_)
 have b2 := hσ 2
 simp +decide only [bE, BEq.rfl, Nat.reduceAdd] at b2
 exact hQ _ _ (by rw [b2]; exact h5)
theorem W_uv5 (B : Base P N) {loc : List Nat} {N' : Nat} {Q : Exit → Env → World → Prop} {σ : Env} {w : World} {lo n : Nat} {v : Value} {l : List UInt8} (h0 : σ 0 = v) (h1 : σ 1 = .int .u32 n) (hn : n < 4294967296) (ho : OwnB w lo v l) (hlo : lo ≤ w.heap.size) (hb : l.length + 5 < 1099511627776)
  (hQ : ∀ σ' w', Apd w lo v l [UInt8.ofNat (n % 128 + 128), UInt8.ofNat ((n / 128) % 128 + 128), UInt8.ofNat ((n / 16384) % 128 + 128), UInt8.ofNat ((n / 2097152) % 128 + 128), UInt8.ofNat (n / 268435456)] (σ' 2) w' → Q .ret σ' w') : W P loc N' (cUv5 N) Q σ w := by
 unfold cUv5
 have e6 : ∀ ρ : Env, (#[(0, T 4), (1, T 9), (2, T 14), (3, T 19), (4, T 22)] : Array (Nat × Operand)).map (fun p => (p.1, ev ρ p.2)) = #[(0, ρ 4), (1, ρ 9), (2, ρ 14), (3, ρ 19), (4, ρ 22)] := fun ρ => by simp
 obtain ⟨v', w', h4, h5⟩ := zir (ty := N.za) (s := [UInt8.ofNat (n % 128 + 128), UInt8.ofNat ((n / 128) % 128 + 128), UInt8.ofNat ((n / 16384) % 128 + 128), UInt8.ofNat ((n / 2097152) % 128 + 128), UInt8.ofNat (n / 268435456)]) B ho hlo hb
 have h4 : (Builtin.append_ #[N.za, N.za] N.za #[v, .slice (some ⟨w.heap.size, 0, none⟩) 5 5]).run P (w.alloc (.cells ([UInt8.ofNat (n % 128 + 128), UInt8.ofNat ((n / 128) % 128 + 128), UInt8.ofNat ((n / 16384) % 128 + 128), UInt8.ofNat ((n / 2097152) % 128 + 128), UInt8.ofNat (n / 268435456)].map zam).toArray N.zk)) = .ok v' w' := h4
 have b0 := zhl n (by omega)
 have o0 := zjv (n % 128) (by omega)
 have c0 : IntKind.u8.wrap ((n % 128 + 128 : Nat) : Int) = ((n % 128 + 128 : Nat) : Int) := zim _ (by omega)
 have d0 : Value.int .u8 ((n % 128 + 128 : Nat) : Int) = zam (UInt8.ofNat (n % 128 + 128)) := zgx _ (by omega)
 have s1 : ((n : Int)).fdiv (2 ^ min 7 IntKind.u32.bits) = ((n / 128 : Nat) : Int) := by
  show ((n : Int)).fdiv 128 = _
  rw [Int.fdiv_eq_ediv_of_nonneg _ (by decide)]; omega
 have b1 := zhl (n / 128) (by omega)
 have o1 := zjv ((n / 128) % 128) (by omega)
 have c1 : IntKind.u8.wrap (((n / 128) % 128 + 128 : Nat) : Int) = (((n / 128) % 128 + 128 : Nat) : Int) := zim _ (by omega)
 have d1 : Value.int .u8 (((n / 128) % 128 + 128 : Nat) : Int) = zam (UInt8.ofNat ((n / 128) % 128 + 128)) := zgx _ (by omega)
 have s2 : ((n : Int)).fdiv (2 ^ min 14 IntKind.u32.bits) = ((n / 16384 : Nat) : Int) := by
  show ((n : Int)).fdiv 16384 = _
  rw [Int.fdiv_eq_ediv_of_nonneg _ (by decide)]; omega
 have b2 := zhl (n / 16384) (by omega)
 have o2 := zjv ((n / 16384) % 128) (by omega)
 have c2 : IntKind.u8.wrap (((n / 16384) % 128 + 128 : Nat) : Int) = (((n / 16384) % 128 + 128 : Nat) : Int) := zim _ (by omega)
 have d2 : Value.int .u8 (((n / 16384) % 128 + 128 : Nat) : Int) = zam (UInt8.ofNat ((n / 16384) % 128 + 128)) := zgx _ (by omega)
 have s3 : ((n : Int)).fdiv (2 ^ min 21 IntKind.u32.bits) = ((n / 2097152 : Nat) : Int) := by
  show ((n : Int)).fdiv 2097152 = _
  rw [Int.fdiv_eq_ediv_of_nonneg _ (by decide)]; omega
 have b3 := zhl (n / 2097152) (by omega)
 have o3 := zjv ((n / 2097152) % 128) (by omega)
 have c3 : IntKind.u8.wrap (((n / 2097152) % 128 + 128 : Nat) : Int) = (((n / 2097152) % 128 + 128 : Nat) : Int) := zim _ (by omega)
 have d3 : Value.int .u8 (((n / 2097152) % 128 + 128 : Nat) : Int) = zam (UInt8.ofNat ((n / 2097152) % 128 + 128)) := zgx _ (by omega)
 have s4 : ((n : Int)).fdiv (2 ^ min 28 IntKind.u32.bits) = ((n / 268435456 : Nat) : Int) := by
  show ((n : Int)).fdiv 268435456 = _
  rw [Int.fdiv_eq_ediv_of_nonneg _ (by decide)]; omega
 have c4 : IntKind.u8.wrap (((n / 268435456) : Nat) : Int) = (((n / 268435456) : Nat) : Int) := zim _ (by omega)
 have d4 : Value.int .u8 (((n / 268435456) : Nat) : Int) = zam (UInt8.ofNat (n / 268435456)) := zgx _ (by omega)
 refine zf fun K hK => zn fun τ => ?_
 simp +decide only [bK, bE, Nat.reduceBeqDiff, BEq.rfl, Nat.reduceAdd, Int.reduceToNat, Nat.zero_add, h0, h1, e6, zax B.uint32 B.uint8 ⟨_, rfl⟩, b0, o0, c0, d0, zdm (show (0 : Int) ≤ 7 by decide), s1, b1, o1, c1, d1, zdm (show (0 : Int) ≤ 14 by decide), s2, b2, o2, c2, d2, zdm (show (0 : Int) ≤ 21 by decide), s3, b3, o3, c3, d3, zdm (show (0 : Int) ≤ 28 by decide), s4, c4, d4, run_bsL5 B, h4]
 refine hK _ _ (zd fun σ2 hσ => zbl ?_)
 have b2 := hσ 2
 simp +decide only [bE, BEq.rfl, Nat.reduceAdd] at b2
 exact hQ _ _ (by rw [b2]; exact h5)
end
theorem uvB1 {n : Nat} (h : n < 128) : [UInt8.ofNat n] = uvB n := (zfl h).symm
theorem uvB2 {n : Nat} (h : ¬ n < 128) (h2 : n < 16384) : [UInt8.ofNat (n % 128 + 128), UInt8.ofNat (n / 128)] = uvB n := by rw [zgz h, zfl (by omega)]
theorem uvB3 {n : Nat} (h : ¬ n < 16384) (h2 : n < 2097152) : [UInt8.ofNat (n % 128 + 128), UInt8.ofNat ((n / 128) % 128 + 128), UInt8.ofNat (n / 16384)] = uvB n := by
 rw [zgz (by omega), zgz (n := n / 128) (by omega), zfl (by omega), Nat.div_div_eq_div_mul]
theorem uvB4 {n : Nat} (h : ¬ n < 2097152) (h2 : n < 268435456) : [UInt8.ofNat (n % 128 + 128), UInt8.ofNat ((n / 128) % 128 + 128), UInt8.ofNat ((n / 16384) % 128 + 128), UInt8.ofNat (n / 2097152)] = uvB n := by
 rw [zgz (by omega), zgz (n := n / 128) (by omega), zgz (n := n / 128 / 128) (by omega), zfl (by omega), Nat.div_div_eq_div_mul, Nat.div_div_eq_div_mul]
theorem uvB5 {n : Nat} (h : ¬ n < 268435456) (h2 : n < 4294967296) : [UInt8.ofNat (n % 128 + 128), UInt8.ofNat ((n / 128) % 128 + 128), UInt8.ofNat ((n / 16384) % 128 + 128), UInt8.ofNat ((n / 2097152) % 128 + 128), UInt8.ofNat (n / 268435456)] = uvB n := by
 rw [zgz (by omega), zgz (n := n / 128) (by omega), zgz (n := n / 128 / 128) (by omega), zgz (n := n / 128 / 128 / 128) (by omega), zfl (by omega), Nat.div_div_eq_div_mul, Nat.div_div_eq_div_mul, Nat.div_div_eq_div_mul]
section
variable {P : Program} {N : Nums} {A : zck}
structure UvT (P : Program) (N : Nums) (A : zck) : Prop where
 l32 : FOk P A.zdz 1 (zfq N A) [.var 1]
 len : FOk P A.zhr 1 (zlr N A) [.var 1]
 uv : FOk P A.zcb 2 (zls N A) [.var 2]
theorem zuf (B : Base P N) (h : UvT P N A) {n : Nat} (hn : n < 4294967296) : ApF P A.zcb (.int .u32 n) (uvB n) := by
 intro w lo v l ho hlo hb
 refine h.uv.call rfl fun loc N' hlo' => ?_
 rw [c_Uv_eq]
 refine zf fun K hK => zn fun τ => ?_
 simp +decide only [bK]
 refine hK _ _ (zd fun σ1 hσ => ?_)
 have a0 := hσ 0
 have a1 := hσ 1
 simp +decide only [bE, Nat.reduceBeqDiff, Nat.reduceAdd, Nat.zero_add, zbm, zcc] at a0 a1
 clear hσ hK K
 refine zf fun K hK => zf fun K1 hK1 => zn fun τ => ?_
 simp +decide only [bK, bE, Nat.reduceAdd, a1]
 rw [zbb h.len.has]
 simp +decide only [bK, bE, BEq.rfl]
 refine (call_Ul B h.l32 h.len w hn).mono ?_
 rintro _ w2 ⟨rfl, rfl⟩
 refine hK1 _ _ (zd fun σ2 hσ => ?_)
 have b0 := hσ 0
 have b1 := hσ 1
 have b3 := hσ 3
 simp +decide only [bE, Nat.reduceBeqDiff, BEq.rfl, Nat.reduceAdd, Nat.zero_add, a0, a1] at b0 b1 b3
 clear hσ hK1 K1
 refine zey ?_
 have up : ∀ {σ : Env} {i c : Nat} {x u : Value}, σ i = x → i ≠ c → upd σ c u i = x := fun h hi => by rw [zq hi]; exact h
 have rng : ∀ {m : Nat}, zjp n = m → (m = 1 → n < 128) ∧ (m = 2 → ¬ n < 128 ∧ n < 16384) ∧ (m = 3 → ¬ n < 16384 ∧ n < 2097152) ∧ (m = 4 → ¬ n < 2097152 ∧ n < 268435456) ∧ (m = 5 → ¬ n < 268435456) := fun {m} e => by
  unfold zjp at e
  split at e
  ·omega
  ·split at e
   ·omega
   ·split at e
    ·omega
    ·split at e <;> omega
 refine zjc hlo' b3 ?_
 by_cases e5 : ((zjp n : Nat) : Int) = 5
 ·rw [if_pos e5]
  have r := rng (m := 5) (by omega)
  have g := r.2.2.2.2 rfl
  have q := uvB5 g hn
  rw [← q] at hb ⊢
  exact W_uv5 B (up b0 (by decide)) (up b1 (by decide)) hn ho hlo hb fun σ' w' h => ⟨.inr rfl, _, rfl, h⟩
 rw [if_neg e5]
 refine zjc hlo' (up b3 (by decide)) ?_
 by_cases e4 : ((zjp n : Nat) : Int) = 4
 ·rw [if_pos e4]
  have r := rng (m := 4) (by omega)
  have g := r.2.2.2.1 rfl
  have q := uvB4 g.1 g.2
  rw [← q] at hb ⊢
  exact W_uv4 B (up (up b0 (by decide)) (by decide)) (up (up b1 (by decide)) (by decide)) g.2 ho hlo hb fun σ' w' h => ⟨.inr rfl, _, rfl, h⟩
 rw [if_neg e4]
 refine zjc hlo' (up (up b3 (by decide)) (by decide)) ?_
 by_cases e3 : ((zjp n : Nat) : Int) = 3
 ·rw [if_pos e3]
  have r := rng (m := 3) (by omega)
  have g := r.2.2.1 rfl
  have q := uvB3 g.1 g.2
  rw [← q] at hb ⊢
  exact W_uv3 B (up (up (up b0 (by decide)) (by decide)) (by decide)) (up (up (up b1 (by decide)) (by decide)) (by decide)) g.2 ho hlo hb fun σ' w' h => ⟨.inr rfl, _, rfl, h⟩
 rw [if_neg e3]
 refine zjc hlo' (up (up (up b3 (by decide)) (by decide)) (by decide)) ?_
 by_cases e2 : ((zjp n : Nat) : Int) = 2
 ·rw [if_pos e2]
  have r := rng (m := 2) (by omega)
  have g := r.2.1 rfl
  have q := uvB2 g.1 g.2
  rw [← q] at hb ⊢
  exact W_uv2 B (up (up (up (up b0 (by decide)) (by decide)) (by decide)) (by decide)) (up (up (up (up b1 (by decide)) (by decide)) (by decide)) (by decide)) g.2 ho hlo hb fun σ' w' h => ⟨.inr rfl, _, rfl, h⟩
 rw [if_neg e2]
 refine zjc hlo' (up (up (up (up b3 (by decide)) (by decide)) (by decide)) (by decide)) ?_
 by_cases e1 : ((zjp n : Nat) : Int) = 1
 ·rw [if_pos e1]
  have r := rng (m := 1) (by omega)
  have g := r.1 rfl
  have q := uvB1 g
  rw [← q] at hb ⊢
  exact W_uv1 B (up (up (up (up (up b0 (by decide)) (by decide)) (by decide)) (by decide)) (by decide)) (up (up (up (up (up b1 (by decide)) (by decide)) (by decide)) (by decide)) (by decide)) g ho hlo hb fun σ' w' h => ⟨.inr rfl, _, rfl, h⟩
 rw [if_neg e1]
 exfalso
 have : zjp n = 1 ∨ zjp n = 2 ∨ zjp n = 3 ∨ zjp n = 4 ∨ zjp n = 5 := by unfold zjp; split <;> (try split) <;> (try split) <;> (try split) <;> omega
 omega
end
section
variable {P : Program} {N : Nums} {A : zck}
theorem fixB1 (n : Int) : [u8of n] = fixB n 1 := by
 have e : n.fdiv 1 = n := Int.fdiv_one n
 simp only [fixB, u8of, Nat.mul_zero, Int.pow_zero, e]
theorem fixB4 (n : Int) : [u8of (n.fdiv (2 ^ min 24 IntKind.u32.bits)), u8of (n.fdiv (2 ^ min 16 IntKind.u32.bits)), u8of (n.fdiv (2 ^ min 8 IntKind.u32.bits)), u8of n] = fixB n 4 := by
 have e : n.fdiv 1 = n := Int.fdiv_one n
 simp only [fixB, u8of, Nat.mul_zero, Int.pow_zero, e]
 rfl
theorem wrap_mod2 (K : IntKind) (m : Int) : K.wrap m % 2 ^ K.bits = m % 2 ^ K.bits := by
 unfold IntKind.wrap
 simp only
 split
 ·rw [Int.sub_emod, Int.emod_self, Int.sub_zero, Int.emod_emod_of_dvd _ (Int.dvd_refl _), Int.emod_emod_of_dvd _ (Int.dvd_refl _)]
 ·rw [Int.emod_emod_of_dvd _ (Int.dvd_refl _)]
theorem ziv {K : IntKind} {k : Nat} (hk : K.bits = 8 * k) (n : Int) : fixB (K.wrap n) k = fixB n k := by
 refine zsn ?_
 have hp : ((256 ^ k : Nat) : Int) = (2 : Int) ^ K.bits := by
  rw [hk, show (256 : Nat) = 2 ^ 8 from rfl, ← Nat.pow_mul, Int.natCast_pow]; rfl
 rw [hp]; exact wrap_mod2 K n
theorem ap_Int8 (B : Base P N) (h8 : N.zjw ≠ 0) (h : FOk P A.zhu 2 (zlu N A) [.var 2]) (n : Int) : ApF P A.zhu (.int .i8 n) (fixB n 1) := by
 intro w lo v l ho hlo hb
 refine h.call rfl fun loc N' hlo' => ?_
 unfold zlu
 refine zf fun K hK => zn fun τ => ?_
 simp +decide only [bK, Nat.reduceAdd]
 refine hK _ _ (zd fun σ1 hσ => ?_)
 have a0 := hσ 0
 have a1 := hσ 1
 simp +decide only [bE, Nat.reduceBeqDiff, Nat.reduceAdd, Nat.zero_add, zbm, zcc] at a0 a1
 clear hσ hK K
 have e6 : ∀ ρ : Env, (#[(0, T 2)] : Array (Nat × Operand)).map (fun p => (p.1, ev ρ p.2)) = #[(0, ρ 2)] := fun ρ => by simp
 obtain ⟨v', w', h1, h2⟩ := zir (ty := N.za) (s := [u8of n]) B ho hlo hb
 have h1 : (Builtin.append_ #[N.za, N.za] N.za #[v, .slice (some ⟨w.heap.size, 0, none⟩) 1 1]).run P (w.alloc (.cells ([u8of n].map zam).toArray N.zk)) = .ok v' w' := h1
 refine zf fun K hK => zn fun τ => ?_
 simp +decide only [bK, bE, Nat.reduceBeqDiff, BEq.rfl, Nat.reduceAdd, Nat.zero_add, a0, a1, e6, zax (B.int8 h8) B.uint8 ⟨_, rfl⟩, zqc, zpu B, h1]
 refine hK _ _ (zd fun σ2 hσ => zbl ?_)
 have b2 := hσ 2
 simp +decide only [bE, BEq.rfl, Nat.reduceAdd] at b2
 exact ⟨.inr rfl, _, rfl, by rw [b2, ← fixB1]; exact h2⟩
theorem ap_Uint32 (B : Base P N) (h : FOk P A.zdf 2 (zdx N A) [.var 2]) (n : Int) : ApF P A.zdf (.int .u32 n) (fixB n 4) := by
 intro w lo v l ho hlo hb
 refine h.call rfl fun loc N' hlo' => ?_
 unfold zdx
 refine zf fun K hK => zn fun τ => ?_
 simp +decide only [bK, Nat.reduceAdd]
 refine hK _ _ (zd fun σ1 hσ => ?_)
 have a0 := hσ 0
 have a1 := hσ 1
 simp +decide only [bE, Nat.reduceBeqDiff, Nat.reduceAdd, Nat.zero_add, zbm, zcc] at a0 a1
 clear hσ hK K
 have e6 : ∀ ρ : Env, (#[(0, T 3), (1, T 6), (2, T 9), (3, T 11)] : Array (Nat × Operand)).map (fun p => (p.1, ev ρ p.2)) = #[(0, ρ 3), (1, ρ 6), (2, ρ 9), (3, ρ 11)] := fun ρ => by simp
 obtain ⟨v', w', h1, h2⟩ := zir (ty := N.za) (s := [u8of (n.fdiv (2 ^ min 24 IntKind.u32.bits)), u8of (n.fdiv (2 ^ min 16 IntKind.u32.bits)), u8of (n.fdiv (2 ^ min 8 IntKind.u32.bits)), u8of n]) B ho hlo hb
 have h1 : (Builtin.append_ #[N.za, N.za] N.za #[v, .slice (some ⟨w.heap.size, 0, none⟩) 4 4]).run P (w.alloc (.cells ([u8of (n.fdiv (2 ^ min 24 IntKind.u32.bits)), u8of (n.fdiv (2 ^ min 16 IntKind.u32.bits)), u8of (n.fdiv (2 ^ min 8 IntKind.u32.bits)), u8of n].map zam).toArray N.zk)) = .ok v' w' := h1
 refine zf fun K hK => zn fun τ => ?_
 simp +decide only [bK, bE, Nat.reduceBeqDiff, BEq.rfl, Nat.reduceAdd, Int.reduceToNat, Nat.zero_add, a0, a1, e6, zdm (show (0 : Int) ≤ 24 by decide), zdm (show (0 : Int) ≤ 16 by decide), zdm (show (0 : Int) ≤ 8 by decide), zax B.uint32 B.uint8 ⟨_, rfl⟩, zqc, run_bsL4 B, h1]
 refine hK _ _ (zd fun σ2 hσ => zbl ?_)
 have b2 := hσ 2
 simp +decide only [bE, BEq.rfl, Nat.reduceAdd] at b2
 exact ⟨.inr rfl, _, rfl, by rw [b2, ← fixB4]; exact h2⟩
theorem zug (B : Base P N) (hU : FOk P A.zdg 2 (zep N A) [.var 2]) (h : FOk P A.zbx 2 (zfr N A) [.var 2]) (n : Int) : ApF P A.zbx (.int .i16 n) (fixB n 2) := by
 intro w lo v l ho hlo hb
 refine h.call rfl fun loc N' hlo' => ?_
 unfold zfr
 refine zf fun K hK => zn fun τ => ?_
 simp +decide only [bK, Nat.reduceAdd]
 refine hK _ _ (zd fun σ1 hσ => ?_)
 have a0 := hσ 0
 have a1 := hσ 1
 simp +decide only [bE, Nat.reduceBeqDiff, Nat.reduceAdd, Nat.zero_add, zbm, zcc] at a0 a1
 clear hσ hK K
 refine zf fun K hK => zn fun τ => ?_
 simp +decide only [bK, bE, Nat.reduceBeqDiff, BEq.rfl, Nat.reduceAdd, Nat.zero_add, a0, a1, zax B.int16 B.uint16 ⟨_, rfl⟩]
 rw [zah hU.has]
 simp +decide only [bK, bE, Nat.reduceBeqDiff, BEq.rfl]
 refine (zwi B hU (IntKind.u16.wrap n) ho hlo (by rw [zdr] at hb ⊢; exact hb)).mono ?_
 rw [ziv (k := 2) rfl]
 intro v' w' h2
 refine hK _ _ (zd fun σ2 hσ => zbl ?_)
 have b2 := hσ 2
 simp +decide only [bE, BEq.rfl, Nat.reduceAdd] at b2
 exact ⟨.inr rfl, _, rfl, by rw [b2]; exact h2⟩
theorem zoc (B : Base P N) (hU : FOk P A.zdf 2 (zdx N A) [.var 2]) (h : FOk P A.zbi 2 (zew N A) [.var 2]) (n : Int) : ApF P A.zbi (.int .i32 n) (fixB n 4) := by
 intro w lo v l ho hlo hb
 refine h.call rfl fun loc N' hlo' => ?_
 unfold zew
 refine zf fun K hK => zn fun τ => ?_
 simp +decide only [bK, Nat.reduceAdd]
 refine hK _ _ (zd fun σ1 hσ => ?_)
 have a0 := hσ 0
 have a1 := hσ 1
 simp +decide only [bE, Nat.reduceBeqDiff, Nat.reduceAdd, Nat.zero_add, zbm, zcc] at a0 a1
 clear hσ hK K
 refine zf fun K hK => zn fun τ => ?_
 simp +decide only [bK, bE, Nat.reduceBeqDiff, BEq.rfl, Nat.reduceAdd, Nat.zero_add, a0, a1, zax B.int32 B.uint32 ⟨_, rfl⟩]
 rw [zah hU.has]
 simp +decide only [bK, bE, Nat.reduceBeqDiff, BEq.rfl]
 refine (ap_Uint32 B hU (IntKind.u32.wrap n) ho hlo (by rw [zdr] at hb ⊢; exact hb)).mono ?_
 rw [ziv (k := 4) rfl]
 intro v' w' h2
 refine hK _ _ (zd fun σ2 hσ => zbl ?_)
 have b2 := hσ 2
 simp +decide only [bE, BEq.rfl, Nat.reduceAdd] at b2
 exact ⟨.inr rfl, _, rfl, by rw [b2]; exact h2⟩
theorem zxy (B : Base P N) (hU : FOk P A.zdf 2 (zdx N A) [.var 2]) (hI : FOk P A.zbi 2 (zew N A) [.var 2]) (h : FOk P A.zce 2 (zid N A) [.var 2]) (n : Int) : ApF P A.zce (.int .i64 n) (fixB n 4) := by
 intro w lo v l ho hlo hb
 refine h.call rfl fun loc N' hlo' => ?_
 unfold zid
 refine zf fun K hK => zn fun τ => ?_
 simp +decide only [bK, Nat.reduceAdd]
 refine hK _ _ (zd fun σ1 hσ => ?_)
 have a0 := hσ 0
 have a1 := hσ 1
 simp +decide only [bE, Nat.reduceBeqDiff, Nat.reduceAdd, Nat.zero_add, zbm, zcc] at a0 a1
 clear hσ hK K
 refine zf fun K hK => zn fun τ => ?_
 simp +decide only [bK, bE, Nat.reduceBeqDiff, BEq.rfl, Nat.reduceAdd, Nat.zero_add, a0, a1, zax B.int B.int32 ⟨_, rfl⟩]
 rw [zah hI.has]
 simp +decide only [bK, bE, Nat.reduceBeqDiff, BEq.rfl]
 refine (zoc B hU hI (IntKind.i32.wrap n) ho hlo (by rw [zdr] at hb ⊢; exact hb)).mono ?_
 rw [ziv (k := 4) rfl]
 intro v' w' h2
 refine hK _ _ (zd fun σ2 hσ => zbl ?_)
 have b2 := hσ 2
 simp +decide only [bE, BEq.rfl, Nat.reduceAdd] at b2
 exact ⟨.inr rfl, _, rfl, by rw [b2]; exact h2⟩
theorem zpq {n : Nat} (hn : n < 4294967295) : IntKind.u32.wrap (1 + IntKind.u32.wrap (n : Int)) = ((n + 1 : Nat) : Int) := by
 have e : ∀ m : Int, IntKind.u32.wrap m = m % 4294967296 := fun m => by simp [IntKind.wrap, IntKind.signed, IntKind.bits]
 rw [e, e]; omega
theorem zwl (B : Base P N) (hU : UvT P N A) (h : FOk P A.zba 2 (zex N A) [.var 2]) {n : Nat} (hn : n < 4294967295) : ApF P A.zba (.int .i64 n) (uvB (n + 1)) := by
 intro w lo v l ho hlo hb
 refine h.call rfl fun loc N' hlo' => ?_
 unfold zex
 refine zf fun K hK => zn fun τ => ?_
 simp +decide only [bK, Nat.reduceAdd]
 refine hK _ _ (zd fun σ1 hσ => ?_)
 have a0 := hσ 0
 have a1 := hσ 1
 simp +decide only [bE, Nat.reduceBeqDiff, Nat.reduceAdd, Nat.zero_add, zbm, zcc] at a0 a1
 clear hσ hK K
 refine zf fun K hK => zn fun τ => ?_
 simp +decide only [bK, bE, Nat.reduceBeqDiff, BEq.rfl, Nat.reduceAdd, Nat.zero_add, a0, a1, zax B.int B.uint32 ⟨_, rfl⟩, zpq hn]
 rw [zah hU.uv.has]
 simp +decide only [bK, bE, Nat.reduceBeqDiff, BEq.rfl]
 refine (zuf B hU (n := n + 1) (by omega) ho hlo hb).mono ?_
 intro v' w' h2
 refine hK _ _ (zd fun σ2 hσ => zbl ?_)
 have b2 := hσ 2
 simp +decide only [bE, BEq.rfl, Nat.reduceAdd] at b2
 exact ⟨.inr rfl, _, rfl, by rw [b2]; exact h2⟩
theorem ap_Bool (B : Base P N) (h : FOk P A.zhv 2 (zlv N A) [.var 2]) (b : Bool) : ApF P A.zhv (.bool b) [if b then 1 else 0] := by
 intro w lo v l ho hlo hb
 refine h.call rfl fun loc N' hlo' => ?_
 unfold zlv
 refine zf fun K hK => zn fun τ => ?_
 simp +decide only [bK, Nat.reduceAdd]
 refine hK _ _ (zd fun σ1 hσ => ?_)
 have a0 := hσ 0
 have a1 := hσ 1
 simp +decide only [bE, Nat.reduceBeqDiff, Nat.reduceAdd, Nat.zero_add, zbm, zcc] at a0 a1
 clear hσ hK K
 have e1 : ∀ ρ : Env, (#[(0, .const (.int .u8 1))] : Array (Nat × Operand)).map (fun p => (p.1, ev ρ p.2)) = #[(0, zam 1)] := fun ρ => by simp; rfl
 have e0 : ∀ ρ : Env, (#[(0, .const (.int .u8 0))] : Array (Nat × Operand)).map (fun p => (p.1, ev ρ p.2)) = #[(0, zam 0)] := fun ρ => by simp; rfl
 refine zf fun K hK => zf fun K1 hK1 => zn fun τ => ?_
 simp +decide only [bK, bE, Nat.reduceAdd, a1]
 refine hK1 _ _ (zd fun σ2 hσ => ?_)
 have c0 := hσ 0
 have c3 := hσ 3
 simp +decide only [bE, Nat.reduceBeqDiff, BEq.rfl, Nat.reduceAdd, Nat.zero_add, a0] at c0 c3
 clear hσ hK1 K1
 refine W_if hlo' c3 ?_
 cases b with
 | true =>
  simp only [if_true] at hb ⊢
  obtain ⟨v', w', h1, h2⟩ := zir (ty := N.za) (s := [1]) B ho hlo hb
  have h1 : (Builtin.append_ #[N.za, N.za] N.za #[v, .slice (some ⟨w.heap.size, 0, none⟩) 1 1]).run P (w.alloc (.cells ([1].map zam).toArray N.zk)) = .ok v' w' := h1
  refine zf fun K2 hK2 => zn fun τ => ?_
  simp +decide only [bK, bE, Nat.reduceBeqDiff, BEq.rfl, Nat.reduceAdd, Nat.zero_add, c0, e1, zpu B, h1]
  refine hK2 _ _ (zd fun σ3 hσ => zbl ?_)
  have b2 := hσ 2
  simp +decide only [bE, BEq.rfl, Nat.reduceAdd] at b2
  exact ⟨.inr rfl, _, rfl, by rw [b2]; exact h2⟩
 | false =>
  simp only [Bool.false_eq_true, if_false] at hb ⊢
  refine zbv (hK _ _ ?_)
  obtain ⟨v', w', h1, h2⟩ := zir (ty := N.za) (s := [0]) B ho hlo hb
  have h1 : (Builtin.append_ #[N.za, N.za] N.za #[v, .slice (some ⟨w.heap.size, 0, none⟩) 1 1]).run P (w.alloc (.cells ([0].map zam).toArray N.zk)) = .ok v' w' := h1
  refine zf fun K2 hK2 => zn fun τ => ?_
  simp +decide only [bK, bE, Nat.reduceBeqDiff, BEq.rfl, Nat.reduceAdd, Nat.zero_add, if_false, c0, e0, zpu B, h1]
  refine hK2 _ _ (zd fun σ3 hσ => zbl ?_)
  have b2 := hσ 2
  simp +decide only [bE, BEq.rfl, Nat.reduceAdd] at b2
  exact ⟨.inr rfl, _, rfl, by rw [b2]; exact h2⟩
end
section
variable {P : Program} {N : Nums} {A : zck}
theorem zxb {st tx et ty : TypeId} {a b sz by' : Nat} {z z' : Value} {d : TypeDesc} (hS : TI P st (.slice et) a b z') (ht : TI P et d sz by' z) {w : World} {lo n m : Nat} {v src : Value} {cs new : List Value} (ho : Own w lo sz v n cs)
  (hsrc : ∀ i : TypeInfo, P.info? et = some i → i.size = sz → Src P i.size tx src m new w) (hnl : new.length = m * sz) (hlo : lo ≤ w.heap.size) (hz : z.cells.size = sz)
  (hbig : n + m < 1099511627776) (hby : by' ≤ 128) (hm : v = .slice none 0 0 → 0 < m) :
  ∃ v' w', (Builtin.append_ #[st, tx] ty #[v, src]).run P w = .ok v' w' ∧ Own w' lo sz v' (n + m) (cs ++ new) ∧ Mod w w' (fun i _ => ¬ zaj v i) ∧ v'.oneCell' = true ∧ (∀ k, k < w.heap.size → zaj v k → zaj v' k) := by
 obtain ⟨i, hi, hsz, hbytes, hzero⟩ := ht.info
 have hsrc' := hsrc i hi hsz
 clear hsrc
 have hsrc := hsrc'
 clear hsrc'
 subst hsz
 have fits : ∀ c, c < n + m → Builtin.nextslicecap (n + m) c * i.bytes ≤ 281474976710656 := by
  intro c hc
  have h1 := nextslicecap_le hc
  have h2 : Builtin.nextslicecap (n + m) c * i.bytes ≤ (2 * (n + m)) * 128 := Nat.mul_le_mul h1 (by omega)
  omega
 have grown : ∀ (base : Option Addr) (c : Nat), v = .slice base n c → c < n + m → (Builtin.firstCells i.size n (.slice base n c)).run P w.drew = .ok cs.toArray w.drew → cs.length = n * i.size →
   ∃ v' w', (Builtin.append_ #[st, tx] ty #[v, src]).run P w = .ok v' w' ∧ Own w' lo i.size v' (n + m) (cs ++ new) ∧ Mod w w' (fun i _ => ¬ zaj v i) ∧ v'.oneCell' = true ∧ (∀ k, k < w.heap.size → zaj v k → zaj v' k) := by
  intro base c hv hc hold' hcl
  have hrun := run_append_grow_src (P := P) w st tx ty et i z hS.und hi hzero base n c cs hold' src m new hsrc hc (by omega) (fits c hc)
  refine ⟨_, _, by rw [hv]; exact hrun, .inr ⟨w.heap.size, _, rfl, hlo, by rw [zae]; exact Nat.lt_succ_self _, grownCap_ge w (n + m) c et, ?_, ?_, by rw [List.length_append, hcl, hnl, Nat.add_mul]⟩, (Mod.drew w _).trans' (Mod.alloc _ _ _), rfl, fun k hk _ b o s n c e => by injection e with e1 _ _; injection e1 with e2; injection e2 with e3; omega⟩
  ·have ht2 := zbe w.drew ((cs ++ new).toArray ++ Builtin.zeroCells z.cells (grownCap w (n + m) c et - (n + m))) et
   intro j hj
   refine ht2 j ?_
   have hzc : (Builtin.zeroCells z.cells (grownCap w (n + m) c et - (n + m))).size = (grownCap w (n + m) c et - (n + m)) * i.size := by simp [Builtin.zeroCells, hz]
   rw [Array.size_append, hzc, List.size_toArray, List.length_append, hcl, hnl, ← Nat.add_mul, ← Nat.add_mul]
   have hge := grownCap_ge w (n + m) c et
   rwa [show n + m + (grownCap w (n + m) c et - (n + m)) = grownCap w (n + m) c et by omega]
  ·have hr := zu w.drew ((cs ++ new).toArray ++ Builtin.zeroCells z.cells (grownCap w (n + m) c et - (n + m))) et (0, 0)
   exact (zx.1 (by simpa using hr)).1
 rcases ho with ⟨hv, hn0, hcs⟩ | ⟨b, c, hv, hb1, hb2, hnc, hth, hrg, hcl⟩
 ·subst hcs
  have := hm hv
  exact grown none 0 (by rw [hv, hn0]) (by omega) (by rw [hn0]; rfl) (by rw [hn0]; simp)
 ·by_cases hroom : n + m ≤ c
  ·have hle : n * i.size + new.length ≤ c * i.size := by
    rw [hnl, ← Nat.add_mul]; exact Nat.mul_le_mul_right _ hroom
   have hrun := run_append_room_src (P := P) w st tx ty et i hS.und hi b 0 n c src m new hsrc hroom (fun j hj => by
    have := (hth (n * i.size + j) (by omega)).1; simpa [Nat.add_assoc] using this) (fun j hj => by
    have := (hth (n * i.size + j) (by omega)).2; simpa [Nat.add_assoc] using this)
   have ms : Mod w (w.setCells b (0 + n * i.size) new) (rng b (0 + n * i.size) new.length) := Mod.setCells _ _ _ fun _ k h1 h2 => ⟨rfl, h1, h2⟩
   refine ⟨_, _, by rw [hv]; exact hrun, .inr ⟨b, c, rfl, hb1, Nat.lt_of_lt_of_le hb2 ms.size, hroom, ms.there hb2 hth, ?_, by rw [List.length_append, hcl, hnl, Nat.add_mul]⟩, ms.mono (fun k o _ h hn => hn b 0 none n c hv h.1), rfl, fun k hk hn b' o' s' n' c' e => by
    injection e with e1 _ _; injection e1 with e2; injection e2 with e3; subst e3; exact hn b 0 none n c hv⟩
   rw [zx]
   refine ⟨ms.rangeAt hb2 (fun k h1 h2 h => by have := h.2.1; omega) hrg, ?_⟩
   rw [hcl]
   have hex : ∃ old : List Value, old.length = new.length ∧ w.rangeAt b (0 + n * i.size) old := by
    refine ⟨(List.range new.length).map fun j => (w.cell? ⟨b, (0 + n * i.size) + j, none⟩).getD undef, by simp, fun j x hj => ?_⟩
    rw [List.getElem?_map] at hj
    cases hr : (List.range new.length)[j]? with
    | none => rw [hr] at hj; simp at hj
    | some k =>
     rw [hr] at hj
     have hk : k = j := by
      obtain ⟨h1, h2⟩ := List.getElem?_eq_some_iff.1 hr
      simpa using h2.symm
     subst hk
     have hlt : k < new.length := by have := (List.getElem?_eq_some_iff.1 hr).1; simpa using this
     have hs : (w.cell? ⟨b, (0 + n * i.size) + k, none⟩).isSome = true := by have := (hth (n * i.size + k) (by omega)).1; simpa [Nat.add_assoc] using this
     simp only [Option.map_some, Option.some.injEq] at hj
     cases hc : w.cell? ⟨b, (0 + n * i.size) + k, none⟩ with
     | none => rw [hc] at hs; cases hs
     | some x => rw [hc] at hj; simp at hj; rw [hj]
   obtain ⟨old, ho1, ho2⟩ := hex
   have := zar new (0 + n * i.size) w old ho2 (by omega)
   rwa [List.drop_of_length_le (by omega), List.append_nil] at this
  ·have hfc : (Builtin.firstCells i.size n (.slice (some ⟨b, 0, none⟩) n c)).run P w.drew = .ok cs.toArray w.drew :=
    run_firstCells_some w.drew i.size n ⟨b, 0, none⟩ n c cs hcl (fun j u hj => by rw [Addr.add_mid]; exact hrg j u hj)
   exact grown (some ⟨b, 0, none⟩) c hv (by omega) hfc hcl
theorem zsh (B : Base P N) {w : World} {lo : Nat} {v : Value} {l s : List UInt8} {ty : TypeId} (ho : OwnB w lo v l) (hlo : lo ≤ w.heap.size) (hb : l.length + s.length < 1099511627776) (hl : l ≠ []) :
  ∃ v' w', (Builtin.append_ #[N.za, N.zal] ty #[v, strV s]).run P w = .ok v' w' ∧ Apd w lo v l s v' w' := by
 have hbc : byteCells ⟨s.toArray⟩ = s.map zam := by
  unfold byteCells
  simp [zam]
 obtain ⟨v', w', h1, h2, h3, _, h5⟩ := zxb (P := P) (ty := ty) (tx := N.zal) B.Lu8 B.uint8 (m := s.length) (src := strV s) (new := s.map zam) ho (fun i hi hsz => by
  rw [hsz, ← hbc]
  exact Src.ofString (w := w) B.string.und ⟨s.toArray⟩) (by simp) hlo rfl hb (by decide) (fun e => by
   rcases ho with ⟨_, e2, _⟩ | ⟨b, c, e2, _⟩
   ·exact absurd (List.length_eq_zero_iff.1 e2) hl
   ·rw [e] at e2; cases e2)
 exact ⟨v', w', h1, by rw [OwnB, List.length_append, List.map_append]; exact h2, h3, h5⟩
theorem zsg (B : Base P N) {w : World} {s : List UInt8} {ty : TypeId} : (Builtin.len_ #[N.zal] ty #[strV s]).run P w = .ok (.int .i64 (s.length : Int)) w := by
 simp [Builtin.len_, Sem.run_bind, B.string.run_und, goInt, strV]
 rfl
theorem ap_Int16w (B : Base P N) (hU : FOk P A.zdg 2 (zep N A) [.var 2]) (h : FOk P A.zbx 2 (zfr N A) [.var 2]) (n : Int) : ApF P A.zbx (.int .i16 (IntKind.i16.wrap n)) (fixB n 2) := by
 intro w lo v l ho hlo hb
 have := zug B hU h (IntKind.i16.wrap n) ho hlo (by rw [zdr] at hb ⊢; exact hb)
 rwa [ziv (k := 2) rfl] at this
theorem zkz (B : Base P N) (hU : UvT P N A) (h : FOk P A.zbs 2 (zem N A) [.var 2]) (s : List UInt8) (hs : s.length < 4294967295) : ApF P A.zbs (strV s) (uvB (s.length + 1) ++ s) := by
 intro w lo v l ho hlo hb
 refine h.call rfl fun loc N' hlo' => ?_
 unfold zem
 refine zf fun K hK => zn fun τ => ?_
 simp +decide only [bK, Nat.reduceAdd]
 refine hK _ _ (zd fun σ1 hσ => ?_)
 have a0 := hσ 0
 have a1 := hσ 1
 simp +decide only [bE, Nat.reduceBeqDiff, Nat.reduceAdd, Nat.zero_add, zbm, zcc] at a0 a1
 clear hσ hK K
 rw [List.length_append] at hb
 refine zf fun K hK => zn fun τ => ?_
 simp +decide only [bK, bE, Nat.reduceBeqDiff, BEq.rfl, Nat.reduceAdd, Nat.zero_add, a0, a1, zsg B, zax B.int B.uint32 ⟨_, rfl⟩, zpq hs]
 rw [zah hU.uv.has]
 simp +decide only [bK, bE, Nat.reduceBeqDiff, BEq.rfl]
 refine (zuf B hU (n := s.length + 1) (by omega) ho hlo (by omega)).mono ?_
 intro v1 w1 h1
 refine hK _ _ (zd fun σ2 hσ => ?_)
 have c0 := hσ 0
 have c1 := hσ 1
 simp +decide only [bE, Nat.reduceBeqDiff, BEq.rfl, Nat.reduceAdd, Nat.zero_add, a1] at c0 c1
 clear hσ hK K
 have hl1 : (l ++ uvB (s.length + 1)).length + s.length < 1099511627776 := by rw [List.length_append]; omega
 obtain ⟨v2, w2, h3, h4⟩ := zsh (ty := N.za) B h1.own (Nat.le_trans hlo h1.mod.size) hl1 (by intro e; have hp := uvB_pos (s.length + 1); rw [(List.append_eq_nil_iff.1 e).2] at hp; simp at hp)
 refine zf fun K hK => zn fun τ => ?_
 simp +decide only [bK, bE, Nat.reduceBeqDiff, BEq.rfl, Nat.reduceAdd, Nat.zero_add, c0, c1, h3]
 refine hK _ _ (zd fun σ3 hσ => zbl ?_)
 have b2 := hσ 2
 simp +decide only [bE, BEq.rfl, Nat.reduceAdd] at b2
 exact ⟨.inr rfl, _, rfl, by rw [b2]; exact h1.trans h4⟩
theorem zwj (B : Base P N) (hU : FOk P A.zdg 2 (zep N A) [.var 2]) (hI : FOk P A.zbx 2 (zfr N A) [.var 2]) (h : FOk P A.zdw 2 (zhk N A) [.var 2]) (s : List UInt8) (hs : s.length < 4294967295) : ApF P A.zdw (strV s) (fixB s.length 2 ++ s) := by
 intro w lo v l ho hlo hb
 refine h.call rfl fun loc N' hlo' => ?_
 unfold zhk
 refine zf fun K hK => zn fun τ => ?_
 simp +decide only [bK, Nat.reduceAdd]
 refine hK _ _ (zd fun σ1 hσ => ?_)
 have a0 := hσ 0
 have a1 := hσ 1
 simp +decide only [bE, Nat.reduceBeqDiff, Nat.reduceAdd, Nat.zero_add, zbm, zcc] at a0 a1
 clear hσ hK K
 rw [List.length_append] at hb
 refine zf fun K hK => zn fun τ => ?_
 simp +decide only [bK, bE, Nat.reduceBeqDiff, BEq.rfl, Nat.reduceAdd, Nat.zero_add, a0, a1, zsg B, zax B.int B.int16 ⟨_, rfl⟩]
 rw [zah hI.has]
 simp +decide only [bK, bE, Nat.reduceBeqDiff, BEq.rfl]
 refine (ap_Int16w B hU hI s.length ho hlo (by omega)).mono ?_
 intro v1 w1 h1
 refine hK _ _ (zd fun σ2 hσ => ?_)
 have c0 := hσ 0
 have c1 := hσ 1
 simp +decide only [bE, Nat.reduceBeqDiff, BEq.rfl, Nat.reduceAdd, Nat.zero_add, a1] at c0 c1
 clear hσ hK K
 have hl1 : (l ++ fixB s.length 2).length + s.length < 1099511627776 := by rw [List.length_append]; omega
 obtain ⟨v2, w2, h3, h4⟩ := zsh (ty := N.za) B h1.own (Nat.le_trans hlo h1.mod.size) hl1 (by intro e; have hp := zdr (s.length : Int) 2; rw [(List.append_eq_nil_iff.1 e).2] at hp; simp at hp)
 refine zf fun K hK => zn fun τ => ?_
 simp +decide only [bK, bE, Nat.reduceBeqDiff, BEq.rfl, Nat.reduceAdd, Nat.zero_add, c0, c1, h3]
 refine hK _ _ (zd fun σ3 hσ => zbl ?_)
 have b2 := hσ 2
 simp +decide only [bE, BEq.rfl, Nat.reduceAdd] at b2
 exact ⟨.inr rfl, _, rfl, by rw [b2]; exact h1.trans h4⟩
end
section
variable {P : Program} {N : Nums} {A : zck}
def ApF2 (P : Program) (f : FuncId) (x y : Value) (s : List UInt8) : Prop := ∀ {w : World} {lo : Nat} {v : Value} {l : List UInt8}, OwnB w lo v l → lo ≤ w.heap.size → l.length + s.length < 1099511627776 → Call P f #[v, x, y] w (Apd w lo v l s)
theorem ap_Uuid (B : Base P N) (hU : N.zag ≠ 0) (h : FOk P A.zhs 2 (zlt N A) [.var 3]) {s : List UInt8} (hs : s.length = 16) : ApF P A.zhs (.agg (s.map zam).toArray) s := by
 intro w lo v l ho hlo hb
 refine h.call rfl fun loc N' hlo' => ?_
 unfold zlt
 obtain ⟨w1, hw1⟩ : ∃ w1, w1 = w.alloc (.cells (Value.cells (.agg (s.map zam).toArray)) N.zag) := ⟨_, rfl⟩
 have m1 : Mod w w1 zw := by rw [hw1]; exact Mod.alloc _ _ _
 have s1 : w1.heap.size = w.heap.size + 1 := by rw [hw1]; exact zae _ _
 have r1 : w1.rangeAt w.heap.size 0 (s.map zam) := by rw [hw1]; exact zu w (s.map zam).toArray N.zag (0, 0)
 refine zf fun K hK => zn fun τ => ?_
 simp +decide only [bK, bE, Nat.reduceAdd]
 rw [← hw1]
 refine hK _ _ (zd fun σ1 hσ => ?_)
 have a0 := hσ 0
 have a2 := hσ 2
 simp +decide only [bE, Nat.reduceBeqDiff, BEq.rfl, Nat.reduceAdd, Nat.zero_add, zbm] at a0 a2
 clear hσ hK K
 obtain ⟨v', w', h1, h2, h3, h4⟩ := zee (ty := N.za) B (Own.stay m1 (fun _ _ _ h => h) ho) (src := .slice (some ⟨w.heap.size, 0, none⟩) 16 16) (s := s) (.inr ⟨w.heap.size, 0, 16, by rw [hs], by omega, r1⟩) (by omega) hb
 have e := fun {w : World} => zoy (w := w) (B.uuid hU) B.uint8 (ad := ⟨w1.heap.size - 1, 0, none⟩)
 have hm : w1.heap.size - 1 = w.heap.size := by omega
 rw [hm] at e
 refine zf fun K hK => zn fun τ => ?_
 simp +decide only [bK, bE, Nat.reduceBeqDiff, BEq.rfl, Nat.reduceAdd, Nat.zero_add, Option.map_none, a0, a2, Option.map_none, e, h1]
 refine hK _ _ (zd fun σ2 hσ => zbl ?_)
 have b3 := hσ 3
 simp +decide only [bE, BEq.rfl, Nat.reduceAdd] at b3
 exact ⟨.inr rfl, _, rfl, by rw [b3]; exact Apd.after m1 ⟨h2, h3, h4⟩⟩
theorem zwk (B : Base P N) (hU : FOk P A.zdf 2 (zdx N A) [.var 2]) (hI : FOk P A.zbi 2 (zew N A) [.var 2]) (h : FOk P A.zaw 3 (zeu N A) [.var 3]) (n : Nat) (b : Bool) : ApF2 P A.zaw (.int .i64 n) (.bool b) (zao false b n 4) := by
 intro w lo v l ho hlo hb
 refine h.call rfl fun loc N' hlo' => ?_
 unfold zeu
 refine zf fun K hK => zn fun τ => ?_
 simp +decide only [bK, Nat.reduceAdd]
 refine hK _ _ (zd fun σ1 hσ => ?_)
 have a0 := hσ 0
 have a1 := hσ 1
 have a2 := hσ 2
 simp +decide only [bE, Nat.reduceBeqDiff, Nat.reduceAdd, Nat.zero_add, zlw, zgt, zob] at a0 a1 a2
 clear hσ hK K
 refine zf fun K hK => zf fun K1 hK1 => zn fun τ => ?_
 simp +decide only [bK, bE, Nat.reduceAdd, a2]
 refine hK1 _ _ (zd fun σ2 hσ => ?_)
 have c0 := hσ 0
 have c1 := hσ 1
 have c4 := hσ 4
 simp +decide only [bE, Nat.reduceBeqDiff, BEq.rfl, Nat.reduceAdd, Nat.zero_add, a0, a1] at c0 c1 c4
 clear hσ hK1 K1
 refine W_if hlo' c4 ?_
 cases b with
 | true =>
  have e : zao false true n 4 = fixB (-1) 4 := by simp [zao]
  rw [e] at hb ⊢
  simp only [if_true]
  refine zf fun K2 hK2 => zn fun τ => ?_
  simp +decide only [bK, bE, Nat.reduceAdd, Nat.zero_add, c0]
  rw [zah hI.has]
  simp +decide only [bK, bE, BEq.rfl]
  refine (zoc B hU hI (-1) ho hlo hb).mono ?_
  intro v' w' h2
  refine hK2 _ _ (zd fun σ3 hσ => zbl ?_)
  have b3 := hσ 3
  simp +decide only [bE, BEq.rfl, Nat.reduceAdd] at b3
  exact ⟨.inr rfl, _, rfl, by rw [b3]; exact h2⟩
 | false =>
  have e : zao false false n 4 = fixB n 4 := by simp [zao]
  rw [e] at hb ⊢
  simp only [Bool.false_eq_true, if_false]
  refine zbv (hK _ _ ?_)
  refine zf fun K2 hK2 => zn fun τ => ?_
  simp +decide only [bK, bE, Nat.reduceBeqDiff, BEq.rfl, Nat.reduceAdd, Nat.zero_add, c0, c1, zax B.int B.int32 ⟨_, rfl⟩]
  rw [zah hI.has]
  simp +decide only [bK, bE, Nat.reduceBeqDiff, BEq.rfl]
  refine (zoc B hU hI (IntKind.i32.wrap n) ho hlo (by rw [zdr] at hb ⊢; exact hb)).mono ?_
  rw [ziv (k := 4) rfl]
  intro v' w' h2
  refine hK2 _ _ (zd fun σ3 hσ => zbl ?_)
  have b3 := hσ 3
  simp +decide only [bE, BEq.rfl, Nat.reduceAdd] at b3
  exact ⟨.inr rfl, _, rfl, by rw [b3]; exact h2⟩
theorem zuh (B : Base P N) (hU : UvT P N A) (h : FOk P A.zak 3 (zdc N A) [.var 3]) {n : Nat} (hn : n < 4294967295) (b : Bool) : ApF2 P A.zak (.int .i64 n) (.bool b) (zao true b n 4) := by
 intro w lo v l ho hlo hb
 refine h.call rfl fun loc N' hlo' => ?_
 unfold zdc
 refine zf fun K hK => zn fun τ => ?_
 simp +decide only [bK, Nat.reduceAdd]
 refine hK _ _ (zd fun σ1 hσ => ?_)
 have a0 := hσ 0
 have a1 := hσ 1
 have a2 := hσ 2
 simp +decide only [bE, Nat.reduceBeqDiff, Nat.reduceAdd, Nat.zero_add, zlw, zgt, zob] at a0 a1 a2
 clear hσ hK K
 refine zf fun K hK => zf fun K1 hK1 => zn fun τ => ?_
 simp +decide only [bK, bE, Nat.reduceAdd, a2]
 refine hK1 _ _ (zd fun σ2 hσ => ?_)
 have c0 := hσ 0
 have c1 := hσ 1
 have c4 := hσ 4
 simp +decide only [bE, Nat.reduceBeqDiff, BEq.rfl, Nat.reduceAdd, Nat.zero_add, a0, a1] at c0 c1 c4
 clear hσ hK1 K1
 refine W_if hlo' c4 ?_
 cases b with
 | true =>
  have e : zao true true n 4 = uvB 0 := by rw [zfl (by decide)]; simp [zao]
  rw [e] at hb ⊢
  simp only [if_true]
  refine zf fun K2 hK2 => zn fun τ => ?_
  simp +decide only [bK, bE, Nat.reduceAdd, Nat.zero_add, c0]
  rw [zah hU.uv.has]
  simp +decide only [bK, bE, BEq.rfl]
  refine (zuf B hU (n := 0) (by decide) ho hlo hb).mono ?_
  intro v' w' h2
  refine hK2 _ _ (zd fun σ3 hσ => zbl ?_)
  have b3 := hσ 3
  simp +decide only [bE, BEq.rfl, Nat.reduceAdd] at b3
  exact ⟨.inr rfl, _, rfl, by rw [b3]; exact h2⟩
 | false =>
  have e : zao true false n 4 = uvB (n + 1) := by simp [zao]
  rw [e] at hb ⊢
  simp only [Bool.false_eq_true, if_false]
  refine zbv (hK _ _ ?_)
  refine zf fun K2 hK2 => zn fun τ => ?_
  simp +decide only [bK, bE, Nat.reduceBeqDiff, BEq.rfl, Nat.reduceAdd, Nat.zero_add, c0, c1, zax B.int B.uint32 ⟨_, rfl⟩, zpq hn]
  rw [zah hU.uv.has]
  simp +decide only [bK, bE, Nat.reduceBeqDiff, BEq.rfl]
  refine (zuf B hU (n := n + 1) (by omega) ho hlo hb).mono ?_
  intro v' w' h2
  refine hK2 _ _ (zd fun σ3 hσ => zbl ?_)
  have b3 := hσ 3
  simp +decide only [bE, BEq.rfl, Nat.reduceAdd] at b3
  exact ⟨.inr rfl, _, rfl, by rw [b3]; exact h2⟩
end
section
variable {P : Program} {N : Nums} {A : zck}
structure JB (bB lo0 s0 lo : Nat) (v : Value) (l : List UInt8) (w : World) : Prop where
 cell : w.cell? ⟨bB, 0, none⟩ = some v
 th : w.there bB 0 1
 own : OwnB w lo0 v l
 nb : zaj v bB
 bk : ∀ k, ¬ zaj v k → k < s0 ∨ lo ≤ k
def JM (lo0 s0 lo : Nat) : Nat → Nat → Prop := fun k _ => (lo0 ≤ k ∧ k < s0) ∨ lo ≤ k
theorem Own.one1 {w : World} {lo : Nat} {v : Value} {l : List UInt8} (ho : OwnB w lo v l) : v.oneCell' = true := by
 rcases ho with ⟨e, _⟩ | ⟨b, c, e, _⟩ <;> rw [e] <;> rfl
theorem JB.step {bB lo0 s0 lo : Nat} {v v1 : Value} {l s : List UInt8} {w w1 : World} (h : JB bB lo0 s0 lo v l w) (hb : lo0 ≤ bB ∧ bB < s0) (hlo : s0 ≤ lo ∧ lo ≤ w.heap.size) (ha : Apd w lo0 v l s v1 w1) :
  JB bB lo0 s0 lo v1 (l ++ s) (w1.setCell ⟨bB, 0, none⟩ v1) ∧ Mod w (w1.setCell ⟨bB, 0, none⟩ v1) (JM lo0 s0 lo) := by
 have hbw : bB < w.heap.size := by omega
 have hb1 : bB < w1.heap.size := Nat.lt_of_lt_of_le hbw ha.mod.size
 have nb1 : zaj v1 bB := ha.keep _ hbw h.nb
 have th1 : w1.there bB 0 1 := ha.mod.there hbw h.th
 have ms : Mod w1 (w1.setCell ⟨bB, 0, none⟩ v1) (rng bB 0 1) := Mod.setCell fun _ => ⟨rfl, Nat.le_refl _, by omega⟩
 have hc1 : w1.cell? ⟨bB, 0, none⟩ = some v := by rw [ha.mod.cell _ _ hbw (fun hn => hn h.nb)]; exact h.cell
 have bk1 : ∀ k, ¬ zaj v1 k → k < s0 ∨ lo ≤ k := fun k hk => by
  by_cases hkw : k < w.heap.size
  ·exact h.bk k fun hn => hk (ha.keep k hkw hn)
  ·right; omega
 refine ⟨⟨World.cell?_setCell_same _ _ _ hc1, ms.there hb1 th1, Own.stay ms (fun k o hk hr => hk (by rw [hr.1]; exact nb1)) ha.own, nb1, bk1⟩, ?_⟩
 refine ha.mod.trans ms fun k o _ hh => ?_
 rcases hh with hh | hh
 ·have h1 := (h.own.blk hh).1
  rcases h.bk k hh with h2 | h2
  ·exact .inl ⟨h1, h2⟩
  ·exact .inr h2
 ·rw [hh.1]; exact .inl hb
def JI (bB lo0 s0 : Nat) (d : List UInt8) (lo : Nat) (done : List (Nat × List UInt8)) (w : World) : Prop := ∃ v, JB bB lo0 s0 lo v (d ++ done.flatMap tagW) w
theorem each_cb (B : Base P N) (hU : UvT P N A) (hF : FOk P A.zcg 3 (zdq N A) []) {bB lo0 s0 lo : Nat} {d : List UInt8} {G : Nat → Prop} {S : List (Nat × List UInt8)} (hb : lo0 ≤ bB ∧ bB < s0) (hlo0 : s0 ≤ lo) (hG : ∀ k, G k → k < lo0)
  (hS : ∀ x ∈ S, x.1 < 4294967296 ∧ x.2.length < 4294967296) (hbig : d.length + (S.flatMap tagW).length < 1099511627776) :
  CbOk P A.zcg (.pointer (some ⟨bB, 0, none⟩)) lo G (fun k _ => lo0 ≤ k ∧ k < s0) (JI bB lo0 s0 d) S := by
 rintro j x w v hx ⟨vd, hJ⟩ hlo htv
 have hxS := hS x (List.mem_of_getElem? hx)
 have hlen : (d ++ (S.take j).flatMap tagW).length + ((uvB x.1).length + ((uvB x.2.length).length + x.2.length)) < 1099511627776 := by
  have h1 : S = S.take j ++ x :: S.drop (j + 1) := by
   have hj := (List.getElem?_eq_some_iff.1 hx)
   obtain ⟨hj1, hj2⟩ := hj
   rw [← hj2, List.getElem_cons_drop, List.take_append_drop]
  have h2 : (S.flatMap tagW).length = ((S.take j).flatMap tagW).length + ((tagW x).length + ((S.drop (j + 1)).flatMap tagW).length) := by
   conv => lhs; rw [h1]
   rw [List.flatMap_append, List.flatMap_cons, List.length_append, List.length_append]
  have h3 : (tagW x).length = (uvB x.1).length + ((uvB x.2.length).length + x.2.length) := by simp [tagW]
  rw [List.length_append]; omega
 have htk : (S.take (j + 1)).flatMap tagW = (S.take j).flatMap tagW ++ tagW x := by
  rw [List.take_add_one, hx]; simp
 refine hF.call rfl fun loc N' hloc => ?_
 unfold zdq
 obtain ⟨σ, hσ⟩ : ∃ σ, σ = zef #[.int .u32 x.1, v, .pointer (some ⟨bB, 0, none⟩)] := ⟨_, rfl⟩
 have f0 : σ 0 = .int .u32 x.1 := by rw [hσ]; rfl
 have f1 : σ 1 = v := by rw [hσ]; rfl
 have f2 : σ 2 = .pointer (some ⟨bB, 0, none⟩) := by rw [hσ]; rfl
 rw [← hσ]
 clear hσ
 refine zf fun K hK => zn fun τ => ?_
 simp +decide only [bK, bE, Nat.reduceBeqDiff, Nat.reduceAdd, Nat.zero_add, f0, f2, B.Lu8.run_load1 rfl, hJ.cell]
 rw [zah hU.uv.has]
 simp +decide only [bK, bE, Nat.reduceBeqDiff, BEq.rfl, f2]
 refine (zuf B hU hxS.1 hJ.own (by omega) (by omega)).mono ?_
 intro v1 w1 a1
 obtain ⟨J1, M1⟩ := hJ.step hb ⟨hlo0, hlo⟩ a1
 have st1 := B.Lu8.run_store1 (w := w1) (b := bB) (o := 0) (v := v1) (Own.one1 a1.own) (a1.mod.there (by omega) hJ.th)
 simp +decide only [bK, st1]
 refine hK _ _ (zd fun σ1 hσ => ?_)
 have g1 := hσ 1
 have g2 := hσ 2
 simp +decide only [bE, Nat.reduceBeqDiff, Nat.reduceAdd, f1, f2] at g1 g2
 clear hσ hK K
 obtain ⟨w2, hw2⟩ : ∃ w2, w2 = w1.setCell ⟨bB, 0, none⟩ v1 := ⟨_, rfl⟩
 rw [← hw2] at J1 M1 ⊢
 have s2 := M1.size
 have hGM : ∀ k, G k → ∀ o, ¬ JM lo0 s0 lo k o := fun k hk o h => by
  have := hG k hk
  rcases h with h | h
  ·omega
  ·have : lo0 ≤ lo := by omega
   omega
 have hGw : ∀ k, G k → k < w.heap.size := fun k hk => by have := hG k hk; omega
 have htv2 : tagV w2 G v x.2 := htv.imp (fun h => ⟨h.1, h.2⟩) fun h => h.mod M1 fun k hk => ⟨hGw k hk, hGM k hk, hk⟩
 have hln : (Builtin.len_ #[N.za] N.ze #[v]).run P w2 = .ok (.int .i64 (x.2.length : Int)) w2 := by
  have := (tagV.octA htv2).argOct.run_len B (ty := N.ze)
  exact this
 have hcv : IntKind.u32.wrap (x.2.length : Int) = x.2.length := by
  have e : ∀ m : Int, IntKind.u32.wrap m = m % 4294967296 := fun m => by simp [IntKind.wrap, IntKind.signed, IntKind.bits]
  rw [e]; omega
 refine zf fun K hK => zn fun τ => ?_
 simp +decide only [bK, bE, Nat.reduceBeqDiff, BEq.rfl, Nat.reduceAdd, g1, g2, B.Lu8.run_load1 rfl, J1.cell, hln, zax B.int B.uint32 ⟨_, rfl⟩, hcv]
 rw [zah hU.uv.has]
 simp +decide only [bK, bE, Nat.reduceBeqDiff, BEq.rfl, g2]
 refine (zuf B hU hxS.2 J1.own (by omega) (by rw [List.length_append]; omega)).mono ?_
 intro v3 w3 a3
 obtain ⟨J3, M3⟩ := J1.step hb ⟨hlo0, by omega⟩ a3
 have st3 := B.Lu8.run_store1 (w := w3) (b := bB) (o := 0) (v := v3) (Own.one1 a3.own) (a3.mod.there (by omega) J1.th)
 simp +decide only [bK, st3]
 refine hK _ _ (zd fun σ3 hσ => ?_)
 have k1 := hσ 1
 have k2 := hσ 2
 simp +decide only [bE, Nat.reduceBeqDiff, Nat.reduceAdd, g1, g2] at k1 k2
 clear hσ hK K
 obtain ⟨w4, hw4⟩ : ∃ w4, w4 = w3.setCell ⟨bB, 0, none⟩ v3 := ⟨_, rfl⟩
 rw [← hw4] at J3 M3 ⊢
 have s4 := M3.size
 have htv4 : tagV w4 G v x.2 := htv2.imp (fun h => ⟨h.1, h.2⟩) fun h => h.mod M3 fun k hk => ⟨by have := hGw k hk; omega, hGM k hk, hk⟩
 obtain ⟨v5, w5, h5, o5, m5, kp5⟩ := zee (ty := N.za) B J3.own (tagV.octA htv4) (by omega) (by rw [List.length_append, List.length_append]; omega)
 have a5 : Apd w4 lo0 v3 _ x.2 v5 w5 := ⟨o5, m5, kp5⟩
 obtain ⟨J5, M5⟩ := J3.step hb ⟨hlo0, by omega⟩ a5
 have st5 := B.Lu8.run_store1 (w := w5) (b := bB) (o := 0) (v := v5) (Own.one1 a5.own) (a5.mod.there (by omega) J3.th)
 refine zn fun τ => ?_
 simp +decide only [bK, bE, Nat.reduceBeqDiff, BEq.rfl, Nat.reduceAdd, k1, k2, B.Lu8.run_load1 rfl, J3.cell, h5, st5]
 refine zd fun σ5 hσ => ⟨.inl rfl, .tuple #[], rfl, ⟨v5, ?_⟩, ?_⟩
 ·rw [htk]
  have e : d ++ ((S.take j).flatMap tagW ++ tagW x) = d ++ (S.take j).flatMap tagW ++ uvB x.1 ++ uvB x.2.length ++ x.2 := by simp [tagW, List.append_assoc]
  rw [e]; exact J5
 ·exact (M1.trans (M3.trans M5 fun _ _ _ h => h.elim id id) fun _ _ _ h => h.elim id id).mono fun k o _ h => h
structure EachN (P : Program) (N : Nums) : Prop where
 each : N.zgk ≠ 0
 tags : N.zcq ≠ 0
 lu : LU P N
 so : SortOk P N
theorem ap_Each (B : Base P N) (F : Fns P N) (hN : EachN P N) (hU : UvT P N A) (hF1 : FOk P A.zcg 3 (zdq N A) []) (hF : FOk P A.zek 2 (zfj N A) [.var 3])
  {w : World} {b o lo0 : Nat} {v d : Value} {G : Nat → Prop} {u : List (Nat × List UInt8)} {l : List UInt8} (hc : w.cell? ⟨b, o, none⟩ = some v) (hb : b < lo0) (hG : ∀ k, G k → k < lo0) (ht : zoe w G v u) (hul : u.length < 1099511627776) (hx : ∀ x ∈ u, x.2.length < 4294967296)
  (ho : OwnB w lo0 d l) (hlo : lo0 ≤ w.heap.size) (hbig : l.length + ((zdd u).flatMap tagW).length < 1099511627776) :
  Call P A.zek #[.pointer (some ⟨b, o, none⟩), d] w fun v' w' => OwnB w' lo0 v' (l ++ (zdd u).flatMap tagW) ∧ Mod w w' (fun k _ => lo0 ≤ k) := by
 refine hF.call rfl fun loc N' hloc => ?_
 unfold zfj
 have hone : d.oneCell' = true := Own.one1 ho
 obtain ⟨w1, hw1⟩ : ∃ w1, w1 = w.alloc (.cells d.cells N.za) := ⟨_, rfl⟩
 have m1 : Mod w w1 zw := by rw [hw1]; exact Mod.alloc _ _ _
 have s1 : w1.heap.size = w.heap.size + 1 := by rw [hw1]; exact zae _ _
 have r1 : w1.rangeAt w.heap.size 0 [d] := by
  rw [hw1, zcn hone]; exact zu w [d].toArray N.za (0, 0)
 have t1 : w1.there w.heap.size 0 1 := by
  rw [hw1, zcn hone]; exact zbe w [d].toArray N.za
 refine zf fun K hK => zn fun τ => ?_
 simp +decide only [bK, bE, Nat.reduceAdd]
 rw [← hw1]
 refine hK _ _ (zd fun σ1 hσ => ?_)
 have a0 := hσ 0
 have a2 := hσ 2
 simp +decide only [bE, Nat.reduceBeqDiff, BEq.rfl, Nat.reduceAdd, Nat.zero_add, zbm] at a0 a2
 clear hσ hK K
 obtain ⟨bB, hbB⟩ : ∃ b, b = w.heap.size := ⟨_, rfl⟩
 rw [← hbB] at r1 t1 s1 a2 hlo
 have hcw : b < w.heap.size := zfc (by rw [hc]; rfl)
 have hc1 : w1.cell? ⟨b, o, none⟩ = some v := by rw [m1.cell _ _ hcw (fun h => h)]; exact hc
 have hGw : ∀ k, G k → k < w.heap.size := fun k hk => by have := hG k hk; omega
 have ht1 : zoe w1 G v u := ht.mod m1 fun k hk => ⟨hGw k hk, fun _ h => h, hk⟩
 have hkey : ∀ x ∈ u, x.1 < 4294967296 := by
  rcases ht with ⟨_, h⟩ | ⟨_, _, _, _, _, _, _, _, _, _, h⟩
  ·rw [h]; intro x hx; cases hx
  ·exact h
 have hmem : ∀ x ∈ zdd u, x ∈ u := fun x h => (zih u).mem_iff.1 h
 have hEach := call_Each B F hN.each hN.tags hN.lu hN.so (f := A.zcg) (cap := .pointer (some ⟨bB, 0, none⟩)) hc1 (fun k hk => by have := hGw k hk; omega) ht1 hF1.has hul (JI bB lo0 (bB + 1) l) (fun k _ => lo0 ≤ k ∧ k < bB + 1) (fun k o h => by omega) (fun h => by omega) (fun k hk o h => by have := hG k hk; omega)
  (fun w' m => ⟨d, by rw [m.cell _ _ (by omega) (fun h => h)]; exact r1 0 _ rfl, m.there (by omega) t1, by
   rw [List.flatMap_nil, List.append_nil]
   exact Own.stay (m1.trans' m) (fun _ _ _ h => h) ho, by
   by_cases hn : zaj d bB
   ·exact hn
   ·have := (ho.blk hn).2; omega, fun k hk => .inl (by have := (ho.blk hk).2; omega)⟩)
  (fun lo hlo2 => each_cb B hU hF1 (by omega) (by omega) hG (fun x h => ⟨hkey x (hmem x h), hx x (hmem x h)⟩) hbig)
 refine zf fun K hK => zn fun τ => ?_
 have e5 : ∀ ρ : Env, ρ 102 = .pointer (some ⟨bB, 0, none⟩) → (#[V 2] : Array Operand).map (ev ρ) = #[.pointer (some ⟨bB, 0, none⟩)] := fun ρ h => by simp [h]
 have e4 : ∀ ρ : Env, (#[] : Array Operand).map (ev ρ) = #[] := fun ρ => by simp
 simp +decide only [bK, bE, Nat.zero_add, a0, zne, zsf]
 rw [zah (F.PTags_Each hN.each).1.has]
 simp +decide only [bK, bE, Nat.reduceBeqDiff, BEq.rfl, e4]
 rw [e5 _ (by simp +decide only [bE, Nat.reduceBeqDiff, a2])]
 refine Call.mono (Rt' := _) hEach ?_
 rintro _ w5 ⟨lo, hlo1, hlo2, ⟨v5, J5⟩, m5⟩
 refine zd (K := fun σ' w' => zgw K _ .normal σ' w') fun σ5 hσ => hK _ _ ?_
 have u2 := hσ 2
 simp +decide only [bE, Nat.reduceBeqDiff, Nat.reduceAdd, a2] at u2
 clear hσ hK K hEach
 refine zf fun K hK => zn fun τ => ?_
 simp +decide only [bK, bE, BEq.rfl, Nat.reduceAdd, u2, B.Lu8.run_load1 rfl, J5.cell]
 refine hK _ _ (zd fun σ6 hσ => zbl ?_)
 have b3 := hσ 3
 simp +decide only [bE, BEq.rfl, Nat.reduceAdd] at b3
 exact ⟨.inr rfl, _, rfl, by rw [b3]; exact J5.own, m1.trans m5 fun k _ hk h => h.elim False.elim fun h => h.1⟩
end
theorem zbj.size {w : World} {G : Nat → Prop} : ∀ {l : List (Nat × List UInt8)} {es : List MapEntry}, zbj w G l es → es.length = l.length
 | [], es, h => by simp only [zbj] at h; subst h; rfl
 | (k, x) :: l, es, ⟨v, b, rest, h1, h2, h3⟩ => by subst h1; simp [zbj.size h3]
section
variable {P : Program} {N : Nums} {A : zck}
theorem zvy (B : Base P N) (hT : N.zcq ≠ 0) (hF : FOk P A.ziz 1 (zkt N A) [.var 1]) {w : World} {b o : Nat} {v : Value} {G : Nat → Prop} {u : List (Nat × List UInt8)} (hc : w.cell? ⟨b, o, none⟩ = some v) (ht : zoe w G v u) :
  Call P A.ziz #[.pointer (some ⟨b, o, none⟩)] w fun r w' => r = .int .i64 u.length ∧ w = w' := by
 obtain ⟨_, hHF, hmt⟩ := B.tags hT
 refine hF.call rfl fun loc N' hloc => ?_
 unfold zkt
 refine zf fun K hK => zn fun τ => ?_
 simp +decide only [bK, Nat.reduceAdd]
 refine hK _ _ (zd fun σ1 hσ => ?_)
 have a0 := hσ 0
 simp +decide only [bE, Nat.reduceBeqDiff, Nat.zero_add, zkj] at a0
 clear hσ hK K
 have hln : (Builtin.len_ #[N.zz] N.ze #[v]).run P w = .ok (.int .i64 (u.length : Int)) w := by
  rcases ht with ⟨rfl, hl⟩ | ⟨mr, es, ck, rfl, hGm, hmap, hborn, hbnd, hent, hknd, hkb⟩
  ·rw [hl]; exact zqi hmt.und
  ·have := zoh (P := P) hmt.und (ty := N.ze) hmap
   rw [this]
   have e := hent.size
   rw [Array.length_toList] at e
   rw [e]
 refine zf fun K hK => zn fun τ => ?_
 simp +decide only [bK, bE, BEq.rfl, Nat.reduceAdd, Nat.zero_add, a0]
 rw [zat rfl]
 simp +decide only [bK, bE, BEq.rfl, Nat.add_zero, hHF.run, Nat.add_zero, hmt.run_load1 rfl, hc, hln]
 refine hK _ _ (zd fun σ2 hσ => zbl ?_)
 have b1 := hσ 1
 simp +decide only [bE, BEq.rfl, Nat.reduceAdd] at b1
 exact ⟨.inr rfl, _, rfl, by rw [b1], rfl⟩
end
section
variable {P : Program} {N : Nums} {A : zck}
def PtrAt (w : World) (c : Value) (o : Option (List UInt8)) : Prop := ∃ m : Option Addr, c = .pointer m ∧ m.isNone = o.isNone ∧ ∀ l, o = some l → ∃ b, m = some ⟨b, 0, none⟩ ∧ w.cell? ⟨b, 0, none⟩ = some (strV l)
theorem ztp {w : World} {G : Nat → Prop} {o : Option (List UInt8)} {c : Value} (h : Rep w G (.nstr o) [c]) : PtrAt w c o := by
 cases o with
 | none =>
  have h : [c] = [.pointer none] := by simpa only [Rep] using h
  injection h with h _
  exact ⟨none, h, rfl, fun l e => by cases e⟩
 | some l =>
  simp only [Rep] at h
  obtain ⟨b, e, g, hr⟩ := h
  injection e with e _
  exact ⟨_, e, rfl, fun l' e' => by cases e'; exact ⟨b, rfl, hr 0 _ rfl⟩⟩
theorem counted_n2 : zao false true 0 2 = fixB (-1) 2 := by simp [zao]
theorem zsr (n : Nat) : zao false false n 2 = fixB n 2 := by simp [zao]
theorem zsq (n : Nat) : zao false false n 4 = fixB n 4 := by simp [zao]
theorem counted_nc (k : Nat) : zao true true 0 k = uvB 0 := by rw [uvB]; simp [zao]
theorem zmf (n k : Nat) : zao true false n k = uvB (n + 1) := by simp [zao]
theorem zov (B : Base P N) (hP : N.zay ≠ 0) (hU : FOk P A.zdg 2 (zep N A) [.var 2]) (hI : FOk P A.zbx 2 (zfr N A) [.var 2]) (hS : FOk P A.zdw 2 (zhk N A) [.var 2]) (h : FOk P A.zda 2 (zfd N A) [.var 2])
  {w : World} {lo : Nat} {d c : Value} {l : List UInt8} {o : Option (List UInt8)} (hp : PtrAt w c o) (hs : (o.getD []).length < 4294967295) (ho : OwnB w lo d l) (hlo : lo ≤ w.heap.size) (hb : l.length + (Txt.nstr.wr false (.nstr o)).length < 1099511627776) :
  Call P A.zda #[d, c] w (Apd w lo d l (Txt.nstr.wr false (.nstr o))) := by
 obtain ⟨m, rfl, hm, hsome⟩ := hp
 refine h.call rfl fun loc N' hlo' => ?_
 unfold zfd
 refine zf fun K hK => zn fun τ => ?_
 simp +decide only [bK, Nat.reduceAdd]
 refine hK _ _ (zd fun σ1 hσ => ?_)
 have a0 := hσ 0
 have a1 := hσ 1
 simp +decide only [bE, Nat.reduceBeqDiff, Nat.reduceAdd, Nat.zero_add, zbm, zcc] at a0 a1
 clear hσ hK K
 refine zf fun K hK => zf fun K1 hK1 => zn fun τ => ?_
 simp +decide only [bK, bE, BEq.rfl, Nat.reduceAdd, a1, run_eqlP (B.pstring hP).und]
 refine hK1 _ _ (zd fun σ2 hσ => ?_)
 have c0 := hσ 0
 have c1 := hσ 1
 have c3 := hσ 3
 simp +decide only [bE, Nat.reduceBeqDiff, BEq.rfl, Nat.reduceAdd, Nat.zero_add, a0, a1] at c0 c1 c3
 clear hσ hK1 K1
 refine W_if hlo' c3 ?_
 cases o with
 | none =>
  rw [if_pos (by rw [hm]; rfl)]
  have e : Txt.nstr.wr false (.nstr none) = fixB (-1) 2 := by rw [Txt.wr, counted_n2]
  rw [e] at hb ⊢
  refine zf fun K2 hK2 => zn fun τ => ?_
  simp +decide only [bK, bE, Nat.reduceAdd, Nat.zero_add, c0]
  rw [zah hI.has]
  simp +decide only [bK, bE, BEq.rfl]
  refine (zug B hU hI (-1) ho hlo hb).mono ?_
  intro v' w' h2
  refine hK2 _ _ (zd fun σ3 hσ => zbl ?_)
  have b3 := hσ 2
  simp +decide only [bE, BEq.rfl, Nat.reduceAdd] at b3
  exact ⟨.inr rfl, _, rfl, by rw [b3]; exact h2⟩
 | some s =>
  rw [if_neg (by rw [hm]; simp)]
  refine zbv (hK _ _ ?_)
  obtain ⟨b, rfl, hcell⟩ := hsome s rfl
  have e : Txt.nstr.wr false (.nstr (some s)) = fixB s.length 2 ++ s := by rw [Txt.wr, zsr]
  rw [e] at hb ⊢
  refine zf fun K2 hK2 => zn fun τ => ?_
  simp +decide only [bK, bE, Nat.reduceBeqDiff, Nat.reduceAdd, Nat.zero_add, c0, c1]
  rw [zat rfl]
  simp +decide only [bK, bE, BEq.rfl, B.string.run_load1 rfl, hcell]
  rw [zah hS.has]
  simp +decide only [bK, bE, Nat.reduceBeqDiff, BEq.rfl]
  refine (zwj B hU hI hS s hs ho hlo hb).mono ?_
  intro v' w' h2
  refine hK2 _ _ (zd fun σ3 hσ => zbl ?_)
  have b3 := hσ 2
  simp +decide only [bE, BEq.rfl, Nat.reduceAdd] at b3
  exact ⟨.inr rfl, _, rfl, by rw [b3]; exact h2⟩
theorem zod (B : Base P N) (hP : N.zay ≠ 0) (hU : UvT P N A) (hS : FOk P A.zbs 2 (zem N A) [.var 2]) (h : FOk P A.zbu 2 (zdo N A) [.var 2])
  {w : World} {lo : Nat} {d c : Value} {l : List UInt8} {o : Option (List UInt8)} (hp : PtrAt w c o) (hs : (o.getD []).length < 4294967295) (ho : OwnB w lo d l) (hlo : lo ≤ w.heap.size) (hb : l.length + (Txt.nstr.wr true (.nstr o)).length < 1099511627776) :
  Call P A.zbu #[d, c] w (Apd w lo d l (Txt.nstr.wr true (.nstr o))) := by
 obtain ⟨m, rfl, hm, hsome⟩ := hp
 refine h.call rfl fun loc N' hlo' => ?_
 unfold zdo
 refine zf fun K hK => zn fun τ => ?_
 simp +decide only [bK, Nat.reduceAdd]
 refine hK _ _ (zd fun σ1 hσ => ?_)
 have a0 := hσ 0
 have a1 := hσ 1
 simp +decide only [bE, Nat.reduceBeqDiff, Nat.reduceAdd, Nat.zero_add, zbm, zcc] at a0 a1
 clear hσ hK K
 refine zf fun K hK => zf fun K1 hK1 => zn fun τ => ?_
 simp +decide only [bK, bE, BEq.rfl, Nat.reduceAdd, a1, run_eqlP (B.pstring hP).und]
 refine hK1 _ _ (zd fun σ2 hσ => ?_)
 have c0 := hσ 0
 have c1 := hσ 1
 have c3 := hσ 3
 simp +decide only [bE, Nat.reduceBeqDiff, BEq.rfl, Nat.reduceAdd, Nat.zero_add, a0, a1] at c0 c1 c3
 clear hσ hK1 K1
 refine W_if hlo' c3 ?_
 cases o with
 | none =>
  rw [if_pos (by rw [hm]; rfl)]
  have e : Txt.nstr.wr true (.nstr none) = uvB 0 := by rw [Txt.wr, counted_nc]
  rw [e] at hb ⊢
  refine zf fun K2 hK2 => zn fun τ => ?_
  simp +decide only [bK, bE, Nat.reduceAdd, Nat.zero_add, c0]
  rw [zah hU.uv.has]
  simp +decide only [bK, bE, BEq.rfl]
  refine (zuf B hU (n := 0) (by omega) ho hlo hb).mono ?_
  intro v' w' h2
  refine hK2 _ _ (zd fun σ3 hσ => zbl ?_)
  have b3 := hσ 2
  simp +decide only [bE, BEq.rfl, Nat.reduceAdd] at b3
  exact ⟨.inr rfl, _, rfl, by rw [b3]; exact h2⟩
 | some s =>
  rw [if_neg (by rw [hm]; simp)]
  refine zbv (hK _ _ ?_)
  obtain ⟨b, rfl, hcell⟩ := hsome s rfl
  have e : Txt.nstr.wr true (.nstr (some s)) = uvB (s.length + 1) ++ s := by rw [Txt.wr, zmf]
  rw [e] at hb ⊢
  refine zf fun K2 hK2 => zn fun τ => ?_
  simp +decide only [bK, bE, Nat.reduceBeqDiff, Nat.reduceAdd, Nat.zero_add, c0, c1]
  rw [zat rfl]
  simp +decide only [bK, bE, BEq.rfl, B.string.run_load1 rfl, hcell]
  rw [zah hS.has]
  simp +decide only [bK, bE, Nat.reduceBeqDiff, BEq.rfl]
  refine (zkz B hU hS s hs ho hlo hb).mono ?_
  intro v' w' h2
  refine hK2 _ _ (zd fun σ3 hσ => zbl ?_)
  have b3 := hσ 2
  simp +decide only [bE, BEq.rfl, Nat.reduceAdd] at b3
  exact ⟨.inr rfl, _, rfl, by rw [b3]; exact h2⟩
theorem fixB8 (n : Int) : [u8of (n.fdiv (2 ^ min 56 IntKind.u64.bits)), u8of (n.fdiv (2 ^ min 48 IntKind.u64.bits)), u8of (n.fdiv (2 ^ min 40 IntKind.u64.bits)), u8of (n.fdiv (2 ^ min 32 IntKind.u64.bits)), u8of (n.fdiv (2 ^ min 24 IntKind.u64.bits)), u8of (n.fdiv (2 ^ min 16 IntKind.u64.bits)), u8of (n.fdiv (2 ^ min 8 IntKind.u64.bits)), u8of n] = fixB n 8 := by
 have e : n.fdiv 1 = n := Int.fdiv_one n
 simp only [fixB, u8of, Nat.mul_zero, Int.pow_zero, e]
 rfl
theorem ap_uint64 (B : Base P N) (h : FOk P A.zfz 2 (zhj N A) [.var 2]) (n : Int) : ApF P A.zfz (.int .u64 n) (fixB n 8) := by
 intro w lo v l ho hlo hb
 refine h.call rfl fun loc N' hlo' => ?_
 unfold zhj
 refine zf fun K hK => zn fun τ => ?_
 simp +decide only [bK, Nat.reduceAdd]
 refine hK _ _ (zd fun σ1 hσ => ?_)
 have a0 := hσ 0
 have a1 := hσ 1
 simp +decide only [bE, Nat.reduceBeqDiff, Nat.reduceAdd, Nat.zero_add, zbm, zcc] at a0 a1
 clear hσ hK K
 have e6 : ∀ ρ : Env, (#[(0, T 3), (1, T 6), (2, T 9), (3, T 12), (4, T 15), (5, T 18), (6, T 21), (7, T 23)] : Array (Nat × Operand)).map (fun p => (p.1, ev ρ p.2)) = #[(0, ρ 3), (1, ρ 6), (2, ρ 9), (3, ρ 12), (4, ρ 15), (5, ρ 18), (6, ρ 21), (7, ρ 23)] := fun ρ => by simp
 obtain ⟨v', w', h1, h2⟩ := zir (ty := N.za) (s := [u8of (n.fdiv (2 ^ min 56 IntKind.u64.bits)), u8of (n.fdiv (2 ^ min 48 IntKind.u64.bits)), u8of (n.fdiv (2 ^ min 40 IntKind.u64.bits)), u8of (n.fdiv (2 ^ min 32 IntKind.u64.bits)), u8of (n.fdiv (2 ^ min 24 IntKind.u64.bits)), u8of (n.fdiv (2 ^ min 16 IntKind.u64.bits)), u8of (n.fdiv (2 ^ min 8 IntKind.u64.bits)), u8of n]) B ho hlo hb
 have h1 : (Builtin.append_ #[N.za, N.za] N.za #[v, .slice (some ⟨w.heap.size, 0, none⟩) 8 8]).run P (w.alloc (.cells ([u8of (n.fdiv (2 ^ min 56 IntKind.u64.bits)), u8of (n.fdiv (2 ^ min 48 IntKind.u64.bits)), u8of (n.fdiv (2 ^ min 40 IntKind.u64.bits)), u8of (n.fdiv (2 ^ min 32 IntKind.u64.bits)), u8of (n.fdiv (2 ^ min 24 IntKind.u64.bits)), u8of (n.fdiv (2 ^ min 16 IntKind.u64.bits)), u8of (n.fdiv (2 ^ min 8 IntKind.u64.bits)), u8of n].map zam).toArray N.zk)) = .ok v' w' := h1
 refine zf fun K hK => zn fun τ => ?_
 simp +decide only [bK, bE, Nat.reduceBeqDiff, BEq.rfl, Nat.reduceAdd, Int.reduceToNat, Nat.zero_add, a0, a1, e6, zdm (show (0 : Int) ≤ 56 by decide), zdm (show (0 : Int) ≤ 48 by decide), zdm (show (0 : Int) ≤ 40 by decide), zdm (show (0 : Int) ≤ 32 by decide), zdm (show (0 : Int) ≤ 24 by decide), zdm (show (0 : Int) ≤ 16 by decide), zdm (show (0 : Int) ≤ 8 by decide), zax B.uint64 B.uint8 ⟨_, rfl⟩, zqc, run_bsL8 B, h1]
 refine hK _ _ (zd fun σ2 hσ => zbl ?_)
 have b2 := hσ 2
 simp +decide only [bE, BEq.rfl, Nat.reduceAdd] at b2
 exact ⟨.inr rfl, _, rfl, by rw [b2, ← fixB8]; exact h2⟩
theorem ap_Int64 (B : Base P N) (hU : FOk P A.zfz 2 (zhj N A) [.var 2]) (h : FOk P A.zfp 2 (zkw N A) [.var 2]) (n : Int) : ApF P A.zfp (.int .i64 n) (fixB n 8) := by
 intro w lo v l ho hlo hb
 refine h.call rfl fun loc N' hlo' => ?_
 unfold zkw
 refine zf fun K hK => zn fun τ => ?_
 simp +decide only [bK, Nat.reduceAdd]
 refine hK _ _ (zd fun σ1 hσ => ?_)
 have a0 := hσ 0
 have a1 := hσ 1
 simp +decide only [bE, Nat.reduceBeqDiff, Nat.reduceAdd, Nat.zero_add, zbm, zcc] at a0 a1
 clear hσ hK K
 refine zf fun K hK => zn fun τ => ?_
 simp +decide only [bK, bE, Nat.reduceBeqDiff, BEq.rfl, Nat.reduceAdd, Nat.zero_add, a0, a1, zax B.int64 B.uint64 ⟨_, rfl⟩]
 rw [zah hU.has]
 simp +decide only [bK, bE, Nat.reduceBeqDiff, BEq.rfl]
 refine (ap_uint64 B hU (IntKind.u64.wrap n) ho hlo (by rw [zdr] at hb ⊢; exact hb)).mono ?_
 rw [ziv (k := 8) rfl]
 intro v' w' h2
 refine hK _ _ (zd fun σ2 hσ => zbl ?_)
 have b2 := hσ 2
 simp +decide only [bE, BEq.rfl, Nat.reduceAdd] at b2
 exact ⟨.inr rfl, _, rfl, by rw [b2]; exact h2⟩
end
end Go.Kf
