/- A part of the calculus by which the claim's proof goes: over any program and any numbering of its functions; no condition beyond those that each theorem names. -/
import Derived.ChangeArms
import Derived.Test.YtdlfgheckhmgiaaDoorWe
set_option linter.unusedSimpArgs false
set_option linter.unusedVariables false
namespace Go.Kf
open Go Go.RowKit
theorem zqc (flex : Bool) (v : Int) (f : Fld) (t : Tr) : ∀ (l : List Fld) (i : Nat), zcz flex v (l ++ [f]) i t = zcz flex v l i t ++ (if f.has v then zfb flex v f (atT t (i + l.length)) else [])
 | [], i => by simp [zcz]
 | g :: l, i => by
  rw [List.cons_append, zcz, zcz, zqc flex v f t l (i + 1), List.append_assoc, List.length_cons, show i + 1 + l.length = i + (l.length + 1) by omega]
theorem zlo (flex : Bool) (v : Int) (t : Tr) {fs : List Fld} {j : Nat} (hj : j < fs.length) : zcz flex v (fs.take (j + 1)) 0 t = zcz flex v (fs.take j) 0 t ++ (if fs[j].has v then zfb flex v fs[j] (atT t j) else []) := by
 rw [← List.take_append_getElem hj, zqc]
 simp [Nat.min_eq_left (Nat.le_of_lt hj)]
theorem zln (flex : Bool) (v : Int) (t : Tr) (fs : List Fld) : ∀ (n j : Nat), j + n = fs.length → (zcz flex v (fs.take j) 0 t).length ≤ (zcz flex v fs 0 t).length
 | 0, j, h => by rw [List.take_of_length_le (by omega)]; exact Nat.le_refl _
 | n + 1, j, h => by
  have h1 := zln flex v t fs n (j + 1) (by omega)
  rw [zlo flex v t (show j < fs.length by omega), List.length_append] at h1
  omega
def OkF (P : Program) (M : zcd) (flex : Bool) (v : Int) (f : Fld) : Prop := f.tag < 0 ∧ f.kind ≠ 10 ∧ (f.kind = 11 → f.of = 10 → zui P M flex v f.sub)
section
variable {P : Program} {N : Nums} {M : zcd}
structure PSt (w1 : World) (σ : Env) (w : World) (fv : Value) (v : Int) (flex : Bool) (b n j : Nat) (acc : List UInt8) : Prop where
 h0 : σ 0 = fv
 h1 : σ 1 = .int .i64 v
 h2 : σ 2 = .bool flex
 h4 : σ 4 = .pointer (some ⟨b, 0, none⟩)
 h6 : OwnB w w1.heap.size (σ 6) acc
 h7 : σ 7 = .slice none 0 0
 h8 : σ 8 = .int .i64 0
 h9 : σ 9 = fv
 h10 : σ 10 = .int .i64 n
 h11 : σ 11 = .int .i64 j
 le : j ≤ n
 mod : Mod w1 w zq
theorem PSt.upd {w1 w : World} {σ : Env} {fv : Value} {v : Int} {flex : Bool} {b n j : Nat} {acc : List UInt8} (h : PSt w1 σ w fv v flex b n j acc) {i : Nat} (hi : 12 ≤ i) (x : Value) : PSt w1 (upd σ i x) w fv v flex b n j acc := by
 obtain ⟨h0, h1, h2, h4, h6, h7, h8, h9, h10, h11, le, mod⟩ := h
 refine ⟨?_, ?_, ?_, ?_, ?_, ?_, ?_, ?_, ?_, ?_, le, mod⟩ <;> (rw [zh (by omega)]; assumption)
theorem PSt.next {w1 w : World} {σ : Env} {fv : Value} {v : Int} {flex : Bool} {b n j : Nat} {acc : List UInt8} (h : PSt w1 σ w fv v flex b n j acc) (hj : j < n) : PSt w1 (Go.Kf.upd σ 11 (.int .i64 ((j + 1 : Nat) : Int))) w fv v flex b n (j + 1) acc := by
 obtain ⟨h0, h1, h2, h4, h6, h7, h8, h9, h10, h11, le, mod⟩ := h
 refine ⟨?_, ?_, ?_, ?_, ?_, ?_, ?_, ?_, ?_, upd_same _ _ _, hj, mod⟩ <;> (rw [zh (by omega)]; assumption)
def dPart (N : Nums) (M : zcd) : C := .draw [
 ⟨some 0, .move (V 6), 0, none, []⟩,
 ⟨some 1, .load M.zf (V 13), 0, none, []⟩,
 ⟨some 2, .move (V 1), 0, none, []⟩,
 ⟨some 3, .move (V 2), 0, none, []⟩,
 ⟨some 4, .load N.zc (V 4), 0, none, []⟩,
 ⟨some 5, .move (V 14), 0, none, []⟩,
 ⟨some 6, .call ⟨.value (.func M.zgu), #[T 4, T 5], #[N.zc, N.zg]⟩, N.zc, none, [4, 5]⟩,
 ⟨some 7, .call ⟨.value (.func M.zhw), #[T 1, T 2, T 3, T 6], #[M.zf, N.zg, N.zae, N.zc]⟩, N.za, none, [1, 2, 3, 6, 6]⟩,
 ⟨some 8, .call ⟨.builtin .append, #[T 0, T 7], #[N.za, N.za]⟩, N.za, none, [0, 7, 7]⟩,
 ⟨some 106, .assign (T 8), 0, none, [8, 8, 0, 1, 2, 3, 4, 5, 6, 7, 8]⟩]
theorem W_dPart (B : Base P N) (S : SpT P N M) (hW : SW P N M) {loc : List Nat} {N' : Nat} {σ : Env} {w1 w : World} {fv : Value} {v : Int} {flex : Bool} {b b13 n j : Nat} {acc : List UInt8} {f : Fld} {t : Tr} {ct cf : List Value}
  (h : PSt w1 σ w fv v flex b n j acc) (hb : w1.rangeAt b 0 ct) (ht : RepA w1 t ct) (hwt : wfT t) (h13 : σ 13 = .pointer (some ⟨b13, 0, none⟩)) (h14 : σ 14 = .int .i64 j) (hb13 : w.rangeAt b13 0 cf) (hbl : b13 < w.heap.size) (hn13 : zar (σ 6) b13) (hf : RepF w f cf) (ok : OkF P M flex v f) (hbig : acc.length + (zfb flex v f (atT t j)).length < 549755813888) {Q : Exit → Env → World → Prop}
  (hQ : ∀ (σ' : Env) (w' : World), PSt w1 σ' w' fv v flex b n j (acc ++ zfb flex v f (atT t j)) → Q .normal σ' w') :
  W P loc N' (dPart N M) Q σ w := by
 obtain ⟨h0, h1, h2, h4, h6, h7, h8, h9, h10, h11, hle, m1w⟩ := h
 unfold dPart
 have cw : ∀ {w' : World}, Mod w w' (fun i _ => ¬ zar (σ 6) i) → Mod w1 w' zq := fun h => Mod.ofOwn h6 m1w h
 refine zsu B.mixed [true, true, true, true, true, true, false, false, false, false] (by kernel_rfl) (fun w' => Mod w w' (fun i _ => ¬ zar (σ 6) i)) (Mod.drew _ _) fun τ => ?_
 refine zb (σ 6) (fun w' _ => by
  rw [zan, ev_tmp]
  simp +decide only [bE, Nat.reduceAdd]) rfl ?_
 refine zb (.agg cf.toArray) (fun w' hw => zi (by
  simp +decide only [bE, Nat.reduceBeqDiff, Nat.reduceAdd, ev_tmp, h13]
  exact zjr S (hw.rangeAt hbl (fun _ _ _ h => h hn13) hb13) hf.len)) rfl ?_
 refine zb (.int .i64 v) (fun w' _ => by
  rw [zan, ev_tmp]
  simp +decide only [bE, Nat.reduceBeqDiff, Nat.reduceAdd, h1]) rfl ?_
 refine zb (.bool flex) (fun w' _ => by
  rw [zan, ev_tmp]
  simp +decide only [bE, Nat.reduceBeqDiff, Nat.reduceAdd, h2]) rfl ?_
 refine zb (.agg ct.toArray) (fun w' hw => zi (by
  simp +decide only [bE, Nat.reduceBeqDiff, Nat.reduceAdd, ev_tmp, h4]
  exact zcp S.tr (zj (cw hw) hb) ht.len)) rfl ?_
 refine zb (.int .i64 j) (fun w' _ => by
  rw [zan, ev_tmp]
  simp +decide only [bE, Nat.reduceBeqDiff, Nat.reduceAdd, h14]) rfl ?_
 simp only [zdf, zco, List.zip_cons_cons, List.zip_nil_right, List.zipWith_cons_cons, List.zipWith_nil_right, List.filter, Bool.not_true, Bool.not_false, List.map, zdg]
 have md : Mod w w.drew zq := Mod.drew _ _
 have m1d := m1w.trans' md
 rw [zbw hW.at_.has]
 simp +decide only [bK, bE, Nat.reduceBeqDiff, BEq.rfl]
 refine (zyt B S hW.at_ (RepA.stay m1d _ ht) j).mono ?_
 rintro _ w2 ⟨ct', rfl, ht', m2⟩
 have mw2 : Mod w w2 zq := md.trans' m2
 refine ⟨mw2.mono fun _ _ _ h => h.elim, ?_⟩
 rw [zim hW.field.has]
 simp +decide only [bK, bE, Nat.reduceBeqDiff, BEq.rfl]
 refine (sp_field B S hW ok.2.2 ok.2.1 (RepF.stay mw2 _ hf) ht' (hwt.at j) (by omega)).mono ?_
 rintro r w3 ⟨ho3, m3⟩
 have mw3 : Mod w w3 zq := mw2.trans' m3
 refine ⟨mw3.mono fun _ _ _ h => h.elim, ?_⟩
 obtain ⟨v4, w4, hap, ho4, m4, _⟩ := zgb (ty := N.za) B (h6.stay mw3 fun _ _ _ h => h) (ho3.octA) (Nat.le_trans m1w.size mw3.size) (by omega)
 have m04 : Mod w1 w4 zq := Mod.ofOwn (h6.stay mw3 fun _ _ _ h => h) (m1w.trans' mw3) m4
 simp +decide only [bK, hap]
 refine ⟨(mw3.mono fun _ _ _ h => h.elim).trans m4 fun k o hk h => h.elim id id, ?_⟩
 refine zd fun σ2 hσ => hQ σ2 w4 ?_
 have b0 := hσ 0
 have b1 := hσ 1
 have b2 := hσ 2
 have b4 := hσ 4
 have b6 := hσ 6
 have b7 := hσ 7
 have b8 := hσ 8
 have b9 := hσ 9
 have b10 := hσ 10
 have b11 := hσ 11
 simp +decide only [bE, Nat.reduceBeqDiff, BEq.rfl, Nat.reduceAdd, Nat.zero_add, h0, h1, h2, h4, h7, h8, h9, h10, h11] at b0 b1 b2 b4 b6 b7 b8 b9 b10 b11
 exact ⟨b0, b1, b2, b4, by rw [b6]; exact ho4, b7, b8, b9, b10, b11, hle, m04⟩
end
section
variable {P : Program} {N : Nums} {M : zcd}
def bPart (N : Nums) (M : zcd) : C :=
 .seq (.ops [
  ⟨some 0, .move (V 11), 0, none, []⟩,
  ⟨some 1, .indexAddr M.zac (V 9) (V 11), 0, none, []⟩,
  ⟨some 2, .load M.zf (T 1), 0, none, []⟩,
  ⟨some 113, .alloc M.zf, 0, none, []⟩,
  ⟨some 114, .assign (T 0), 0, none, []⟩,
  ⟨none, .store M.zf (V 13) (T 2), 0, none, []⟩])
 (.seq (.ops [
  ⟨some 0, .fieldAddr M.zf (V 13) 4, 0, none, []⟩,
  ⟨some 1, .load N.zg (T 0), 0, none, []⟩,
  ⟨some 2, .binOp .lss N.zg (T 1) (.const (.int .i64 0)) N.zg, 0, none, []⟩,
  ⟨some 3, .move (T 2), 0, none, []⟩,
  ⟨some 4, .load M.zf (V 13), 0, some (some 3, true), []⟩,
  ⟨some 5, .move (V 1), 0, some (some 3, true), []⟩,
  ⟨some 6, .call ⟨.value (.func M.zdx), #[T 4, T 5], #[M.zf, N.zg]⟩, N.zae, some (some 3, true), []⟩,
  ⟨some 115, .pick (T 3) (T 6) (.const (.bool false)), 0, none, []⟩])
 (.cond 15 (dPart N M) .skip))
theorem W_fields (B : Base P N) (S : SpT P N M) (hW : SW P N M) {loc : List Nat} {N' : Nat} (hlo : zfw loc N') {σ : Env} {w1 w : World} {fv : Value} {v : Int} {flex : Bool} {b : Nat} {fs : List Fld} {t : Tr} {ct : List Value}
  (h : PSt w1 σ w fv v flex b fs.length 0 []) (hb : w1.rangeAt b 0 ct) (ht : RepA w1 t ct) (hwt : wfT t) (hf : zfs w1 fv fs) (hl : fs.length < 4611686018427387904) (ok : ∀ f ∈ fs, OkF P M flex v f) (hbig : (zcz flex v fs 0 t).length < 549755813888) {Q : Exit → Env → World → Prop}
  (hQ : ∀ (σ' : Env) (w' : World), PSt w1 σ' w' fv v flex b fs.length fs.length (zcz flex v fs 0 t) → Q .normal σ' w') :
  W P loc N' (zsm N 11 10 12 0 (bPart N M)) Q σ w := by
 refine zfp (i := 11) (l := 10) (c := 12) (k := 0) hlo (L := fs.length) hl (fun j σ w' => PSt w1 σ w' fv v flex b fs.length j (zcz flex v (fs.take j) 0 t)) (fun j σ w h => ⟨h.h11, h.h10, h.le⟩) (fun j σ w b h => h.upd (by decide) _) (by simpa [zcz] using h) (fun σ' w' h => hQ σ' w' (by simpa using h)) (fun j σ' w' hj h => ?_)
 obtain ⟨bb, oo, cc, cs, w2, w3, hv, hr, hix, hld, hal, hst, m03, s3, r3⟩ := zvh S (hf.stay h.mod) hj
 have okj := ok _ (List.getElem_mem hj)
 have hbj : (zcz flex v (fs.take (j + 1)) 0 t).length < 549755813888 := Nat.lt_of_le_of_lt (zln flex v t fs (fs.length - (j + 1)) (j + 1) (by omega)) hbig
 rw [zlo flex v t hj] at hbj
 have n13 : zar (σ' 6) w'.heap.size := Classical.byContradiction fun hh => by have := (h.h6.blk hh).2; omega
 unfold bPart
 refine ze fun K hK => zx fun τ => ?_
 simp +decide only [bK, bE, Nat.reduceBeqDiff, BEq.rfl, Nat.reduceAdd, Nat.zero_add, h.h9, h.h11, hix, hld, hal, hst]
 refine hK _ _ (zd fun σ3 hσ => ?_)
 have p0 := hσ 0
 have p1 := hσ 1
 have p2 := hσ 2
 have p4 := hσ 4
 have p6 := hσ 6
 have p7 := hσ 7
 have p8 := hσ 8
 have p9 := hσ 9
 have p10 := hσ 10
 have p11 := hσ 11
 have p13 := hσ 13
 have p14 := hσ 14
 simp +decide only [bE, Nat.reduceBeqDiff, BEq.rfl, Nat.reduceAdd, Nat.zero_add, h.h0, h.h1, h.h2, h.h4, h.h7, h.h8, h.h9, h.h10, h.h11] at p0 p1 p2 p4 p6 p7 p8 p9 p10 p11 p13 p14
 have q : PSt w1 σ3 w3 fv v flex b fs.length j (zcz flex v (fs.take j) 0 t) := ⟨p0, p1, p2, p4, by rw [p6]; exact h.h6.stay m03 fun _ _ _ h => h, p7, p8, p9, p10, p11, h.le, h.mod.trans' m03⟩
 have n13' : zar (σ3 6) w'.heap.size := by rw [p6]; exact n13
 clear hσ hK K n13
 have hr3 := RepF.stay m03 _ hr
 obtain ⟨gv, hcs, hgv⟩ := hr3.out
 have h4c : w3.cell? ⟨w'.heap.size, 4, none⟩ = some (.int .i64 (fs[j]).tag) := r3 4 _ (by rw [hcs]; rfl)
 have hneg : (fs[j]).tag < 0 := okj.1
 refine ze fun K hK => zx fun τ => ?_
 simp +decide only [bK, bE, Nat.reduceBeqDiff, decide_true, BEq.rfl, Nat.reduceAdd, Nat.zero_add, p13, p1, S.f4.run, B.int.run_load1 rfl, h4c, hneg, zal, zjr S r3 hr.len]
 rw [zbw hW.Field_has.has]
 simp +decide only [bK, bE, Nat.reduceBeqDiff, BEq.rfl]
 refine (call_has B S hW.Field_has hr3 v).mono ?_
 rintro _ w4 ⟨rfl, m4⟩
 refine hK _ _ (zd fun σ4 hσ => ?_)
 have k0 := hσ 0
 have k1 := hσ 1
 have k2 := hσ 2
 have k4 := hσ 4
 have k6 := hσ 6
 have k7 := hσ 7
 have k8 := hσ 8
 have k9 := hσ 9
 have k10 := hσ 10
 have k11 := hσ 11
 have k13 := hσ 13
 have k14 := hσ 14
 have k15 := hσ 15
 simp +decide only [bE, Nat.reduceBeqDiff, BEq.rfl, Nat.reduceAdd, Nat.zero_add, p0, p1, p2, p4, p7, p8, p9, p10, p11, p13, p14] at k0 k1 k2 k4 k6 k7 k8 k9 k10 k11 k13 k14 k15
 have q4 : PSt w1 σ4 w4 fv v flex b fs.length j (zcz flex v (fs.take j) 0 t) := ⟨k0, k1, k2, k4, by rw [k6]; exact q.h6.stay m4 fun _ _ _ h => h, k7, k8, k9, k10, k11, h.le, q.mod.trans' m4⟩
 have n13 : zar (σ4 6) w'.heap.size := by rw [k6]; exact n13'
 have hb13 : w4.rangeAt w'.heap.size 0 cs := zj m4 r3
 have hlt : w'.heap.size < w4.heap.size := by have := m4.size; omega
 clear hσ hK K
 refine W_if hlo k15 ?_
 have hnext : ∀ {σ5 : Env} {w5 : World}, PSt w1 σ5 w5 fv v flex b fs.length j (zcz flex v (fs.take j) 0 t ++ (if fs[j].has v then zfb flex v fs[j] (atT t j) else [])) → σ5 11 = .int .i64 j ∧ PSt w1 (upd σ5 11 (.int .i64 ((j + 1 : Nat) : Int))) w5 fv v flex b fs.length (j + 1) (zcz flex v (fs.take (j + 1)) 0 t) := fun h5 => ⟨h5.h11, by rw [zlo flex v t hj]; exact h5.next hj⟩
 cases hh : fs[j].has v with
 | false =>
  simp only [Bool.false_eq_true, if_false]
  refine zaz (hnext ?_)
  rw [hh]; simpa using q4
 | true =>
  rw [hh] at hbj
  simp only [if_true] at hbj ⊢
  rw [List.length_append] at hbj
  refine W_dPart B S hW q4 hb ht hwt k13 k14 hb13 hlt n13 (RepF.stay m4 _ hr3) okj hbj fun σ5 w5 h5 => hnext ?_
  rw [hh]; simpa using h5
end
theorem zvf {k : Nat} {x : List UInt8} : ∀ {a : List (Nat × List UInt8)} {y : Nat × List UInt8}, y ∈ insT k x a → y = (k, x) ∨ y ∈ a
 | [], y, h => by simp [insT] at h; exact .inl h
 | (k', l) :: a, y, h => by
  rw [insT] at h
  split at h
  ·rcases List.mem_cons.1 h with rfl | h
   ·exact .inr (by simp)
   ·exact (zvf h).imp id fun h => List.mem_cons_of_mem _ h
  ·split at h
   ·exact .inr h
   ·rcases List.mem_cons.1 h with rfl | h
    ·exact .inl rfl
    ·exact .inr h
theorem fold_mem : ∀ (u a : List (Nat × List UInt8)) (y : Nat × List UInt8), y ∈ u.foldl (fun a x => insT x.1 x.2 a) a → y ∈ u ∨ y ∈ a
 | [], a, y, h => .inr h
 | x :: u, a, y, h => by
  rcases fold_mem u _ y h with h | h
  ·exact .inl (List.mem_cons_of_mem _ h)
  ·rcases zvf h with rfl | h
   ·exact .inl (by simp)
   ·exact .inr h
theorem zul {u : List (Nat × List UInt8)} {y : Nat × List UInt8} (h : y ∈ unkT u) : y ∈ u := by
 rcases fold_mem _ _ _ h with h | h
 ·exact List.mem_of_mem_take h
 ·cases h
theorem zqq (u : List (Nat × List UInt8)) : (unkT u).length ≤ 32767 := by
 have := zvg (u.take most) []
 simp only [List.length_nil, List.length_take] at this
 unfold unkT
 have : most = 32767 := rfl
 omega
theorem OwnT.tagsA {w : World} {lo : Nat} {v : Value} {a : List (Nat × List UInt8)} (h : OwnT w lo v a) : zik w v a := by
 obtain ⟨cs, ho, hu⟩ := h
 rcases ho with ⟨rfl, e, _⟩ | ⟨b, c, e, _, _, h1, _, hr, _⟩
 ·exact .inl ⟨_, _, rfl, List.length_eq_zero_iff.1 e⟩
 ·exact .inr ⟨b, 0, c, cs, e, h1, hu, hr⟩
section
variable {P : Program} {N : Nums} {M : zcd}
structure TSt (w2 : World) (v6 : Value) (vu : Value) (σ : Env) (w : World) (n j : Nat) (acc : List UInt8) : Prop where
 h6 : σ 6 = v6
 h7 : OwnB w w2.heap.size (σ 7) acc
 h8 : σ 8 = .int .i64 j
 h29 : σ 29 = vu
 h30 : σ 30 = .int .i64 n
 h31 : σ 31 = .int .i64 j
 le : j ≤ n
 mod : Mod w2 w zq
theorem TSt.upd {w2 w : World} {v6 vu : Value} {σ : Env} {n j : Nat} {acc : List UInt8} (h : TSt w2 v6 vu σ w n j acc) {i : Nat} (hi : 32 ≤ i) (x : Value) : TSt w2 v6 vu (upd σ i x) w n j acc := by
 obtain ⟨h6, h7, h8, h29, h30, h31, le, mod⟩ := h
 refine ⟨?_, ?_, ?_, ?_, ?_, ?_, le, mod⟩ <;> (rw [zh (by omega)]; assumption)
def bTags (N : Nums) (M : zcd) : C :=
 .seq (.ops [
  ⟨some 0, .indexAddr N.zk (V 29) (V 31), 0, none, []⟩,
  ⟨some 1, .load N.zab (T 0), 0, none, []⟩,
  ⟨some 133, .alloc N.zab, 0, none, []⟩,
  ⟨none, .store N.zab (V 33) (T 1), 0, none, []⟩])
 (.seq (.ops [
  ⟨some 0, .fieldAddr N.zab (V 33) 1, 0, none, []⟩,
  ⟨some 1, .load N.za (T 0), 0, none, []⟩,
  ⟨some 2, .call ⟨.value (.func M.zdk), #[T 1], #[N.za]⟩, N.za, none, []⟩,
  ⟨some 134, .assign (T 2), 0, none, []⟩])
 (.seq (.ops [
  ⟨some 0, .move (V 7), 0, none, []⟩,
  ⟨some 1, .fieldAddr N.zab (V 33) 0, 0, none, []⟩,
  ⟨some 2, .load N.zp (T 1), 0, none, []⟩,
  ⟨some 3, .convert N.zp N.zat (T 2), 0, none, []⟩,
  ⟨some 4, .call ⟨.value (.func M.zcu), #[T 3], #[N.zat]⟩, N.za, none, []⟩,
  ⟨some 5, .call ⟨.builtin .append, #[T 0, T 4], #[N.za, N.za]⟩, N.za, none, []⟩,
  ⟨some 6, .move (V 34), 0, none, []⟩,
  ⟨some 7, .call ⟨.builtin .len, #[T 6], #[N.za]⟩, N.zg, none, []⟩,
  ⟨some 8, .convert N.zg N.zat (T 7), 0, none, []⟩,
  ⟨some 9, .call ⟨.value (.func M.zcu), #[T 8], #[N.zat]⟩, N.za, none, []⟩,
  ⟨some 10, .call ⟨.builtin .append, #[T 5, T 9], #[N.za, N.za]⟩, N.za, none, []⟩,
  ⟨some 11, .move (V 34), 0, none, []⟩,
  ⟨some 12, .call ⟨.builtin .append, #[T 10, T 11], #[N.za, N.za]⟩, N.za, none, []⟩,
  ⟨some 107, .assign (T 12), 0, none, []⟩])
 (.ops [
  ⟨some 0, .move (V 8), 0, none, []⟩,
  ⟨some 1, .binOp .add N.zg (T 0) (.const (.int .i64 1)) N.zg, 0, none, []⟩,
  ⟨some 108, .assign (T 1), 0, none, []⟩])))
theorem W_tag (B : Base P N) (S : SpT P N M) (hW : SW P N M) {loc : List Nat} {N' : Nat} {σ : Env} {w2 w : World} {v6 vu : Value} {u : List (Nat × List UInt8)} {j : Nat} {acc : List UInt8} (hU : zik w2 vu u) (hj : j < u.length) (hk : (u[j]).1 < 4294967296) (hul : u.length < 4611686018427387904)
  (h : TSt w2 v6 vu σ w u.length j acc) (hbig : acc.length < 549755813888) {Q : Exit → Env → World → Prop}
  (hQ : ∀ (σ' : Env) (w' : World), σ' 31 = .int .i64 j → TSt w2 v6 vu (Go.Kf.upd σ' 31 (.int .i64 ((j + 1 : Nat) : Int))) w' u.length (j + 1) (acc ++ tagB u[j]) → Q .normal σ' w') :
  W P loc N' (bTags N M) Q σ w := by
 obtain ⟨fsT, hT⟩ := S.tr.tu
 obtain ⟨bb, oo, cc, s, hvb, hs, hr⟩ := hU.get (List.getElem?_eq_getElem hj)
 obtain ⟨key, hkey⟩ : ∃ key, key = (u[j]).1 := ⟨_, rfl⟩
 rw [← hkey] at hr hk
 have hr' := zj h.mod hr
 have hix := fun {w : World} => zaa (P := P) (w := w) S.tr.lg hT (bl := bb) (o := oo) (n := u.length) (c := cc) (i := j) (k := .i64) hj
 have hld := hT.run_load (w := w) (b := bb) (o := oo + j * 2) hr' rfl (fun h => by cases h)
 have hlv : ldv (.struct fsT) [.int .u32 key, s] = .agg [.int .u32 key, s].toArray := rfl
 rw [hlv] at hld
 obtain ⟨wa, wb, hal, hst, _, mb, sb, rb, _⟩ := zkd (cs := [.int .u32 key, s]) hT (by decide) rfl rfl (by
  intro c hc; simp at hc; rcases hc with rfl | rfl
  ·rfl
  ·exact hs.one) w
 unfold bTags
 refine ze fun K hK => zx fun τ => ?_
 simp +decide only [bK, bE, Nat.reduceBeqDiff, BEq.rfl, Nat.reduceAdd, h.h29, h.h31]
 rw [hvb]
 simp +decide only [bK, hix, hld, hal, hst]
 refine hK _ _ (zd fun σ1 hσ => ?_)
 have a6 := hσ 6
 have a7 := hσ 7
 have a8 := hσ 8
 have a29 := hσ 29
 have a30 := hσ 30
 have a31 := hσ 31
 have a33 := hσ 33
 simp +decide only [bE, Nat.reduceBeqDiff, BEq.rfl, Nat.reduceAdd, h.h6, h.h8, h.h29, h.h30, h.h31] at a6 a7 a8 a29 a30 a31 a33
 clear hσ hK K
 have o7 : OwnB wb w2.heap.size (σ1 7) acc := by rw [a7]; exact h.h7.stay mb fun _ _ _ h => h
 have m2b := h.mod.trans' mb
 have c0 : wb.cell? ⟨w.heap.size, 0, none⟩ = some (.int .u32 key) := rb 0 _ rfl
 have c1 : wb.cell? ⟨w.heap.size, 1, none⟩ = some s := rb 1 _ rfl
 have n33 : zar (σ1 7) w.heap.size := by rw [a7]; exact Classical.byContradiction fun hh => by have := (h.h7.blk hh).2; omega
 have hlt33 : w.heap.size < wb.heap.size := by omega
 obtain ⟨b33, hb33⟩ : ∃ b, b = w.heap.size := ⟨_, rfl⟩
 rw [← hb33] at a33 c0 c1 n33 hlt33
 clear h hix hld hlv hal hst
 refine ze fun K hK => zx fun τ => ?_
 simp +decide only [bK, bE, BEq.rfl, Nat.reduceAdd, Nat.zero_add, a33, S.tr.g1.run, B.Lu8.run_load1 rfl, c1]
 rw [zam hW.whole.has]
 simp +decide only [bK, bE, BEq.rfl]
 refine (zmt B hW.whole hs).mono ?_
 rintro x _ ⟨rfl, hx⟩
 refine hK _ _ (zd fun σ2 hσ => ?_)
 have b6 := hσ 6
 have b7 := hσ 7
 have b8 := hσ 8
 have b29 := hσ 29
 have b30 := hσ 30
 have b31 := hσ 31
 have b33' := hσ 33
 have b34 := hσ 34
 simp +decide only [bE, Nat.reduceBeqDiff, BEq.rfl, Nat.reduceAdd, a6, a8, a29, a30, a31, a33] at b6 b7 b8 b29 b30 b31 b33' b34
 clear hσ hK K
 rw [← b7] at o7 n33
 have hwl : (zbs (u[j]).2).length ≤ 32767 := by simp [zbs, most]; omega
 refine ze fun K hK => zx fun τ => ?_
 have hc1 := fun {w : World} => zbt (P := P) (w := w) (k' := .u32) B.uint32 B.uint64 (n := key) ⟨_, rfl⟩
 have hc2 := fun {w : World} => zbt (P := P) (w := w) (k' := .i64) B.int B.uint64 (n := (zbs (u[j]).2).length) ⟨_, rfl⟩
 simp +decide only [bK, bE, Nat.reduceBeqDiff, BEq.rfl, Nat.reduceAdd, Nat.add_zero, b33', S.tr.g0.run, B.uint32.run_load1 rfl, c0, hc1]
 rw [zep key (by omega), zam hW.Uvarint.has]
 simp +decide only [bK, bE, Nat.reduceBeqDiff, BEq.rfl]
 refine (zmk B hW.Uvarint wb key (by omega)).mono ?_
 rintro r3 w3 ⟨ho3, m3⟩
 have hs3 : w2.heap.size ≤ w3.heap.size := Nat.le_trans m2b.size m3.size
 have hu3 : (uvB key).length ≤ 10 := ziq (by omega)
 have o73 := o7.stay m3 fun _ _ _ h => h
 obtain ⟨v4, w4, hap4, ho4, m4, _⟩ := zgb (ty := N.za) B o73 ho3.octA hs3 (by omega)
 have m24 : Mod w2 w4 zq := Mod.ofOwn o73 (m2b.trans' m3) m4
 simp +decide only [bK, hap4, b34, hx.run_len B, hc2]
 rw [zep _ (by omega), zam hW.Uvarint.has]
 simp +decide only [bK, bE, Nat.reduceBeqDiff, BEq.rfl]
 refine (zmk B hW.Uvarint w4 _ (by omega)).mono ?_
 rintro r5 w5 ⟨ho5, m5⟩
 have hs5 : w2.heap.size ≤ w5.heap.size := Nat.le_trans m24.size m5.size
 have hu5 : (uvB (zbs (u[j]).2).length).length ≤ 10 := ziq (by omega)
 have o75 := ho4.stay m5 fun _ _ _ h => h
 obtain ⟨v6', w6, hap6, ho6, m6, _⟩ := zgb (ty := N.za) B o75 ho5.octA hs5 (by simp only [List.length_append]; omega)
 have m26 : Mod w2 w6 zq := Mod.ofOwn o75 (m24.trans' m5) m6
 simp +decide only [bK, hap6, b34]
 have hs6 : w2.heap.size ≤ w6.heap.size := m26.size
 have hx6 : OctA w6 x (zbs (u[j]).2) := hx.stay m26
 obtain ⟨v7, w7, hap7, ho7, m7, _⟩ := zgb (ty := N.za) B ho6 hx6 hs6 (by simp only [List.length_append]; omega)
 have m27 : Mod w2 w7 zq := Mod.ofOwn ho6 m26 m7
 simp +decide only [bK, hap7]
 refine hK _ _ (zd fun σ3 hσ => ?_)
 have d6 := hσ 6
 have d7 := hσ 7
 have d8 := hσ 8
 have d29 := hσ 29
 have d30 := hσ 30
 have d31 := hσ 31
 simp +decide only [bE, Nat.reduceBeqDiff, BEq.rfl, Nat.reduceAdd, b6, b8, b29, b30, b31] at d6 d7 d8 d29 d30 d31
 clear hσ hK K
 have hadd : IntKind.i64.wrap ((j : Int) + 1) = ((j + 1 : Nat) : Int) := by
  rw [show ((j : Int) + 1) = ((j + 1 : Nat) : Int) by omega]
  exact wrap_i64 (by omega) (by omega)
 refine zx fun τ => ?_
 simp +decide only [bK, bE, BEq.rfl, Nat.reduceAdd, d8, hadd]
 refine zd fun σ4 hσ => hQ σ4 w7 ?_ ?_
 ·have := hσ 31; simp +decide only [bE, Nat.reduceBeqDiff, Nat.reduceAdd, d31] at this; exact this
 ·have e6 := hσ 6
  have e7 := hσ 7
  have e8 := hσ 8
  have e29 := hσ 29
  have e30 := hσ 30
  simp +decide only [bE, Nat.reduceBeqDiff, BEq.rfl, Nat.reduceAdd, d6, d7, d29, d30] at e6 e7 e8 e29 e30
  refine ⟨?_, ?_, ?_, ?_, ?_, upd_same _ _ _, hj, m27⟩
  ·rw [zh (by decide)]; exact e6
  ·rw [zh (by decide), e7]
   have : tagB u[j] = uvB key ++ (uvB (zbs (u[j]).2).length ++ zbs (u[j]).2) := by rw [hkey]; rfl
   rw [this, ← List.append_assoc, ← List.append_assoc]
   exact ho7
  ·rw [zh (by decide)]; exact e8
  ·rw [zh (by decide)]; exact e29
  ·rw [zh (by decide)]; exact e30
end
section
variable {P : Program} {N : Nums} {M : zcd}
theorem W_tags (B : Base P N) (S : SpT P N M) (hW : SW P N M) {loc : List Nat} {N' : Nat} (hlo : zfw loc N') {σ : Env} {w2 w : World} {v6 vu : Value} {u : List (Nat × List UInt8)} (hU : zik w2 vu u) (hk : ∀ x ∈ u, x.1 < 4294967296) (hul : u.length < 4611686018427387904)
  (h : TSt w2 v6 vu σ w u.length 0 []) (hbig : (u.flatMap tagB).length < 549755813888) {Q : Exit → Env → World → Prop}
  (hQ : ∀ (σ' : Env) (w' : World), TSt w2 v6 vu σ' w' u.length u.length (u.flatMap tagB) → Q .normal σ' w') :
  W P loc N' (zsm N 31 30 32 6 (bTags N M)) Q σ w := by
 refine zfp (i := 31) (l := 30) (c := 32) (k := 6) hlo (L := u.length) hul (fun j σ w' => TSt w2 v6 vu σ w' u.length j ((u.take j).flatMap tagB)) (fun j σ w h => ⟨h.h31, h.h30, h.le⟩) (fun j σ w b h => h.upd (by decide) _) (by simpa using h) (fun σ' w' h => hQ σ' w' (by simpa using h)) (fun j σ' w' hj h => ?_)
 refine W_tag B S hW hU hj (hk _ (List.getElem_mem hj)) hul h (Nat.lt_of_le_of_lt (ziz tagB u j) hbig) fun σ5 w5 h1 h5 => ⟨h1, ?_⟩
 rw [zhh tagB hj]
 exact h5
theorem sp_part (B : Base P N) (S : SpT P N M) (hW : SW P N M) {flex : Bool} {v : Int} {fs : List Fld} (hl : fs.length < 4611686018427387904) (ok : ∀ f ∈ fs, OkF P M flex v f) : zui P M flex v fs := by
 intro w fv t cs hf ht hwf hbig
 unfold zdm endB at hbig
 rw [List.length_append] at hbig
 refine hW.part.call rfl fun loc N' hlo => ?_
 unfold zse
 refine ze fun K hK => zx fun τ => ?_
 simp +decide only [bK, bE, Nat.reduceAdd]
 obtain ⟨w1, hw1⟩ : ∃ w1, w1 = w.alloc (.cells (Value.agg cs.toArray).cells N.zc) := ⟨_, rfl⟩
 have m1 : Mod w w1 zq := by rw [hw1]; exact Mod.alloc _ _ _
 have hb : w1.rangeAt w.heap.size 0 cs := by
  rw [hw1]; exact zr w _ _ _
 have hs1 : w1.heap.size = w.heap.size + 1 := by rw [hw1]; exact zak _ _
 rw [← hw1]
 clear hw1
 refine hK _ _ (zd fun σ1 hσ => ?_)
 have a0 := hσ 0
 have a1 := hσ 1
 have a2 := hσ 2
 have a4 := hσ 4
 simp +decide only [bE, Nat.reduceBeqDiff, BEq.rfl, Nat.reduceAdd, Nat.zero_add, zsr, zpe, zpd] at a0 a1 a2 a4
 clear hσ hK K
 refine ze fun K hK => zx fun τ => ?_
 simp +decide only [bK, Nat.reduceAdd]
 refine hK _ _ (zd fun σ2 hσ => ?_)
 have b0 := hσ 0
 have b1 := hσ 1
 have b2 := hσ 2
 have b4 := hσ 4
 have b6 := hσ 6
 have b7 := hσ 7
 simp +decide only [bE, Nat.reduceBeqDiff, BEq.rfl, Nat.reduceAdd, Nat.zero_add, a0, a1, a2, a4] at b0 b1 b2 b4 b6 b7
 clear hσ hK K
 refine ze fun K hK => zx fun τ => ?_
 simp +decide only [bK, Nat.reduceAdd]
 refine hK _ _ (zd fun σ3 hσ => ?_)
 have c0 := hσ 0
 have c1 := hσ 1
 have c2 := hσ 2
 have c4 := hσ 4
 have c6 := hσ 6
 have c7 := hσ 7
 have c8 := hσ 8
 simp +decide only [bE, Nat.reduceBeqDiff, BEq.rfl, Nat.reduceAdd, Nat.zero_add, b0, b1, b2, b4, b6, b7] at c0 c1 c2 c4 c6 c7 c8
 clear hσ hK K
 have hf1 := hf.stay m1
 have ht1 := RepA.stay m1 _ ht
 refine ze fun K hK => ze fun K1 hK1 => zx fun τ => ?_
 simp +decide only [bK, bE, BEq.rfl, Nat.reduceAdd, Nat.zero_add, c0, hf.run_len S]
 refine hK1 _ _ (zd fun σ4 hσ => ?_)
 have d0 := hσ 0
 have d1 := hσ 1
 have d2 := hσ 2
 have d4 := hσ 4
 have d6 := hσ 6
 have d7 := hσ 7
 have d8 := hσ 8
 have d9 := hσ 9
 have d10 := hσ 10
 have d11 := hσ 11
 simp +decide only [bE, Nat.reduceBeqDiff, BEq.rfl, Nat.reduceAdd, Nat.zero_add, c0, c1, c2, c4, c6, c7, c8] at d0 d1 d2 d4 d6 d7 d8 d9 d10 d11
 clear hσ hK1 K1
 refine W_fields B S hW hlo ⟨d0, d1, d2, d4, by rw [d6]; exact zou, d7, d8, d9, d10, d11, Nat.zero_le _, .refl _ _⟩ hb ht1 hwf hf1 hl ok (by omega) fun σ5 w5 st => hK _ _ ?_
 clear hK K d0 d1 d2 d4 d6 d7 d8 d9 d10 d11 c0 c1 c2 c4 c6 c7 c8 b0 b1 b2 b4 b6 b7 a0 a1 a2 a4
 refine ze fun K hK => ze fun K1 hK1 => zx fun τ => ?_
 simp +decide only [bK, bE, BEq.rfl, Nat.reduceAdd, st.h2]
 refine hK1 _ _ (zd fun σ6 hσ => ?_)
 have a0 := hσ 0
 have a4 := hσ 4
 have a6 := hσ 6
 have a7 := hσ 7
 have a8 := hσ 8
 have a16 := hσ 16
 simp +decide only [bE, Nat.reduceBeqDiff, BEq.rfl, Nat.reduceAdd, Nat.zero_add, st.h0, st.h4, st.h7, st.h8] at a0 a4 a6 a7 a8 a16
 clear hσ hK1 K1
 refine W_if hlo a16 ?_
 cases flex with
 | false =>
  simp only [Bool.not_false, if_true]
  refine ze fun K1 hK1 => zx fun τ => ?_
  simp +decide only [bK, bE, BEq.rfl, Nat.reduceAdd]
  refine hK1 _ _ (zd fun σ7 hσ => zbm ⟨.inr rfl, _, rfl, ?_⟩)
  have q := hσ 5
  simp +decide only [bE, BEq.rfl, Nat.reduceAdd] at q
  rw [q, a6]
  unfold zdm endB
  simp only [Bool.false_eq_true, if_false, List.append_nil]
  exact ⟨st.h6.mono_lo (by omega), m1.trans' st.mod⟩
 | true =>
  simp only [Bool.not_true, Bool.false_eq_true, if_false]
  refine zaz (hK _ _ ?_)
  clear hK K a16
  simp only [if_true] at hbig
  rw [List.length_append] at hbig
  have h6 := st.h6
  rw [← a6] at h6
  refine ze fun K hK => ze fun K1 hK1 => zx fun τ => ?_
  simp +decide only [bK, bE, Nat.reduceAdd, Nat.zero_add, a0]
  rw [zam hW.known.has]
  simp +decide only [bK, bE, BEq.rfl]
  refine (sp_known B S hW.known (hf1.stay st.mod) hl fun f hf => (ok f hf).1).mono ?_
  rintro _ w6 ⟨rfl, m6⟩
  have hcv := fun {w : World} => zbt (P := P) (w := w) (k' := .u32) B.uint32 B.int (n := 0) ⟨_, rfl⟩
  have hw0 : IntKind.i64.wrap 0 = 0 := by decide
  simp +decide only [bK, hcv, hw0]
  refine hK1 _ _ (zd fun σ7 hσ => ?_)
  have b0 := hσ 0
  have b4 := hσ 4
  have b6 := hσ 6
  have b7 := hσ 7
  have b8 := hσ 8
  have b17 := hσ 17
  have b18 := hσ 18
  simp +decide only [bE, Nat.reduceBeqDiff, BEq.rfl, Nat.reduceAdd, Nat.zero_add, a0, a4, a7, a8] at b0 b4 b6 b7 b8 b17 b18
  clear hσ hK1 K1
  obtain ⟨v6, hv6⟩ : ∃ v6, v6 = σ6 6 := ⟨_, rfl⟩
  rw [← hv6] at h6 b6
  refine zfp (i := 18) (l := 17) (c := 19) (k := 2) hlo (L := 0) (by omega) (fun j σ w' => σ 0 = fv ∧ σ 4 = .pointer (some ⟨w.heap.size, 0, none⟩) ∧ σ 6 = v6 ∧ σ 7 = .slice none 0 0 ∧ σ 8 = .int .i64 0 ∧ σ 17 = .int .i64 0 ∧ σ 18 = .int .i64 j ∧ j ≤ 0 ∧ w' = w6) (fun j σ w h => ⟨h.2.2.2.2.2.2.1, h.2.2.2.2.2.1, h.2.2.2.2.2.2.2.1⟩) (fun j σ w b h => ?_) ⟨b0, b4, b6, b7, b8, b17, b18, Nat.le_refl _, rfl⟩ (fun σ8 w8 h => hK _ _ ?_) (fun j σ' w' hj h => absurd hj (by omega))
  ·obtain ⟨x0, x4, x6, x7, x8, x17, x18, xl, rfl⟩ := h
   refine ⟨?_, ?_, ?_, ?_, ?_, ?_, ?_, xl, rfl⟩ <;> (rw [zh (by decide)]; assumption)
  obtain ⟨x0, x4, x6, x7, x8, _, _, _, rfl⟩ := h
  clear hK K b0 b4 b6 b7 b8 b17 b18 a0 a4 a6 a7 a8 hv6
  have m18 : Mod w1 w8 zq := st.mod.trans' m6
  have h68 := h6.stay m6 fun _ _ _ h => h
  have hb8 := zj m18 hb
  obtain ⟨vs, vl, vu, hcs, _, _, htu⟩ := ht1.out
  have hc4 : w8.cell? ⟨w.heap.size, 4, none⟩ = some vu := hb8 4 _ (by rw [hcs]; rfl)
  refine ze fun K hK => ze fun K1 hK1 => zx fun τ => ?_
  simp +decide only [bK, bE, Nat.reduceBeqDiff, BEq.rfl, Nat.reduceAdd, Nat.zero_add, x0, x4, S.tr.h4.run, S.tr.lg.run_load1 rfl, hc4]
  rw [zbw hW.unknown.has]
  simp +decide only [bK, bE, Nat.reduceBeqDiff, BEq.rfl]
  refine (zto B S hW (hf1.stay m18) hl (fun f hf => (ok f hf).1) (htu.stay m18)).mono ?_
  rintro r w9 ⟨hr, m9⟩
  simp +decide only [bK, hr.run_len S]
  refine hK1 _ _ (zd fun σ9 hσ => ?_)
  have e6 := hσ 6
  have e7 := hσ 7
  have e8 := hσ 8
  have e29 := hσ 29
  have e30 := hσ 30
  have e31 := hσ 31
  simp +decide only [bE, Nat.reduceBeqDiff, BEq.rfl, Nat.reduceAdd, x6, x7, x8] at e6 e7 e8 e29 e30 e31
  clear hσ hK1 K1
  have hul := zqq t.u
  refine W_tags B S hW hlo (w2 := w9) (v6 := v6) (vu := r) (u := unkT t.u) hr.tagsA (fun x hx => hwf.u x (zul hx)) (by omega) ⟨e6, by rw [e7]; exact zou, e8, e29, e30, e31, Nat.zero_le _, .refl _ _⟩ (by omega) fun σ10 w10 tt => hK _ _ ?_
  clear hK K
  have m19 := m18.trans' m9
  have h610 := (h68.stay m9 fun _ _ _ h => h).stay tt.mod fun _ _ _ h => h
  have m110 := m19.trans' tt.mod
  have hcv := fun {w : World} => zbt (P := P) (w := w) (k' := .i64) B.int B.uint64 (n := (unkT t.u).length) ⟨_, rfl⟩
  refine ze fun K hK => zx fun τ => ?_
  simp +decide only [bK, bE, Nat.reduceBeqDiff, BEq.rfl, Nat.reduceAdd, tt.h6, tt.h8, hcv]
  rw [zep _ (by omega), zam hW.Uvarint.has]
  simp +decide only [bK, bE, Nat.reduceBeqDiff, BEq.rfl]
  refine (zmk B hW.Uvarint w10 _ (by omega)).mono ?_
  rintro r3 w11 ⟨ho3, m11⟩
  have hu3 : (uvB (unkT t.u).length).length ≤ 10 := ziq (by omega)
  have h611 := h610.stay m11 fun _ _ _ h => h
  have m111 := m110.trans' m11
  obtain ⟨v4, w12, hap4, ho4, m12, _⟩ := zgb (ty := N.za) B h611 ho3.octA m111.size (by omega)
  have m112 : Mod w1 w12 zq := Mod.ofOwn h611 m111 m12
  have h7 : OctA w12 (σ10 7) ((unkT t.u).flatMap tagB) := by
   have h711 := tt.h7.stay m11 fun _ _ _ h => h
   exact (h711.stay m12 fun b _ hb hv => by have x1 := (tt.h7.blk hb).1; have x2 := (h68.blk hv).2; have x3 := m9.size; omega).octA
  simp +decide only [bK, hap4]
  obtain ⟨v5, w13, hap5, ho5, m13, _⟩ := zgb (ty := N.za) B ho4 h7 m112.size (by simp only [List.length_append]; omega)
  have m113 : Mod w1 w13 zq := Mod.ofOwn ho4 m112 m13
  simp +decide only [bK, hap5]
  refine hK _ _ (zd fun σ11 hσ => zbm ⟨.inr rfl, _, rfl, ?_⟩)
  have q := hσ 5
  simp +decide only [bE, BEq.rfl, Nat.reduceAdd] at q
  rw [q]
  unfold zdm endB
  simp only [if_true]
  rw [← List.append_assoc]
  exact ⟨ho5.mono_lo (by omega), m1.trans' m113⟩
end
mutual
def okFB : Fld → Bool
 | .mk k _ _ _ g _ o sub => decide (g < 0) && decide (k ≠ 10) && (decide (k ≠ 11) || decide (o ≠ 10) || (Nat.blt sub.length 1000 && zov sub))
def zov : List Fld → Bool
 | [] => true
 | f :: r => okFB f && zov r
end
section
variable {P : Program} {N : Nums} {M : zcd}
mutual
theorem okF_of (B : Base P N) (S : SpT P N M) (hW : SW P N M) {flex : Bool} {v : Int} : ∀ (f : Fld), okFB f = true → OkF P M flex v f
 | .mk k _ _ _ g _ o sub, h => by
  simp only [okFB, Bool.and_eq_true, decide_eq_true_eq, Bool.or_eq_true] at h
  obtain ⟨⟨h1, h2⟩, h3⟩ := h
  refine ⟨h1, h2, fun hk ho => ?_⟩
  rcases h3 with (h3 | h3) | ⟨h3, h4⟩
  ·exact absurd hk h3
  ·exact absurd ho h3
  ·have : sub.length < 1000 := by simpa using h3
   exact sp_part B S hW (Nat.lt_trans this (by decide)) (zym B S hW sub h4)
theorem zym (B : Base P N) (S : SpT P N M) (hW : SW P N M) {flex : Bool} {v : Int} : ∀ (l : List Fld), zov l = true → ∀ f ∈ l, OkF P M flex v f
 | [], _, f, hf => by cases hf
 | g :: r, h, f, hf => by
  simp only [zov, Bool.and_eq_true] at h
  rcases List.mem_cons.1 hf with e | hf
  ·rw [e]; exact okF_of B S hW g h.1
  ·exact zym B S hW r h.2 f hf
end
theorem partOk_of (B : Base P N) (S : SpT P N M) (hW : SW P N M) {flex : Bool} {v : Int} {l : List Fld} (h1 : l.length < 1000) (h : zov l = true) : zui P M flex v l :=
 sp_part B S hW (Nat.lt_trans h1 (by decide)) (zym B S hW l h)
def zih (fl v : Int) : Bool := decide (0 ≤ fl) && decide (fl ≤ v)
theorem sp_Write (B : Base P N) (S : SpT P N M) (hW : SW P N M) {w : World} {fv : Value} {fl v : Int} {fs : List Fld} {t : Tr} {cs : List Value} (h1 : fs.length < 1000) (hok : zov fs = true) (hf : zfs w fv fs) (ht : RepA w t cs) (hwf : wfT t)
  (hbig : (zdm (zih fl v) v fs t).length < 549755813888) :
  Call P M.zlq #[.agg [fv, .int .i64 fl].toArray, .int .i64 v, .agg cs.toArray] w (Gave w (zdm (zih fl v) v fs t)) := by
 refine hW.Write.call rfl fun loc N' hlo => ?_
 unfold zqh
 refine ze fun K hK => zx fun τ => ?_
 simp +decide only [bK, bE, Nat.reduceBeqDiff, Nat.reduceAdd, Nat.zero_add]
 obtain ⟨w1, hw1⟩ : ∃ w1, w1 = w.alloc (.cells (Value.cells (.agg [fv, .int .i64 fl].toArray)) M.zai) := ⟨_, rfl⟩
 have m1 : Mod w w1 zq := by rw [hw1]; exact Mod.alloc _ _ _
 have r1 : w1.rangeAt w.heap.size 0 [fv, .int .i64 fl] := by rw [hw1]; exact zr w _ _ _
 rw [← hw1]
 clear hw1
 obtain ⟨w2, hw2⟩ : ∃ w2, w2 = w1.alloc (.cells (Value.cells (.agg cs.toArray)) N.zc) := ⟨_, rfl⟩
 have m2 : Mod w1 w2 zq := by rw [hw2]; exact Mod.alloc _ _ _
 have r2 : w2.rangeAt w1.heap.size 0 cs := by rw [hw2]; exact zr w1 _ _ _
 rw [← hw2]
 clear hw2
 have m02 := m1.trans' m2
 have r1' := zj m2 r1
 refine hK _ _ (zd fun σ hσ => ?_)
 have f1 := hσ 1
 have f3 := hσ 3
 have f4 := hσ 4
 simp +decide only [bE, Nat.reduceBeqDiff, BEq.rfl, Nat.reduceAdd, zma] at f1 f3 f4
 clear hσ hK K
 have x0 := r1' 0 _ rfl
 have x1 := r1' 1 _ rfl
 have hld := zcp S.tr r2 ht.len
 have hpart := partOk_of B S hW (flex := zih fl v) (v := v) h1 hok w2 fv t cs (hf.stay m02) (RepA.stay m02 _ ht) hwf hbig
 refine ze fun K hK => zx fun τ => ?_
 have fin : ∀ {r : Value} {w3 : World} {ρ : Env}, Gave w2 (zdm (zih fl v) v fs t) r w3 → ρ 105 = r → K (locs ρ) w3 := fun {r w3 ρ} h hq => hK _ _ (zbm ⟨.inr rfl, _, rfl, by
  show Gave w _ (locs ρ 5) w3
  rw [show locs ρ 5 = r from hq]
  exact ⟨h.1.mono_lo m02.size, m02.trans' h.2⟩⟩)
 by_cases a : fl ≥ 0
 ·have hfx : zih fl v = decide (v ≥ fl) := by unfold zih; simp [show 0 ≤ fl from a]
  simp +decide only [bK, bE, Nat.reduceBeqDiff, decide_true, BEq.rfl, Nat.reduceAdd, Nat.add_zero, Nat.zero_add, if_true, f1, f3, f4, S.m0.run, S.m1.run, S.lf.run_load1 rfl, B.int.run_load1 rfl, x0, x1, a, zal, zbj, hld]
  rw [zim hW.part.has]
  simp +decide only [bK, bE, Nat.reduceBeqDiff, BEq.rfl]
  rw [← hfx]
  refine hpart.mono ?_
  rintro r w3 hg
  exact fin hg (by simp +decide only [bE, BEq.rfl])
 ·have hfx : zih fl v = false := by unfold zih; simp [show ¬ 0 ≤ fl from a]
  simp +decide only [bK, bE, Nat.reduceBeqDiff, decide_false, BEq.rfl, Nat.reduceAdd, Nat.add_zero, Nat.zero_add, if_false, f1, f3, f4, S.m0.run, S.m1.run, S.lf.run_load1 rfl, B.int.run_load1 rfl, x0, x1, a, zbh, Bool.not_true, zbj, hld]
  rw [zim hW.part.has]
  simp +decide only [bK, bE, Nat.reduceBeqDiff, BEq.rfl]
  rw [← hfx]
  refine hpart.mono ?_
  rintro r w3 hg
  exact fin hg (by simp +decide only [bE, BEq.rfl])
end
def zhy (f : Fld) (x : Tr) : Prop :=
 if f.kind = 8 then x.nl = decide (0 ≤ f.null) ∧ x.s = []
 else if f.kind = 7 then x.s = List.replicate 16 0
 else if f.kind = 9 ∨ f.kind = 11 then x.s = [] ∧ x.l = []
 else x.n = numK f.kind f.dflt
def zka (kind : Int) (pt : Tr → Tr → Prop) (t g : Tr) : Prop :=
 if kind = 8 ∨ kind = 9 then g.s = zbs t.s
 else if kind = 7 then g.s = idB t.s
 else if kind = 10 then pt t g
 else g.n = numK kind t.n
def Fld.may (f : Fld) (v : Int) : Bool := decide (0 ≤ f.null) && decide (f.null ≤ v)
def zun (flex : Bool) (u : List (Nat × List UInt8)) : List (Nat × List UInt8) := if flex then (unkT u).map fun x => (x.1, zbs x.2) else []
mutual
def zph (flex : Bool) (v : Int) : Fld → Tr → Tr → Prop
 | .mk k f t' n g d o sub, t, y =>
  (k = 8 ∨ k = 10 ∨ Fld.may (.mk k f t' n g d o []) v = true → y.nl = Fld.nullB (.mk k f t' n g d o []) v t) ∧
  (Fld.nullB (.mk k f t' n g d o []) v t = false →
   if k = 11 then y.l.length = (zef t.l).length ∧ ∀ (i : Nat) (x z : Tr), (zef t.l)[i]? = some x → y.l[i]? = some z →
    (o = 8 ∨ o = 10 → z.nl = false) ∧ zka o (fun t g => g.l.length = sub.length ∧ zjj flex v sub 0 t g ∧ g.u = zun flex t.u) x z
   else zka k (fun t g => g.l.length = sub.length ∧ zjj flex v sub 0 t g ∧ g.u = zun flex t.u) t y)
def zjj (flex : Bool) (v : Int) : List Fld → Nat → Tr → Tr → Prop
 | [], _, _, _ => True
 | f :: r, i, t, g => (∀ y, g.l[i]? = some y → if f.has v then zph flex v f (atT t i) y else zhy f y) ∧ zjj flex v r (i + 1) t g
end
def zpg (flex : Bool) (v : Int) (fs : List Fld) (t g : Tr) : Prop := g.l.length = fs.length ∧ zjj flex v fs 0 t g ∧ g.u = zun flex t.u
theorem zjk {flex : Bool} {v : Int} {f : Fld} {t y : Tr} : zph flex v f t y ↔ (f.kind = 8 ∨ f.kind = 10 ∨ f.may v = true → y.nl = f.nullB v t) ∧ (f.nullB v t = false →
   if f.kind = 11 then y.l.length = (zef t.l).length ∧ ∀ (i : Nat) (x z : Tr), (zef t.l)[i]? = some x → y.l[i]? = some z → (f.of = 8 ∨ f.of = 10 → z.nl = false) ∧ zka f.of (zpg flex v f.sub) x z
   else zka f.kind (zpg flex v f.sub) t y) := by
 obtain ⟨k, fr, t', n, g, d, o, sub⟩ := f
 rw [zph]
 exact Iff.rfl
theorem zti {flex : Bool} {v : Int} : ∀ {fs : List Fld} {i : Nat} {t g : Tr}, zjj flex v fs i t g → ∀ {j : Nat} {f : Fld} {y : Tr}, fs[j]? = some f → g.l[i + j]? = some y → if f.has v then zph flex v f (atT t (i + j)) y else zhy f y
 | [], i, t, g, _, j, f, y, hf, _ => by simp at hf
 | f' :: r, i, t, g, h, 0, f, y, hf, hy => by simp at hf; subst hf; rw [zjj] at h; exact h.1 y hy
 | f' :: r, i, t, g, h, j + 1, f, y, hf, hy => by
  rw [zjj] at h
  have := zti h.2 (j := j) (f := f) (y := y) (by simpa using hf) (by rwa [show i + 1 + j = i + (j + 1) by omega])
  rwa [show i + 1 + j = i + (j + 1) by omega] at this
theorem OctA.get {P : Program} {N : Nums} (B : Base P N) {w : World} {v : Value} {l : List UInt8} (h : OctA w v l) {j : Nat} {x : UInt8} (hx : l[j]? = some x) :
  ∃ b o, (∀ w', (Instr.indexAt N.za v (.int .i64 j)).run P w' = .ok (.pointer (some ⟨b, o, none⟩)) w') ∧ w.cell? ⟨b, o, none⟩ = some (.int .u8 x.toNat) := by
 have hj := (List.getElem?_eq_some_iff.1 hx).1
 rcases h with ⟨_, _, rfl, e⟩ | ⟨b, o, c, rfl, h2, h4⟩
 ·subst e; simp at hj
 ·refine ⟨b, o + j * 1, fun w' => zaa B.Lu8 B.uint8 hj, ?_⟩
  have := h4 j (zbg x) (by rw [List.getElem?_map, hx]; rfl)
  simpa [zbg] using this
section
variable {P : Program} {N : Nums} {M : zcd}
theorem zmu (B : Base P N) (F : Fns P N) (hN : N.zbu ≠ 0) {w : World} {v1 v2 : Value} {l : List UInt8} (h1 : OctA w v1 l) (h2 : OctA w v2 l) (hl : l.length < 4611686018427387904) :
  Call P N.zbu #[v1, v2] w fun v w' => v = .bool true ∧ Mod w w' zq := by
 refine (F.spec_Same hN).call rfl fun loc N' hlo => ?_
 unfold zsi
 refine ze fun K hK => zau (hK _ _ ?_)
 clear hK K
 obtain ⟨σ, hσ⟩ : ∃ σ, σ = upd (zct #[v1, v2]) 2 (.bool false) := ⟨_, rfl⟩
 have f0 : σ 0 = v1 := by rw [hσ, zh (by decide)]; rfl
 have f1 : σ 1 = v2 := by rw [hσ, zh (by decide)]; rfl
 rw [← hσ]
 clear hσ
 refine ze fun K hK => ze fun K1 hK1 => zx fun τ => ?_
 simp +decide (disch := omega) only [bK, bE, Nat.reduceBeqDiff, BEq.rfl, Nat.reduceAdd, Nat.zero_add, f0, f1, h1.run_len B, h2.run_len B, zw, zas, locs_envOf]
 refine hK1 _ _ (W_if hlo (upd_same _ _ _) ?_)
 clear hK1 K1
 rw [show ((l.length : Int) != (l.length : Int)) = false from by simp, if_neg (by simp)]
 refine zaz (hK _ _ ?_)
 clear hK K
 refine ze fun K hK => ze fun K1 hK1 => zx fun τ => ?_
 simp +decide (disch := omega) only [bK, bE, BEq.rfl, Nat.reduceAdd, Nat.zero_add, zh, f0, h1.run_len B]
 refine hK1 _ _ (zd fun σ2 hσ => ?_)
 have g0 := hσ 0
 have g1 := hσ 1
 have g4 := hσ 4
 have g5 := hσ 5
 simp +decide only [bE, Nat.reduceBeqDiff, BEq.rfl, Nat.reduceAdd, Nat.zero_add, zh, f0, f1] at g0 g1 g4 g5
 clear hσ hK1 K1
 refine zmv (i := 5) (l := 4) (c := 6) (k := 0) hlo hl (fun j σ w' => σ 0 = v1 ∧ σ 1 = v2 ∧ σ 4 = .int .i64 l.length ∧ σ 5 = .int .i64 j ∧ j ≤ l.length ∧ Mod w w' zq) (fun j σ w h => ⟨h.2.2.2.1, h.2.2.1, h.2.2.2.2.1⟩) (fun j σ w b h => ?_) ⟨g0, g1, g4, g5, Nat.zero_le _, .refl _ _⟩ (fun σ' w' h => hK _ _ ?_) (fun j σ' w' hj h => ?_)
 ·obtain ⟨a, b, c, d, e, f⟩ := h
  exact ⟨by rw [zh (by decide)]; exact a, by rw [zh (by decide)]; exact b, by rw [zh (by decide)]; exact c, by rw [zh (by decide)]; exact d, e, f⟩
 ·refine ze fun K2 hK2 => zau (hK2 _ _ (zbm ⟨.inr rfl, _, rfl, upd_same _ _ _, h.2.2.2.2.2⟩))
 ·obtain ⟨a, b, c, d, e, f⟩ := h
  have hx : l[j]? = some l[j] := List.getElem?_eq_getElem hj
  have md : Mod w w'.drew zq := f.trans' (Mod.drew _ _)
  obtain ⟨b1, o1, hi1, hc1⟩ := (h1.stay md).get B hx
  obtain ⟨b2, o2, hi2, hc2⟩ := (h2.stay md).get B hx
  refine ze fun K2 hK2 => zx fun τ => ?_
  simp +decide (disch := omega) only [bK, bE, BEq.rfl, Nat.reduceAdd, d]
  refine hK2 _ _ (zd fun σ3 hσ => ?_)
  have p0 := hσ 0
  have p1 := hσ 1
  have p4 := hσ 4
  have p5 := hσ 5
  have p7 := hσ 7
  simp +decide only [bE, Nat.reduceBeqDiff, BEq.rfl, Nat.reduceAdd, Nat.zero_add, a, b, c, d] at p0 p1 p4 p5 p7
  clear hσ hK2 K2
  refine ze fun K2 hK2 => zsv B.mixed (by kernel_rfl) fun τ => ?_
  simp +decide (disch := omega) only [bK, bE, zft, Nat.reduceBeqDiff, BEq.rfl, Nat.reduceAdd, Nat.zero_add, true_and, p0, p1, p7, hi1, hi2, B.uint8.run_load1 rfl, hc1, hc2]
  refine hK2 _ _ (zd fun σ4 hσ => ?_)
  have q0 := hσ 0
  have q1 := hσ 1
  have q4 := hσ 4
  have q5 := hσ 5
  have q8 := hσ 8
  simp +decide only [bE, Nat.reduceBeqDiff, BEq.rfl, Nat.reduceAdd, Nat.zero_add, p0, p1, p4, p5] at q0 q1 q4 q5 q8
  clear hσ hK2 K2
  refine W_if hlo q8 ?_
  rw [show ((l[j].toNat : Int) != (l[j].toNat : Int)) = false from by simp, if_neg (by simp)]
  refine zaz ⟨q5, ?_⟩
  exact ⟨by rw [zh (by decide)]; exact q0, by rw [zh (by decide)]; exact q1, by rw [zh (by decide)]; exact q4, upd_same _ _ _, by omega, md⟩
end
section
variable {P : Program} {N : Nums} {M : zcd}
def Yes (w : World) (r : Value) (w' : World) : Prop := r = .bool true ∧ Mod w w' zq
def Fld.one (f : Fld) : Fld := .mk f.of f.frm f.to (-1) (-1) f.dflt f.of f.sub
def ToldOk (P : Program) (M : zcd) (flex : Bool) (v : Int) (fs : List Fld) : Prop := ∀ (w : World) (fv : Value) (t g : Tr) (cs cg : List Value), zfs w fv fs → RepA w t cs → RepA w g cg → zpg flex v fs t g →
 Call P M.zku #[fv, .int .i64 v, .bool flex, .agg cs.toArray, .agg cg.toArray] w (Yes w)
def zvy (P : Program) (M : zcd) (flex : Bool) (v : Int) (f : Fld) : Prop := ∀ (w : World) (t g : Tr) (cf cs cg : List Value), RepF w f cf → RepA w t cs → RepA w g cg → zph flex v f t g →
 Call P M.zhi #[.agg cf.toArray, .int .i64 v, .bool flex, .agg cs.toArray, .agg cg.toArray] w (Yes w)
structure GSt (σ : Env) (v : Int) (flex null : Bool) (bF bT bG : Nat) : Prop where
 h1 : σ 1 = .int .i64 v
 h2 : σ 2 = .bool flex
 h5 : σ 5 = .pointer (some ⟨bF, 0, none⟩)
 h6 : σ 6 = .pointer (some ⟨bT, 0, none⟩)
 h7 : σ 7 = .pointer (some ⟨bG, 0, none⟩)
 h9 : σ 9 = .bool null
theorem GSt.upd {σ : Env} {v : Int} {flex null : Bool} {bF bT bG : Nat} (h : GSt σ v flex null bF bT bG) {i : Nat} (hi : 10 ≤ i) (x : Value) : GSt (upd σ i x) v flex null bF bT bG := by
 obtain ⟨h1, h2, h5, h6, h7, h9⟩ := h
 constructor <;> (rw [zh (by omega)]; assumption)
def cMay (N : Nums) (M : zcd) : C := .ops [
 ⟨some 0, .fieldAddr M.zf (V 5) 3, 0, none, []⟩,
 ⟨some 1, .load N.zg (T 0), 0, none, []⟩,
 ⟨some 2, .binOp .geq N.zg (T 1) (.const (.int .i64 0)) N.zg, 0, none, []⟩,
 ⟨some 3, .move (T 2), 0, none, []⟩,
 ⟨some 4, .move (V 1), 0, some (some 3, true), []⟩,
 ⟨some 5, .fieldAddr M.zf (V 5) 3, 0, some (some 3, true), []⟩,
 ⟨some 6, .load N.zg (T 5), 0, some (some 3, true), []⟩,
 ⟨some 7, .binOp .geq N.zg (T 4) (T 6) N.zg, 0, some (some 3, true), []⟩,
 ⟨some 8, .pick (T 3) (T 7) (.const (.bool false)), 0, none, []⟩,
 ⟨some 110, .assign (T 8), 0, none, []⟩]
theorem W_may (B : Base P N) (S : SpT P N M) {loc : List Nat} {N' : Nat} {Q : Exit → Env → World → Prop} {σ : Env} {w : World} {v : Int} {flex null : Bool} {bF bT bG : Nat} {f : Fld} (st : GSt σ v flex null bF bT bG) (h3 : w.cell? ⟨bF, 3, none⟩ = some (.int .i64 f.null))
  (hQ : ∀ σ' : Env, GSt σ' v flex null bF bT bG → σ' 10 = .bool (f.may v) → Q .normal σ' w) : W P loc N' (cMay N M) Q σ w := by
 refine zx fun τ => ?_
 have fin : ∀ {σ' : Env}, (∀ i, i ≠ 10 → σ' i = σ i) → σ' 10 = .bool (f.may v) → Q .normal σ' w := fun {σ'} h hm => hQ σ' ⟨(h 1 (by decide)).trans st.h1, (h 2 (by decide)).trans st.h2, (h 5 (by decide)).trans st.h5, (h 6 (by decide)).trans st.h6, (h 7 (by decide)).trans st.h7, (h 9 (by decide)).trans st.h9⟩ hm
 by_cases a : f.null ≥ 0
 ·have hm : f.may v = decide (v ≥ f.null) := by unfold Fld.may; simp [show 0 ≤ f.null from a]
  simp +decide only [bK, bE, Nat.reduceBeqDiff, decide_true, BEq.rfl, Nat.reduceAdd, Nat.zero_add, if_true, st.h1, st.h5, S.f3.run, B.int.run_load1 rfl, h3, a, zal, zbj]
  rw [← hm]
  refine zd (K := fun σ' w' => Q .normal σ' w') fun σ' hσ => fin (fun i hi => ?_) ?_
  ·rw [hσ i]
   have e1 : (i + 100 == 110) = false := beq_eq_false_iff_ne.2 (by omega)
   simp +decide only [bE, Nat.reduceBeqDiff, e1]
  ·have g := hσ 10
   simp +decide only [bE, BEq.rfl, Nat.reduceAdd] at g
   exact g
 ·have hm : f.may v = false := by unfold Fld.may; simp [show ¬ 0 ≤ f.null from a]
  simp +decide only [bK, bE, Nat.reduceBeqDiff, decide_false, BEq.rfl, Nat.reduceAdd, Nat.zero_add, if_false, st.h5, S.f3.run, B.int.run_load1 rfl, h3, a, zbh, Bool.not_true, zbj]
  rw [← hm]
  refine zd (K := fun σ' w' => Q .normal σ' w') fun σ' hσ => fin (fun i hi => ?_) ?_
  ·rw [hσ i]
   have e1 : (i + 100 == 110) = false := beq_eq_false_iff_ne.2 (by omega)
   simp +decide only [bE, Nat.reduceBeqDiff, e1]
  ·have g := hσ 10
   simp +decide only [bE, BEq.rfl, Nat.reduceAdd] at g
   exact g
def cTdNull (N : Nums) (M : zcd) : C := .ops [
 ⟨some 0, .fieldAddr M.zf (V 5) 0, 0, none, []⟩,
 ⟨some 1, .load N.zg (T 0), 0, none, []⟩,
 ⟨some 2, .binOp .eql N.zg (T 1) (.const (.int .i64 8)) N.zg, 0, none, []⟩,
 ⟨some 3, .move (T 2), 0, none, []⟩,
 ⟨some 4, .fieldAddr M.zf (V 5) 0, 0, some (some 3, false), []⟩,
 ⟨some 5, .load N.zg (T 4), 0, some (some 3, false), []⟩,
 ⟨some 6, .binOp .eql N.zg (T 5) (.const (.int .i64 10)) N.zg, 0, some (some 3, false), []⟩,
 ⟨some 7, .pick (T 3) (.const (.bool true)) (T 6), 0, none, []⟩,
 ⟨some 8, .move (T 7), 0, none, []⟩,
 ⟨some 9, .move (V 10), 0, some (some 8, false), []⟩,
 ⟨some 10, .pick (T 8) (.const (.bool true)) (T 9), 0, none, []⟩,
 ⟨some 11, .move (T 10), 0, none, []⟩,
 ⟨some 12, .fieldAddr N.zc (V 7) 2, 0, some (some 11, true), []⟩,
 ⟨some 13, .load N.zae (T 12), 0, some (some 11, true), []⟩,
 ⟨some 14, .move (V 9), 0, some (some 11, true), []⟩,
 ⟨some 15, .binOp .neq N.zae (T 13) (T 14) N.zae, 0, some (some 11, true), []⟩,
 ⟨some 111, .pick (T 11) (T 15) (.const (.bool false)), 0, none, []⟩]
theorem W_tnull (B : Base P N) (S : SpT P N M) {loc : List Nat} {N' : Nat} {Q : Exit → Env → World → Prop} {σ : Env} {w : World} {v kind : Int} {flex null may gnl : Bool} {bF bT bG : Nat} (st : GSt σ v flex null bF bT bG) (h10 : σ 10 = .bool may)
  (h0 : w.cell? ⟨bF, 0, none⟩ = some (.int .i64 kind)) (h2 : w.cell? ⟨bG, 2, none⟩ = some (.bool gnl)) (hn : kind = 8 ∨ kind = 10 ∨ may = true → gnl = null)
  (hQ : ∀ σ' : Env, GSt σ' v flex null bF bT bG → σ' 11 = .bool false → Q .normal σ' w) : W P loc N' (cTdNull N M) Q σ w := by
 refine zx fun τ => ?_
 have fin : ∀ {σ' : Env}, (∀ i, i ≠ 11 → σ' i = σ i) → σ' 11 = .bool false → Q .normal σ' w := fun {σ'} h hm => hQ σ' ⟨(h 1 (by decide)).trans st.h1, (h 2 (by decide)).trans st.h2, (h 5 (by decide)).trans st.h5, (h 6 (by decide)).trans st.h6, (h 7 (by decide)).trans st.h7, (h 9 (by decide)).trans st.h9⟩ hm
 have hne : (kind = 8 ∨ kind = 10 ∨ may = true) → (gnl != null) = false := fun h => by rw [hn h]; simp
 have r2 := B.bool.run_load1 (P := P) (w := w) rfl bG 2
 by_cases e8 : kind = 8
 ·have b8 : (kind == 8) = true := by simpa using e8
  have bn := hne (.inl e8)
  simp +decide only [bK, bE, Nat.reduceBeqDiff, BEq.rfl, Nat.reduceAdd, Nat.add_zero, Nat.zero_add, if_true, st.h5, st.h7, st.h9, S.f0.run, S.tr.h2.run, B.int.run_load1 rfl, r2, h0, h2, b8, zal, zbh, Bool.not_false, zbj, zqv B.bool, bn]
  refine zd (K := fun σ' w' => Q .normal σ' w') fun σ' hσ => fin (fun i hi => ?_) ?_
  ·rw [hσ i]
   have e1 : (i + 100 == 111) = false := beq_eq_false_iff_ne.2 (by omega)
   simp +decide only [bE, Nat.reduceBeqDiff, e1]
  ·have g := hσ 11
   simp +decide only [bE, BEq.rfl, Nat.reduceAdd] at g
   exact g
 have b8 : (kind == 8) = false := by simpa using e8
 by_cases e10 : kind = 10
 ·have b10 : (kind == 10) = true := by simpa using e10
  have bn := hne (.inr (.inl e10))
  simp +decide only [bK, bE, Nat.reduceBeqDiff, BEq.rfl, Nat.reduceAdd, Nat.add_zero, Nat.zero_add, if_false, if_true, st.h5, st.h7, st.h9, S.f0.run, S.tr.h2.run, B.int.run_load1 rfl, r2, h0, h2, b8, b10, zal, zbh, Bool.not_false, zbj, zqv B.bool, bn]
  refine zd (K := fun σ' w' => Q .normal σ' w') fun σ' hσ => fin (fun i hi => ?_) ?_
  ·rw [hσ i]
   have e1 : (i + 100 == 111) = false := beq_eq_false_iff_ne.2 (by omega)
   simp +decide only [bE, Nat.reduceBeqDiff, e1]
  ·have g := hσ 11
   simp +decide only [bE, BEq.rfl, Nat.reduceAdd] at g
   exact g
 have b10 : (kind == 10) = false := by simpa using e10
 cases may with
 | true =>
  have bn := hne (.inr (.inr rfl))
  simp +decide only [bK, bE, Nat.reduceBeqDiff, BEq.rfl, Nat.reduceAdd, Nat.add_zero, Nat.zero_add, if_false, if_true, st.h5, st.h7, st.h9, h10, S.f0.run, S.tr.h2.run, B.int.run_load1 rfl, r2, h0, h2, b8, b10, zal, zbj, zqv B.bool, bn]
  refine zd (K := fun σ' w' => Q .normal σ' w') fun σ' hσ => fin (fun i hi => ?_) ?_
  ·rw [hσ i]
   have e1 : (i + 100 == 111) = false := beq_eq_false_iff_ne.2 (by omega)
   simp +decide only [bE, Nat.reduceBeqDiff, e1]
  ·have g := hσ 11
   simp +decide only [bE, BEq.rfl, Nat.reduceAdd] at g
   exact g
 | false =>
  simp +decide only [bK, bE, Nat.reduceBeqDiff, BEq.rfl, Nat.reduceAdd, Nat.add_zero, if_false, st.h5, h10, S.f0.run, B.int.run_load1 rfl, h0, b8, b10, zal, zbh, Bool.not_true, zbj]
  refine zd (K := fun σ' w' => Q .normal σ' w') fun σ' hσ => fin (fun i hi => ?_) ?_
  ·rw [hσ i]
   have e1 : (i + 100 == 111) = false := beq_eq_false_iff_ne.2 (by omega)
   simp +decide only [bE, Nat.reduceBeqDiff, e1]
  ·have g := hσ 11
   simp +decide only [bE, BEq.rfl, Nat.reduceAdd] at g
   exact g
end
section
variable {a b c d e : Value}
theorem zxj : zct #[a, b, c, d, e] 0 = a := rfl
theorem zxi : zct #[a, b, c, d, e] 1 = b := rfl
theorem zxh : zct #[a, b, c, d, e] 2 = c := rfl
theorem zxg : zct #[a, b, c, d, e] 3 = d := rfl
theorem zxf : zct #[a, b, c, d, e] 4 = e := rfl
end
section
variable {P : Program} {N : Nums} {M : zcd}
theorem zmi {f : FuncId} {x y z u v : Operand} {ts : Array TypeId} {d : Option Nat} {ty : TypeId} {af : List Nat} {ρ : Env} {w : World} {K : Env → World → Prop} (hf : zdc P f) : zbk P ⟨d, .call ⟨.value (.func f), #[x, y, z, u, v], ts⟩, ty, none, af⟩ ρ w K = Call P f #[ev ρ x, ev ρ y, ev ρ z, ev ρ u, ev ρ v] w fun v w' => K (put ρ d v) w' := by
 rw [zpi hf]; simp
def dTold1 (N : Nums) (M : zcd) : C := .draw [
 ⟨some 0, .fieldAddr N.zc (V 7) 1, 0, none, []⟩,
 ⟨some 1, .load N.za (T 0), 0, none, [0]⟩,
 ⟨some 2, .fieldAddr N.zc (V 6) 1, 0, none, []⟩,
 ⟨some 3, .load N.za (T 2), 0, none, [2]⟩,
 ⟨some 4, .call ⟨.value (.func M.zdk), #[T 3], #[N.za]⟩, N.za, none, [3]⟩,
 ⟨some 5, .call ⟨.value (.func N.zbu), #[T 1, T 4], #[N.za, N.za]⟩, N.zae, none, [1, 4, 4]⟩,
 ⟨some 108, .assign (T 5), 0, none, [5, 5, 0, 1, 2, 3, 4, 5]⟩]
theorem W_told1 (B : Base P N) (F : Fns P N) (hN : N.zbu ≠ 0) (S : SpT P N M) (hW : SW P N M) {loc : List Nat} {N' : Nat} {Q : Exit → Env → World → Prop} {σ : Env} {w : World} {v : Int} {flex null : Bool} {bF bT bG : Nat} {vs gs : Value} {s : List UInt8} (st : GSt σ v flex null bF bT bG)
  (h1 : w.cell? ⟨bT, 1, none⟩ = some vs) (h2 : w.cell? ⟨bG, 1, none⟩ = some gs) (hlT : bT < w.heap.size) (hlG : bG < w.heap.size) (ho : OctA w vs s) (hg : OctA w gs (zbs s))
  (hQ : ∀ (σ' : Env) (w' : World), σ' 8 = .bool true → Mod w w' zq → Q .normal σ' w') : W P loc N' (dTold1 N M) Q σ w := by
 unfold dTold1
 have md : Mod w w.drew zq := Mod.drew _ _
 have hwl : (zbs s).length < 4611686018427387904 := by
  have : (zbs s).length ≤ 32767 := by simp [zbs, most]; omega
  omega
 refine zsu B.mixed [true, true, true, true, false, false, false] (by kernel_rfl) (fun w' => Mod w w' zq) md fun τ => ?_
 refine zb (.pointer (some ⟨bG, 1, none⟩)) (fun w' _ => zi (by
  simp +decide only [bE, Nat.reduceAdd, Nat.zero_add, ev_tmp, st.h7, S.tr.h1.run])) rfl ?_
 refine zb gs (fun w' hw => zi (by
  simp +decide only [bE, BEq.rfl, ev_tmp, B.Lu8.run_load1 rfl, hw.cell _ _ hlG fun h => h, h2, ldc_some])) rfl ?_
 refine zb (.pointer (some ⟨bT, 1, none⟩)) (fun w' _ => zi (by
  simp +decide only [bE, Nat.reduceBeqDiff, Nat.reduceAdd, Nat.zero_add, ev_tmp, st.h6, S.tr.h1.run])) rfl ?_
 refine zb vs (fun w' hw => zi (by
  simp +decide only [bE, BEq.rfl, ev_tmp, B.Lu8.run_load1 rfl, hw.cell _ _ hlT fun h => h, h1, ldc_some])) rfl ?_
 simp only [zdf, zco, List.zip_cons_cons, List.zip_nil_right, List.zipWith_cons_cons, List.zipWith_nil_right, List.filter, Bool.not_true, Bool.not_false, List.map, zdg]
 rw [zam hW.whole.has]
 simp +decide only [bK, bE, BEq.rfl]
 refine (zmt B hW.whole (ho.stay md)).mono ?_
 rintro x _ ⟨rfl, hx⟩
 refine ⟨md, ?_⟩
 rw [zbw (F.spec_Same hN).has]
 simp +decide only [bK, bE, Nat.reduceBeqDiff, BEq.rfl]
 refine (zmu B F hN (hg.stay md) hx hwl).mono ?_
 rintro _ w2 ⟨rfl, m2⟩
 refine ⟨md.trans' m2, ?_⟩
 try simp +decide only [bK, bE, zft, Nat.reduceBeqDiff, decide_true, decide_false, BEq.rfl, beq_self_eq_true, reduceIte, Nat.reduceAdd, Nat.reduceSub, Nat.reduceLT, Nat.reduceEqDiff, Nat.reduceLeDiff, Nat.reduceMul, Nat.add_sub_cancel, Int.reduceToNat, Nat.add_zero, Nat.zero_add, Nat.mul_one, Nat.reduceBEq, reduceCtorEq, Nat.zero_ne_one, Nat.one_ne_zero, Nat.lt_irrefl, if_false, if_true, List.take_succ_cons, List.take_zero, List.drop_succ_cons, List.drop_zero, true_and, Option.map_some, Option.map_none]
 refine zd fun σ' hσ => hQ σ' w2 ?_ (md.trans' m2)
 have q := hσ 8
 simp +decide only [bE, BEq.rfl, Nat.reduceAdd] at q
 exact q
def dTold0 (N : Nums) (M : zcd) : C := .draw [
 ⟨some 0, .fieldAddr N.zc (V 7) 0, 0, none, []⟩,
 ⟨some 1, .load N.zav (T 0), 0, none, [0]⟩,
 ⟨some 2, .fieldAddr M.zf (V 5) 0, 0, none, []⟩,
 ⟨some 3, .load N.zg (T 2), 0, none, [2]⟩,
 ⟨some 4, .fieldAddr N.zc (V 6) 0, 0, none, []⟩,
 ⟨some 5, .load N.zav (T 4), 0, none, [4]⟩,
 ⟨some 6, .call ⟨.value (.func M.zey), #[T 3, T 5], #[N.zg, N.zav]⟩, N.zav, none, [3, 5]⟩,
 ⟨some 7, .binOp .eql N.zav (T 1) (T 6) N.zav, 0, none, [1, 6]⟩,
 ⟨some 108, .assign (T 7), 0, none, [7, 6, 0, 1, 2, 3, 4, 5, 6, 7]⟩]
theorem W_told0 (B : Base P N) (S : SpT P N M) (hT : STo P N M) {loc : List Nat} {N' : Nat} {Q : Exit → Env → World → Prop} {σ : Env} {w : World} {v kind n : Int} {flex null : Bool} {bF bT bG : Nat} (st : GSt σ v flex null bF bT bG)
  (h0 : w.cell? ⟨bF, 0, none⟩ = some (.int .i64 kind)) (h1 : w.cell? ⟨bT, 0, none⟩ = some (.int .i64 n)) (h2 : w.cell? ⟨bG, 0, none⟩ = some (.int .i64 (numK kind n))) (hlF : bF < w.heap.size) (hlT : bT < w.heap.size) (hlG : bG < w.heap.size)
  (hQ : ∀ (σ' : Env) (w' : World), σ' 8 = .bool true → Mod w w' zq → Q .normal σ' w') : W P loc N' (dTold0 N M) Q σ w := by
 unfold dTold0
 have md : Mod w w.drew zq := Mod.drew _ _
 refine zsu B.mixed [true, true, true, true, true, true, false, false, false] (by kernel_rfl) (fun w' => Mod w w' zq) md fun τ => ?_
 refine zb (.pointer (some ⟨bG, 0, none⟩)) (fun w' _ => zi (by
  simp +decide only [bE, Nat.reduceAdd, Nat.zero_add, ev_tmp, st.h7, S.tr.h0.run])) rfl ?_
 refine zb (.int .i64 (numK kind n)) (fun w' hw => zi (by
  simp +decide only [bE, BEq.rfl, ev_tmp, B.int64.run_load1 rfl, hw.cell _ _ hlG fun h => h, h2, ldc_some])) rfl ?_
 refine zb (.pointer (some ⟨bF, 0, none⟩)) (fun w' _ => zi (by
  simp +decide only [bE, Nat.reduceBeqDiff, Nat.reduceAdd, Nat.zero_add, ev_tmp, st.h5, S.f0.run])) rfl ?_
 refine zb (.int .i64 kind) (fun w' hw => zi (by
  simp +decide only [bE, BEq.rfl, ev_tmp, B.int.run_load1 rfl, hw.cell _ _ hlF fun h => h, h0, ldc_some])) rfl ?_
 refine zb (.pointer (some ⟨bT, 0, none⟩)) (fun w' _ => zi (by
  simp +decide only [bE, Nat.reduceBeqDiff, Nat.reduceAdd, Nat.zero_add, ev_tmp, st.h6, S.tr.h0.run])) rfl ?_
 refine zb (.int .i64 n) (fun w' hw => zi (by
  simp +decide only [bE, BEq.rfl, ev_tmp, B.int64.run_load1 rfl, hw.cell _ _ hlT fun h => h, h1, ldc_some])) rfl ?_
 simp only [zdf, zco, List.zip_cons_cons, List.zip_nil_right, List.zipWith_cons_cons, List.zipWith_nil_right, List.filter, Bool.not_true, Bool.not_false, List.map, zdg]
 rw [zbw hT.number.has]
 simp +decide only [bK, bE, Nat.reduceBeqDiff, BEq.rfl]
 refine (zwd B hT.n8 hT.number w.drew kind n).mono ?_
 rintro r w2 ⟨rfl, rfl⟩
 refine ⟨md, ?_⟩
 have e : (numK kind n == numK kind n) = true := by simp
 simp +decide only [bK, BEq.rfl]
 refine ⟨md, ?_⟩
 refine zd fun σ' hσ => hQ σ' _ ?_ md
 have q := hσ 8
 simp +decide only [bE, BEq.rfl, Nat.reduceAdd] at q
 exact q
end
theorem zlj {w : World} {b i : Nat} {cs : List Value} {v : Value} (h : w.rangeAt b 0 cs) (hi : i < cs.length) : (w.setCell ⟨b, i, none⟩ v).rangeAt b 0 (cs.set i v) := by
 intro j u hj
 rw [Nat.zero_add]
 have hjl : j < cs.length := by simpa using (List.getElem?_eq_some_iff.1 hj).1
 have hc : w.cell? ⟨b, j, none⟩ = some cs[j] := by have := h j cs[j] (List.getElem?_eq_getElem hjl); rwa [Nat.zero_add] at this
 by_cases e : j = i
 ·subst e
  rw [List.getElem?_set_self hjl] at hj
  injection hj with hj
  subst hj
  exact World.cell?_setCell_same _ _ _ hc
 ·rw [List.getElem?_set_ne (fun h => e h.symm), List.getElem?_eq_getElem hjl] at hj
  rw [World.cell?_setCell_other _ _ _ _ (by intro h; injection h with _ h2; exact e h2.symm), hc]
  exact hj
section
variable {P : Program} {N : Nums} {M : zcd}
def dEach (N : Nums) (M : zcd) : C := .draw [
 ⟨some 0, .load M.zf (V 21), 0, none, []⟩,
 ⟨some 1, .move (V 1), 0, none, []⟩,
 ⟨some 2, .move (V 2), 0, none, []⟩,
 ⟨some 3, .move (V 19), 0, none, []⟩,
 ⟨some 4, .move (V 25), 0, none, []⟩,
 ⟨some 5, .indexAddr N.zn (T 3) (T 4), 0, none, [3, 4]⟩,
 ⟨some 6, .load N.zc (T 5), 0, none, [5]⟩,
 ⟨some 7, .fieldAddr N.zc (V 7) 3, 0, none, []⟩,
 ⟨some 8, .load N.zn (T 7), 0, none, [7]⟩,
 ⟨some 9, .move (V 25), 0, none, []⟩,
 ⟨some 10, .indexAddr N.zn (T 8) (T 9), 0, none, [8, 9]⟩,
 ⟨some 11, .load N.zc (T 10), 0, none, [10]⟩,
 ⟨some 12, .call ⟨.value (.func M.zhi), #[T 0, T 1, T 2, T 6, T 11], #[M.zf, N.zg, N.zae, N.zc, N.zc]⟩, N.zae, none, [0, 1, 2, 6, 11]⟩,
 ⟨some 126, .unOp .not N.zae (T 12), 0, none, [12]⟩]
structure ESt (w0 : World) (σ : Env) (w : World) (v : Int) (flex : Bool) (bG b21 n j : Nat) (vL : Value) : Prop where
 h1 : σ 1 = .int .i64 v
 h2 : σ 2 = .bool flex
 h7 : σ 7 = .pointer (some ⟨bG, 0, none⟩)
 h19 : σ 19 = vL
 h21 : σ 21 = .pointer (some ⟨b21, 0, none⟩)
 h22 : σ 22 = .int .i64 n
 h23 : σ 23 = .int .i64 j
 le : j ≤ n
 mod : Mod w0 w zq
theorem ESt.upd {w0 w : World} {σ : Env} {v : Int} {flex : Bool} {bG b21 n j : Nat} {vL : Value} (h : ESt w0 σ w v flex bG b21 n j vL) {i : Nat} (hi : 24 ≤ i) (x : Value) : ESt w0 (upd σ i x) w v flex bG b21 n j vL := by
 obtain ⟨h1, h2, h7, h19, h21, h22, h23, le, mod⟩ := h
 refine ⟨?_, ?_, ?_, ?_, ?_, ?_, ?_, le, mod⟩ <;> (rw [zh (by omega)]; assumption)
theorem ESt.next {w0 w : World} {σ : Env} {v : Int} {flex : Bool} {bG b21 n j : Nat} {vL : Value} (h : ESt w0 σ w v flex bG b21 n j vL) (hj : j < n) : ESt w0 (Go.Kf.upd σ 23 (.int .i64 ((j + 1 : Nat) : Int))) w v flex bG b21 n (j + 1) vL := by
 obtain ⟨h1, h2, h7, h19, h21, h22, h23, le, mod⟩ := h
 refine ⟨?_, ?_, ?_, ?_, ?_, ?_, upd_same _ _ _, hj, mod⟩ <;> (rw [zh (by omega)]; assumption)
theorem W_each (B : Base P N) (S : SpT P N M) (hT : STo P N M) {loc : List Nat} {N' : Nat} {Q : Exit → Env → World → Prop} {σ : Env} {w0 w : World} {v : Int} {flex : Bool} {bG b21 n j : Nat} {vL vG : Value} {l g : List Tr} {one : Fld} {c1 : List Value} {x z : Tr}
  (hone : zvy P M flex v one) (st : ESt w0 σ w v flex bG b21 n j vL) (h25 : σ 25 = .int .i64 j) (r21 : w0.rangeAt b21 0 c1) (hl21 : b21 < w0.heap.size) (hf : RepF w0 one c1) (hG : w0.cell? ⟨bG, 3, none⟩ = some vG) (hlG : bG < w0.heap.size) (hl : zfe w0 vL l) (hg : zfe w0 vG g) (hx : l[j]? = some x) (hz : g[j]? = some z) (ht : zph flex v one x z)
  (hQ : ∀ (σ' : Env) (w' : World), σ' 26 = .bool false → ESt w0 σ' w' v flex bG b21 n j vL → Q .normal σ' w') : W P loc N' (dEach N M) Q σ w := by
 unfold dEach
 obtain ⟨fsT, hti⟩ := S.tr.tree.out
 obtain ⟨b1, o1, k1, cx, hv1, hr1, hg1⟩ := hl.get hx
 obtain ⟨b2, o2, k2, cz, hv2, hr2, hg2⟩ := hg.get hz
 have hj1 : j < l.length := (List.getElem?_eq_some_iff.1 hx).1
 have hj2 : j < g.length := (List.getElem?_eq_some_iff.1 hz).1
 have md : Mod w w.drew zq := Mod.drew _ _
 refine zet B.mixed [true, true, true, true, true, true, true, true, true, true, true, true, false, false] (by kernel_rfl) (fun w' => Mod w0 w' zq) (st.mod.trans' md) fun τ => ?_
 refine zb (.agg c1.toArray) (fun w' hw => zi (by
  simp +decide only [bE, Nat.reduceAdd, ev_tmp, st.h21]
  exact zjr S (zj hw r21) hf.len)) rfl ?_
 refine zb (.int .i64 v) (fun w' _ => by
  rw [zan, ev_tmp]
  simp +decide only [bE, Nat.reduceBeqDiff, Nat.reduceAdd, st.h1]) rfl ?_
 refine zb (.bool flex) (fun w' _ => by
  rw [zan, ev_tmp]
  simp +decide only [bE, Nat.reduceBeqDiff, Nat.reduceAdd, st.h2]) rfl ?_
 refine zb vL (fun w' _ => by
  rw [zan, ev_tmp]
  simp +decide only [bE, Nat.reduceBeqDiff, Nat.reduceAdd, st.h19]) rfl ?_
 refine zb (.int .i64 j) (fun w' _ => by
  rw [zan, ev_tmp]
  simp +decide only [bE, Nat.reduceBeqDiff, Nat.reduceAdd, h25]) rfl ?_
 refine zb (.pointer (some ⟨b1, o1 + j * 5, none⟩)) (fun w' hw => zi (by
  have := fun {w : World} => zaa (P := P) (w := w) S.tr.lt hti.1 (bl := b1) (o := o1) (n := l.length) (c := k1) (i := j) (k := .i64) hj1
  simp +decide only [bE, Nat.reduceBeqDiff, BEq.rfl, ev_tmp]
  rw [hv1]; exact this)) rfl ?_
 refine zb (.agg cx.toArray) (fun w' hw => zi (by
  simp +decide only [bE, BEq.rfl, ev_tmp]
  exact zcp S.tr (zj hw hg1) hr1.len)) rfl ?_
 refine zb (.pointer (some ⟨bG, 3, none⟩)) (fun w' hw => zi (by
  simp +decide only [bE, Nat.reduceBeqDiff, Nat.reduceAdd, Nat.zero_add, ev_tmp, st.h7, S.tr.h3.run])) rfl ?_
 refine zb vG (fun w' hw => zi (by
  simp +decide only [bE, BEq.rfl, ev_tmp, S.tr.lt.run_load1 rfl, hw.cell _ _ hlG fun h => h, hG, ldc_some])) rfl ?_
 refine zb (.int .i64 j) (fun w' _ => by
  rw [zan, ev_tmp]
  simp +decide only [bE, Nat.reduceBeqDiff, Nat.reduceAdd, h25]) rfl ?_
 refine zb (.pointer (some ⟨b2, o2 + j * 5, none⟩)) (fun w' hw => zi (by
  have := fun {w : World} => zaa (P := P) (w := w) S.tr.lt hti.1 (bl := b2) (o := o2) (n := g.length) (c := k2) (i := j) (k := .i64) hj2
  simp +decide only [bE, Nat.reduceBeqDiff, BEq.rfl, ev_tmp]
  rw [hv2]; exact this)) rfl ?_
 refine zb (.agg cz.toArray) (fun w' hw => zi (by
  simp +decide only [bE, BEq.rfl, ev_tmp]
  exact zcp S.tr (zj hw hg2) hr2.len)) rfl ?_
 simp only [zdf, zco, List.zip_cons_cons, List.zip_nil_right, List.zipWith_cons_cons, List.zipWith_nil_right, List.filter, Bool.not_true, Bool.not_false, List.map, zdg]
 have m0d := st.mod.trans' md
 rw [zmi hT.told.has]
 simp +decide only [bK, bE, Nat.reduceBeqDiff, BEq.rfl]
 refine (hone w.drew x z c1 cx cz (RepF.stay m0d _ hf) (RepA.stay m0d _ hr1) (RepA.stay m0d _ hr2) ht).mono ?_
 rintro _ w2 ⟨rfl, m2⟩
 refine ⟨m0d.trans' m2, ?_⟩
 simp +decide only [bK]
 refine zd fun σ' hσ => ?_
 have q1 := hσ 1
 have q2 := hσ 2
 have q7 := hσ 7
 have q19 := hσ 19
 have q21 := hσ 21
 have q22 := hσ 22
 have q23 := hσ 23
 have q26 := hσ 26
 simp +decide only [bE, Nat.reduceBeqDiff, BEq.rfl, Nat.reduceAdd, st.h1, st.h2, st.h7, st.h19, st.h21, st.h22, st.h23] at q1 q2 q7 q19 q21 q22 q23 q26
 exact hQ σ' w2 q26 ⟨q1, q2, q7, q19, q21, q22, q23, st.le, m0d.trans' m2⟩
end
section
variable {P : Program} {N : Nums} {M : zcd}
theorem zrg (B : Base P N) (F : Fns P N) (hN : N.zbu ≠ 0) (S : SpT P N M) (hW : SW P N M) (hT : STo P N M) {flex : Bool} {v : Int} {f : Fld} (hsub : f.kind = 10 → ToldOk P M flex v f.sub) (helm : f.kind = 11 → zvy P M flex v f.one ∧ f.of ≠ 11) : zvy P M flex v f := by
 intro w t g cf ct cg hf ht hg h
 rw [zjk] at h
 obtain ⟨hn, hb⟩ := h
 refine hT.told.call rfl fun loc N' hlo => ?_
 unfold zsd
 obtain ⟨fv, hcf, hfv⟩ := hf.out
 obtain ⟨vs, vl, vu, hct, t1, t2, t3⟩ := ht.out
 obtain ⟨gs, gl, gu, hcg, g1, g2, g3⟩ := hg.out
 refine ze fun K hK => zx fun τ => ?_
 simp +decide only [bK, bE, Nat.reduceBeqDiff, Nat.reduceAdd, Nat.zero_add, zxj, zxg, zxf]
 obtain ⟨w1, hw1⟩ : ∃ w1, w1 = w.alloc (.cells (Value.cells (.agg cf.toArray)) M.zf) := ⟨_, rfl⟩
 have m1 : Mod w w1 zq := by rw [hw1]; exact Mod.alloc _ _ _
 have r1 : w1.rangeAt w.heap.size 0 cf := by rw [hw1]; exact zr w _ _ _
 have s1 : w1.heap.size = w.heap.size + 1 := by rw [hw1]; exact zak _ _
 rw [← hw1]
 clear hw1
 obtain ⟨w2, hw2⟩ : ∃ w2, w2 = w1.alloc (.cells (Value.cells (.agg ct.toArray)) N.zc) := ⟨_, rfl⟩
 have m2 : Mod w1 w2 zq := by rw [hw2]; exact Mod.alloc _ _ _
 have r2 : w2.rangeAt w1.heap.size 0 ct := by rw [hw2]; exact zr w1 _ _ _
 have s2 : w2.heap.size = w1.heap.size + 1 := by rw [hw2]; exact zak _ _
 rw [← hw2]
 clear hw2
 obtain ⟨w3, hw3⟩ : ∃ w3, w3 = w2.alloc (.cells (Value.cells (.agg cg.toArray)) N.zc) := ⟨_, rfl⟩
 have m3 : Mod w2 w3 zq := by rw [hw3]; exact Mod.alloc _ _ _
 have r3 : w3.rangeAt w2.heap.size 0 cg := by rw [hw3]; exact zr w2 _ _ _
 have s3 : w3.heap.size = w2.heap.size + 1 := by rw [hw3]; exact zak _ _
 rw [← hw3]
 clear hw3
 have m03 := (m1.trans' m2).trans' m3
 have r1 := zj (m2.trans' m3) r1
 have r2 := zj m3 r2
 obtain ⟨bF, hbF⟩ : ∃ b, b = w.heap.size := ⟨_, rfl⟩
 obtain ⟨bT, hbT⟩ : ∃ b, b = w1.heap.size := ⟨_, rfl⟩
 obtain ⟨bG, hbG⟩ : ∃ b, b = w2.heap.size := ⟨_, rfl⟩
 rw [← hbF, ← hbT, ← hbG]
 rw [← hbF] at r1
 rw [← hbT] at r2
 rw [← hbG] at r3
 have lF : bF < w3.heap.size := by omega
 have lT : bT < w3.heap.size := by omega
 have lG : bG < w3.heap.size := by omega
 refine hK _ _ (zd fun σ hσ => ?_)
 have f1 := hσ 1
 have f2 := hσ 2
 have f5 := hσ 5
 have f6 := hσ 6
 have f7 := hσ 7
 simp +decide only [bE, Nat.reduceBeqDiff, BEq.rfl, Nat.reduceAdd, zxi, zxh] at f1 f2 f5 f6 f7
 clear hσ hK K
 have hf3 := RepF.stay m03 _ hf
 have ht3 := RepA.stay m03 _ ht
 have hg3 := RepA.stay m03 _ hg
 refine ze fun K hK => zx fun τ => ?_
 simp +decide only [bK, bE, Nat.reduceBeqDiff, Nat.reduceAdd, f1, f5, f6, zjr S r1 hf.len, zcp S.tr r2 ht.len]
 rw [zin hW.Field_null.has]
 simp +decide only [bK, bE, Nat.reduceBeqDiff, BEq.rfl]
 refine (zwy B S hW.Field_null hf3 ht3 v).mono ?_
 rintro _ w4 ⟨rfl, m4⟩
 refine hK _ _ (zd fun σ1 hσ => ?_)
 have a1 := hσ 1
 have a2 := hσ 2
 have a5 := hσ 5
 have a6 := hσ 6
 have a7 := hσ 7
 have a9 := hσ 9
 simp +decide only [bE, Nat.reduceBeqDiff, BEq.rfl, Nat.reduceAdd, f1, f2, f5, f6, f7] at a1 a2 a5 a6 a7 a9
 clear hσ hK K f1 f2 f5 f6 f7
 have m04 := m03.trans' m4
 have r1 := zj m4 r1
 have r2 := zj m4 r2
 have r3 := zj m4 r3
 have lF : bF < w4.heap.size := Nat.lt_of_lt_of_le lF m4.size
 have lT : bT < w4.heap.size := Nat.lt_of_lt_of_le lT m4.size
 have lG : bG < w4.heap.size := Nat.lt_of_lt_of_le lG m4.size
 have st : GSt σ1 v flex (f.nullB v t) bF bT bG := ⟨a1, a2, a5, a6, a7, a9⟩
 have cF0 : w4.cell? ⟨bF, 0, none⟩ = some (.int .i64 f.kind) := r1 0 _ (by rw [hcf]; rfl)
 have cF3 : w4.cell? ⟨bF, 3, none⟩ = some (.int .i64 f.null) := r1 3 _ (by rw [hcf]; rfl)
 have cF6 : w4.cell? ⟨bF, 6, none⟩ = some (.int .i64 f.of) := r1 6 _ (by rw [hcf]; rfl)
 have cF7 : w4.cell? ⟨bF, 7, none⟩ = some fv := r1 7 _ (by rw [hcf]; rfl)
 have cT0 : w4.cell? ⟨bT, 0, none⟩ = some (.int .i64 t.n) := r2 0 _ (by rw [hct]; rfl)
 have cT1 : w4.cell? ⟨bT, 1, none⟩ = some vs := r2 1 _ (by rw [hct]; rfl)
 have cT3 : w4.cell? ⟨bT, 3, none⟩ = some vl := r2 3 _ (by rw [hct]; rfl)
 have cG0 : w4.cell? ⟨bG, 0, none⟩ = some (.int .i64 g.n) := r3 0 _ (by rw [hcg]; rfl)
 have cG1 : w4.cell? ⟨bG, 1, none⟩ = some gs := r3 1 _ (by rw [hcg]; rfl)
 have cG2 : w4.cell? ⟨bG, 2, none⟩ = some (.bool g.nl) := r3 2 _ (by rw [hcg]; rfl)
 have cG3 : w4.cell? ⟨bG, 3, none⟩ = some gl := r3 3 _ (by rw [hcg]; rfl)
 clear a1 a2 a5 a6 a7 a9
 refine ze fun K hK => W_may B S st cF3 fun σ2 st h10 => hK _ _ ?_
 clear hK K
 refine ze fun K hK => ze fun K1 hK1 => W_tnull B S st h10 cF0 cG2 hn fun σ3 st h11 => hK1 _ _ (W_if hlo h11 ?_)
 simp only [Bool.false_eq_true, if_false]
 refine zaz (hK _ _ ?_)
 clear hK1 K1 hK K h10 h11
 refine ze fun K hK => ze fun K1 hK1 => zx fun τ => ?_
 simp +decide only [bK, bE, Nat.reduceAdd, st.h9]
 refine hK1 _ _ (zd fun σ4 hσ => ?_)
 have a1 := hσ 1
 have a2 := hσ 2
 have a5 := hσ 5
 have a6 := hσ 6
 have a7 := hσ 7
 have a9 := hσ 9
 have a12 := hσ 12
 simp +decide only [bE, Nat.reduceBeqDiff, BEq.rfl, Nat.reduceAdd, st.h1, st.h2, st.h5, st.h6, st.h7, st.h9] at a1 a2 a5 a6 a7 a9 a12
 have st : GSt σ4 v flex (f.nullB v t) bF bT bG := ⟨a1, a2, a5, a6, a7, a9⟩
 clear hσ hK1 K1 a1 a2 a5 a6 a7 a9
 refine W_if hlo a12 ?_
 cases hnb : f.nullB v t with
 | true =>
  simp only [if_true]
  exact ze fun K1 hK1 => zau (hK1 _ _ (zbm ⟨.inr rfl, _, rfl, upd_same _ _ _, m04⟩))
 | false =>
 simp only [Bool.false_eq_true, if_false]
 rw [hnb] at st
 have hb := hb hnb
 refine zaz (hK _ _ ?_)
 clear hK K a12
 have yes : ∀ {σ' : Env} {w' : World}, σ' 8 = .bool true → Mod w4 w' zq → retQ P [.var 8] (Yes w) .ret σ' w' := fun {σ' w'} h hm => ⟨.inr rfl, _, rfl, h, m04.trans' hm⟩
 refine ze fun K hK => ze fun K1 hK1 => zx fun τ => ?_
 simp +decide only [bK, bE, BEq.rfl, Nat.reduceAdd, Nat.add_zero, st.h5, S.f0.run, B.int.run_load1 rfl, cF0]
 refine hK1 _ _ (zd fun σ5 hσ => ?_)
 have a1 := hσ 1
 have a2 := hσ 2
 have a5 := hσ 5
 have a6 := hσ 6
 have a7 := hσ 7
 have a9 := hσ 9
 have a13 := hσ 13
 simp +decide only [bE, Nat.reduceBeqDiff, BEq.rfl, Nat.reduceAdd, st.h1, st.h2, st.h5, st.h6, st.h7, st.h9] at a1 a2 a5 a6 a7 a9 a13
 have st : GSt σ5 v flex false bF bT bG := ⟨a1, a2, a5, a6, a7, a9⟩
 clear hσ hK1 K1 a1 a2 a5 a6 a7 a9
 refine zdy ?_
 refine zyx hlo a13 (by decide) ?_
 by_cases e8 : f.kind = 8 ∨ f.kind = 9
 ·rw [if_pos e8]
  have e11 : f.kind ≠ 11 := by omega
  rw [if_neg e11, zka, if_pos e8] at hb
  have st := st.upd (i := 14) (by decide) (.bool (decide (f.kind = 8 ∨ f.kind = 9)))
  refine ze fun K1 hK1 => W_told1 B F hN S hW st cT1 cG1 lT lG (t1.stay m04) (by rw [← hb]; exact g1.stay m04) fun σ6 w6 h8 m6 => hK1 _ _ (zbm ?_)
  exact yes h8 m6
 rw [if_neg e8]
 have st := st.upd (i := 14) (by decide) (.bool (decide (f.kind = 8 ∨ f.kind = 9)))
 have a13' : (upd σ5 14 (.bool (decide (f.kind = 8 ∨ f.kind = 9)))) 13 = .int .i64 f.kind := by rw [zh (by decide)]; exact a13
 refine zgy hlo a13' ?_
 by_cases e7 : f.kind = 7
 ·rw [if_pos e7]
  have e11 : f.kind ≠ 11 := by omega
  rw [if_neg e11, zka, if_neg e8, if_pos e7] at hb
  have st := st.upd (i := 15) (by decide) (.bool (decide (f.kind = 7)))
  obtain ⟨w5, hmk, m5, s5, ho5⟩ := zuw B w4
  obtain ⟨cv, w6, hcp, ho6, m6, s6⟩ := run_cp16 (ty := N.zg) B ho5 ((t1.stay m04).stay m5)
  refine ze fun K2 hK2 => zx fun τ => ?_
  simp +decide only [bK, bE, BEq.rfl, Nat.reduceAdd, zfx, hmk]
  refine hK2 _ _ (zd fun σ6 hσ => ?_)
  have c6 := hσ 6
  have c7 := hσ 7
  have c16 := hσ 16
  simp +decide only [bE, Nat.reduceBeqDiff, BEq.rfl, Nat.reduceAdd, st.h6, st.h7] at c6 c7 c16
  clear hσ hK2 K2
  have cT1' : w5.cell? ⟨bT, 1, none⟩ = some vs := by rw [m5.cell _ _ lT fun h => h]; exact cT1
  refine ze fun K2 hK2 => zx fun τ => ?_
  simp +decide only [bK, bE, Nat.reduceBeqDiff, BEq.rfl, Nat.reduceAdd, Nat.zero_add, c6, c16, S.tr.h1.run, B.Lu8.run_load1 rfl, cT1', zrf, hcp]
  refine hK2 _ _ (zd fun σ7 hσ => ?_)
  have d7 := hσ 7
  have d16 := hσ 16
  simp +decide only [bE, Nat.reduceBeqDiff, Nat.reduceAdd, c7, c16] at d7 d16
  clear hσ hK2 K2
  have m46 : Mod w4 w6 zq := m5.fresh m6 fun k o h => by have : k = w4.heap.size := h; omega
  have cG1' : w6.cell? ⟨bG, 1, none⟩ = some gs := by rw [m46.cell _ _ lG fun h => h]; exact cG1
  refine ze fun K2 hK2 => zx fun τ => ?_
  simp +decide only [bK, bE, Nat.reduceBeqDiff, BEq.rfl, Nat.reduceAdd, Nat.zero_add, d7, d16, S.tr.h1.run, B.Lu8.run_load1 rfl, cG1']
  rw [zbw (F.spec_Same hN).has]
  simp +decide only [bK, bE, Nat.reduceBeqDiff, BEq.rfl]
  have hid : (idB t.s).length < 4611686018427387904 := by simp [idB]; omega
  refine (zmu B F hN (l := idB t.s) (by rw [← hb]; exact (g1.stay m04).stay m46) ho6.octA hid).mono ?_
  rintro _ w7 ⟨rfl, m7⟩
  try simp +decide only [bK, bE, zft, Nat.reduceBeqDiff, decide_true, decide_false, BEq.rfl, beq_self_eq_true, reduceIte, Nat.reduceAdd, Nat.reduceSub, Nat.reduceLT, Nat.reduceEqDiff, Nat.reduceLeDiff, Nat.reduceMul, Nat.add_sub_cancel, Int.reduceToNat, Nat.add_zero, Nat.zero_add, Nat.mul_one, Nat.reduceBEq, reduceCtorEq, Nat.zero_ne_one, Nat.one_ne_zero, Nat.lt_irrefl, if_false, if_true, List.take_succ_cons, List.take_zero, List.drop_succ_cons, List.drop_zero, true_and, Option.map_some, Option.map_none]
  refine hK2 _ _ (zd fun σ8 hσ => zbm ?_)
  have q := hσ 8
  simp +decide only [bE, BEq.rfl, Nat.reduceAdd] at q
  exact yes q (m46.trans' m7)
 rw [if_neg e7]
 have st := st.upd (i := 15) (by decide) (.bool (decide (f.kind = 7)))
 have a13' : (upd (upd σ5 14 (.bool (decide (f.kind = 8 ∨ f.kind = 9)))) 15 (.bool (decide (f.kind = 7)))) 13 = .int .i64 f.kind := by rw [zh (by decide)]; exact a13'
 refine zgy hlo a13' ?_
 by_cases e10 : f.kind = 10
 ·rw [if_pos e10]
  have e11 : f.kind ≠ 11 := by omega
  rw [if_neg e11, zka, if_neg e8, if_neg e7, if_pos e10] at hb
  have st := st.upd (i := 17) (by decide) (.bool (decide (f.kind = 10)))
  refine ze fun K2 hK2 => zx fun τ => ?_
  simp +decide only [bK, bE, Nat.reduceBeqDiff, BEq.rfl, Nat.reduceAdd, Nat.zero_add, st.h1, st.h2, st.h5, st.h6, st.h7, S.f7.run, S.lf.run_load1 rfl, cF7, zcp S.tr r2 ht.len, zcp S.tr r3 hg.len]
  rw [zmi hT.Told.has]
  simp +decide only [bK, bE, Nat.reduceBeqDiff, BEq.rfl]
  refine (hsub e10 w4 fv t g ct cg (hfv.stay m04) (RepA.stay m04 _ ht) (RepA.stay m04 _ hg) hb).mono ?_
  rintro _ w5 ⟨rfl, m5⟩
  try simp +decide only [bK, bE, zft, Nat.reduceBeqDiff, decide_true, decide_false, BEq.rfl, beq_self_eq_true, reduceIte, Nat.reduceAdd, Nat.reduceSub, Nat.reduceLT, Nat.reduceEqDiff, Nat.reduceLeDiff, Nat.reduceMul, Nat.add_sub_cancel, Int.reduceToNat, Nat.add_zero, Nat.zero_add, Nat.mul_one, Nat.reduceBEq, reduceCtorEq, Nat.zero_ne_one, Nat.one_ne_zero, Nat.lt_irrefl, if_false, if_true, List.take_succ_cons, List.take_zero, List.drop_succ_cons, List.drop_zero, true_and, Option.map_some, Option.map_none]
  refine hK2 _ _ (zd fun σ8 hσ => zbm ?_)
  have q := hσ 8
  simp +decide only [bE, BEq.rfl, Nat.reduceAdd] at q
  exact yes q m5
 rw [if_neg e10]
 have st := st.upd (i := 17) (by decide) (.bool (decide (f.kind = 10)))
 have a13' : (upd (upd (upd σ5 14 (.bool (decide (f.kind = 8 ∨ f.kind = 9)))) 15 (.bool (decide (f.kind = 7)))) 17 (.bool (decide (f.kind = 10)))) 13 = .int .i64 f.kind := by rw [zh (by decide)]; exact a13'
 refine zgy hlo a13' ?_
 have st := st.upd (i := 18) (by decide) (.bool (decide (f.kind = 11)))
 obtain ⟨σ9, hσ9⟩ : ∃ σ9, σ9 = upd (upd (upd (upd σ5 14 (.bool (decide (f.kind = 8 ∨ f.kind = 9)))) 15 (.bool (decide (f.kind = 7)))) 17 (.bool (decide (f.kind = 10)))) 18 (.bool (decide (f.kind = 11))) := ⟨_, rfl⟩
 rw [← hσ9] at st ⊢
 clear hσ9 a13 a13'
 by_cases e11 : f.kind = 11
 ·rw [if_pos e11] at hb ⊢
  obtain ⟨hlen, hel⟩ := hb
  obtain ⟨hone, hof⟩ := helm e11
  have t2 := t2.stay m04
  have g2 := g2.stay m04
  refine ze fun K2 hK2 => zx fun τ => ?_
  simp +decide only [bK, bE, BEq.rfl, Nat.reduceAdd, Nat.zero_add, st.h6, S.tr.h3.run, S.tr.lt.run_load1 rfl, cT3]
  rw [zam hW.things.has]
  simp +decide only [bK, bE, BEq.rfl]
  refine (zsa S hW.things t2).mono ?_
  rintro vL _ ⟨rfl, hL⟩
  refine hK2 _ _ (zd fun σ10 hσ => ?_)
  have a1 := hσ 1
  have a2 := hσ 2
  have a5 := hσ 5
  have a7 := hσ 7
  have a19 := hσ 19
  simp +decide only [bE, Nat.reduceBeqDiff, BEq.rfl, Nat.reduceAdd, st.h1, st.h2, st.h5, st.h7] at a1 a2 a5 a7 a19
  clear hσ hK2 K2
  obtain ⟨l, hl⟩ : ∃ l, l = zef t.l := ⟨_, rfl⟩
  rw [← hl] at hL hlen hel
  have hll : l.length ≤ 32767 := by rw [hl]; simp [zef, most]; omega
  have hne : (((g.l.length : Nat) : Int) != ((l.length : Nat) : Int)) = false := by rw [hlen]; simp
  refine ze fun K2 hK2 => ze fun K1 hK1 => zx fun τ => ?_
  simp +decide only [bK, bE, Nat.reduceBeqDiff, BEq.rfl, Nat.reduceAdd, Nat.zero_add, a7, a19, S.tr.h3.run, S.tr.lt.run_load1 rfl, cG3, g2.run_len S, hL.run_len S, hne]
  refine hK1 _ _ (zd fun σ11 hσ => ?_)
  have b1 := hσ 1
  have b2 := hσ 2
  have b5 := hσ 5
  have b7 := hσ 7
  have b19 := hσ 19
  have b20 := hσ 20
  simp +decide only [bE, Nat.reduceBeqDiff, BEq.rfl, Nat.reduceAdd, a1, a2, a5, a7, a19] at b1 b2 b5 b7 b19 b20
  clear hσ hK1 K1 a1 a2 a5 a7 a19
  refine W_if hlo b20 ?_
  simp only [Bool.false_eq_true, if_false]
  refine zaz (hK2 _ _ ?_)
  clear hK2 K2 b20
  obtain ⟨fs', hti⟩ := S.fld.out
  obtain ⟨w5, w6, hal, hst, _, m46, s6, r6, th6⟩ := zkd (cs := cf) hti.1 (by decide) rfl hf.len hf.ones w4
  refine ze fun K2 hK2 => zx fun τ => ?_
  simp +decide only [bK, bE, Nat.reduceBeqDiff, BEq.rfl, Nat.reduceAdd, b5, zjr S r1 hf.len, hal, hst]
  refine hK2 _ _ (zd fun σ12 hσ => ?_)
  have c1 := hσ 1
  have c2 := hσ 2
  have c5 := hσ 5
  have c7 := hσ 7
  have c19 := hσ 19
  have c21 := hσ 21
  simp +decide only [bE, Nat.reduceBeqDiff, BEq.rfl, Nat.reduceAdd, b1, b2, b5, b7, b19] at c1 c2 c5 c7 c19 c21
  clear hσ hK2 K2 b1 b2 b5 b7 b19
  obtain ⟨b21, hb21⟩ : ∃ b, b = w4.heap.size := ⟨_, rfl⟩
  rw [← hb21] at c21 r6 th6
  have l21 : b21 < w6.heap.size := by omega
  have th6 : w6.there b21 0 8 := th6
  have cF6' : w6.cell? ⟨bF, 6, none⟩ = some (.int .i64 f.of) := by rw [m46.cell _ _ lF fun h => h]; exact cF6
  have th : ∀ {w' : World} {o : Nat}, Mod w6 w' (blk b21) → o < 8 → w'.there b21 o 1 := fun {w' o} hm ho => hm.there l21 fun j hj => by
   have := th6 (o + j) (by omega)
   rwa [Nat.zero_add] at this
  have st6 := B.int.run_store1 (P := P) (w := w6) (b := b21) (o := 0) (v := .int .i64 f.of) rfl (th (.refl _ _) (by decide))
  obtain ⟨w7, hw7⟩ : ∃ w7, w7 = w6.setCell ⟨b21, 0, none⟩ (.int .i64 f.of) := ⟨_, rfl⟩
  have m7 : Mod w6 w7 (blk b21) := by rw [hw7]; exact Mod.setCell fun _ => rfl
  have r7 := zlj (i := 0) (v := .int .i64 f.of) r6 (by rw [hf.len]; decide)
  rw [← hw7] at r7 st6
  clear hw7
  have st7 := B.int.run_store1 (P := P) (w := w7) (b := b21) (o := 3) (v := .int .i64 (-1)) rfl (th m7 (by decide))
  obtain ⟨w8, hw8⟩ : ∃ w8, w8 = w7.setCell ⟨b21, 3, none⟩ (.int .i64 (-1)) := ⟨_, rfl⟩
  have m8 : Mod w7 w8 (blk b21) := by rw [hw8]; exact Mod.setCell fun _ => rfl
  have r8 := zlj (i := 3) (v := .int .i64 (-1)) r7 (by rw [List.length_set, hf.len]; decide)
  rw [← hw8] at r8 st7
  clear hw8
  have st8 := B.int.run_store1 (P := P) (w := w8) (b := b21) (o := 4) (v := .int .i64 (-1)) rfl (th (m7.trans' m8) (by decide))
  obtain ⟨w9, hw9⟩ : ∃ w9, w9 = w8.setCell ⟨b21, 4, none⟩ (.int .i64 (-1)) := ⟨_, rfl⟩
  have m9 : Mod w8 w9 (blk b21) := by rw [hw9]; exact Mod.setCell fun _ => rfl
  have r9 := zlj (i := 4) (v := .int .i64 (-1)) r8 (by rw [List.length_set, List.length_set, hf.len]; decide)
  rw [← hw9] at r9 st8
  clear hw9
  have m69 := (m7.trans' m8).trans' m9
  have m49 : Mod w4 w9 zq := m46.fresh m69 fun k o h => by have : k = b21 := h; omega
  have m09 := m04.trans' m49
  have hF9 : RepF w9 f.one (((cf.set 0 (.int .i64 f.of)).set 3 (.int .i64 (-1))).set 4 (.int .i64 (-1))) := by
   rw [hcf]
   exact RepF.mk' (f := f.one) (hfv.stay m09)
  refine ze fun K2 hK2 => zx fun τ => ?_
  simp +decide only [bK, bE, Nat.reduceBeqDiff, BEq.rfl, Nat.reduceAdd, Nat.add_zero, Nat.zero_add, c5, c21, S.f0.run, S.f3.run, S.f4.run, S.f6.run, B.int.run_load1 rfl, cF6', st6, st7, st8]
  refine hK2 _ _ (zd fun σ13 hσ => ?_)
  have d1 := hσ 1
  have d2 := hσ 2
  have d7 := hσ 7
  have d19 := hσ 19
  have d21 := hσ 21
  simp +decide only [bE, Nat.reduceBeqDiff, Nat.reduceAdd, c1, c2, c7, c19, c21] at d1 d2 d7 d19 d21
  clear hσ hK2 K2 c1 c2 c5 c7 c19 c21
  refine ze fun K2 hK2 => ze fun K1 hK1 => zx fun τ => ?_
  simp +decide only [bK, bE, BEq.rfl, Nat.reduceAdd, d19, hL.run_len S]
  refine hK1 _ _ (zd fun σ14 hσ => ?_)
  have e1 := hσ 1
  have e2 := hσ 2
  have e7 := hσ 7
  have e19 := hσ 19
  have e21 := hσ 21
  have e22 := hσ 22
  have e23 := hσ 23
  simp +decide only [bE, Nat.reduceBeqDiff, BEq.rfl, Nat.reduceAdd, d1, d2, d7, d19, d21] at e1 e2 e7 e19 e21 e22 e23
  clear hσ hK1 K1 d1 d2 d7 d19 d21
  have cG3' : w9.cell? ⟨bG, 3, none⟩ = some gl := by rw [m49.cell _ _ lG fun h => h]; exact cG3
  have lG' : bG < w9.heap.size := Nat.lt_of_lt_of_le lG m49.size
  have l21' : b21 < w9.heap.size := Nat.lt_of_lt_of_le l21 m69.size
  refine zfp (i := 23) (l := 22) (c := 24) (k := 1) hlo (L := l.length) (by omega) (fun j σ w' => ESt w9 σ w' v flex bG b21 l.length j vL) (fun j σ w h => ⟨h.h23, h.h22, h.le⟩) (fun j σ w b h => h.upd (by decide) _) ⟨e1, e2, e7, e19, e21, e22, e23, Nat.zero_le _, .refl _ _⟩ (fun σ' w' h => hK2 _ _ ?_) (fun j σ' w' hj h => ?_)
  ·refine ze fun K3 hK3 => zau (hK3 _ _ (zbm ?_))
   exact yes (upd_same _ _ _) (m49.trans' h.mod)
  ·have hx : l[j]? = some l[j] := List.getElem?_eq_getElem hj
   have hjg : j < g.l.length := by rw [hlen]; exact hj
   have hz : g.l[j]? = some g.l[j] := List.getElem?_eq_getElem hjg
   have htj : zph flex v f.one l[j] g.l[j] := by
    obtain ⟨x1, x2⟩ := hel j _ _ hx hz
    rw [zjk]
    have hnn : f.one.nullB v l[j] = false := by simp [Fld.one, Fld.nullB, Fld.null]
    have hmm : f.one.may v = false := by simp [Fld.one, Fld.may, Fld.null]
    refine ⟨fun hc => ?_, fun _ => ?_⟩
    ·rw [hnn]
     rcases hc with hc | hc | hc
     ·exact x1 (.inl hc)
     ·exact x1 (.inr hc)
     ·rw [hmm] at hc; cases hc
    ·rw [if_neg (show f.one.kind ≠ 11 from hof)]
     exact x2
   refine ze fun K3 hK3 => zx fun τ => ?_
   simp +decide only [bK, bE, BEq.rfl, Nat.reduceAdd, h.h23]
   refine hK3 _ _ (zd fun σ15 hσ => ?_)
   have k1 := hσ 1
   have k2 := hσ 2
   have k7 := hσ 7
   have k19 := hσ 19
   have k21 := hσ 21
   have k22 := hσ 22
   have k23 := hσ 23
   have k25 := hσ 25
   simp +decide only [bE, Nat.reduceBeqDiff, BEq.rfl, Nat.reduceAdd, h.h1, h.h2, h.h7, h.h19, h.h21, h.h22, h.h23] at k1 k2 k7 k19 k21 k22 k23 k25
   clear hσ hK3 K3
   refine ze fun K3 hK3 => W_each B S hT hone ⟨k1, k2, k7, k19, k21, k22, k23, h.le, h.mod⟩ k25 r9 l21' hF9 cG3' lG' (hL.stay m49) (g2.stay m49) hx hz htj fun σ16 w16 h26 st16 => hK3 _ _ (W_if hlo h26 ?_)
   simp only [Bool.false_eq_true, if_false]
   exact zaz ⟨st16.h23, st16.next hj⟩
 ·rw [if_neg e11] at hb ⊢
  rw [zka, if_neg e8, if_neg e7, if_neg e10] at hb
  refine zaz ?_
  simp only [inB]
  refine hK _ _ ?_
  refine ze fun K3 hK3 => W_told0 B S hT st cF0 cT0 (by rw [← hb]; exact cG0) lF lT lG fun σ15 w15 h8 m15 => hK3 _ _ (zbm ?_)
  exact yes h8 m15
end
section
variable {P : Program} {N : Nums} {M : zcd}
structure QSt (w0 : World) (σ : Env) (w : World) (fv : Value) (bT n j : Nat) : Prop where
 h2 : σ 2 = .pointer (some ⟨bT, 0, none⟩)
 h5 : σ 5 = fv
 h6 : σ 6 = .int .i64 n
 h7 : σ 7 = .int .i64 j
 le : j ≤ n
 mod : Mod w0 w zq
theorem QSt.upd {w0 w : World} {σ : Env} {fv : Value} {bT n j : Nat} (h : QSt w0 σ w fv bT n j) {i : Nat} (hi : 8 ≤ i) (x : Value) : QSt w0 (upd σ i x) w fv bT n j := by
 obtain ⟨h2, h5, h6, h7, le, mod⟩ := h
 refine ⟨?_, ?_, ?_, ?_, le, mod⟩ <;> (rw [zh (by omega)]; assumption)
theorem QSt.stay {w0 w w' : World} {σ : Env} {fv : Value} {bT n j : Nat} (h : QSt w0 σ w fv bT n j) (m : Mod w w' zq) : QSt w0 σ w' fv bT n j := ⟨h.h2, h.h5, h.h6, h.h7, h.le, h.mod.trans' m⟩
theorem QSt.same {w0 w : World} {σ σ' : Env} {fv : Value} {bT n j : Nat} (h : QSt w0 σ w fv bT n j) (h2 : σ' 2 = σ 2) (h5 : σ' 5 = σ 5) (h6 : σ' 6 = σ 6) (h7 : σ' 7 = σ 7) : QSt w0 σ' w fv bT n j := ⟨h2.trans h.h2, h5.trans h.h5, h6.trans h.h6, h7.trans h.h7, h.le, h.mod⟩
theorem QSt.next {w0 w : World} {σ : Env} {fv : Value} {bT n j : Nat} (h : QSt w0 σ w fv bT n j) (hj : j < n) : QSt w0 (Go.Kf.upd σ 7 (.int .i64 ((j + 1 : Nat) : Int))) w fv bT n (j + 1) := by
 obtain ⟨h2, h5, h6, h7, le, mod⟩ := h
 refine ⟨?_, ?_, ?_, upd_same _ _ _, hj, mod⟩ <;> (rw [zh (by omega)]; assumption)
def dUs7 (N : Nums) : C := .draw [
 ⟨some 0, .fieldAddr N.zc (V 11) 1, 0, none, []⟩,
 ⟨some 1, .load N.za (T 0), 0, none, [0]⟩,
 ⟨some 2, .makeSlice N.za (.const (.int .i64 16)) (.const (.int .i64 16)), 0, none, []⟩,
 ⟨some 3, .call ⟨.value (.func N.zbu), #[T 1, T 2], #[N.za, N.za]⟩, N.zae, none, [1, 2]⟩,
 ⟨some 116, .unOp .not N.zae (T 3), 0, none, [3]⟩]
theorem W_us7 (B : Base P N) (F : Fns P N) (hN : N.zbu ≠ 0) (S : SpT P N M) {loc : List Nat} {N' : Nat} {Q : Exit → Env → World → Prop} {σ : Env} {w : World} {bX : Nat} {xs : Value} (h11 : σ 11 = .pointer (some ⟨bX, 0, none⟩)) (hc : w.cell? ⟨bX, 1, none⟩ = some xs) (hl : bX < w.heap.size) (ho : OctA w xs (List.replicate 16 0))
  (hQ : ∀ (σ' : Env) (w' : World), (∀ i, i ≠ 16 → σ' i = σ i) → σ' 16 = .bool false → Mod w w' zq → Q .normal σ' w') : W P loc N' (dUs7 N) Q σ w := by
 unfold dUs7
 have md : Mod w w.drew zq := Mod.drew _ _
 refine zet B.mixed [true, true, false, false, false] (by kernel_rfl) (fun w' => Mod w w' zq) md fun τ => ?_
 refine zb (.pointer (some ⟨bX, 1, none⟩)) (fun w' _ => zi (by
  simp +decide only [bE, Nat.reduceAdd, Nat.zero_add, ev_tmp, h11, S.tr.h1.run])) rfl ?_
 refine zb xs (fun w' hw => zi (by
  simp +decide only [bE, BEq.rfl, ev_tmp, B.Lu8.run_load1 rfl, hw.cell _ _ hl fun h => h, hc, ldc_some])) rfl ?_
 simp only [zdf, zco, List.zip_cons_cons, List.zip_nil_right, List.zipWith_cons_cons, List.zipWith_nil_right, List.filter, Bool.not_true, Bool.not_false, List.map, zdg]
 obtain ⟨w1, hmk, m1, s1, ho1⟩ := zuw B w.drew
 simp +decide only [bK, zfx, hmk]
 have m01 := md.trans' m1
 refine ⟨m01, ?_⟩
 rw [zbw (F.spec_Same hN).has]
 simp +decide only [bK, bE, Nat.reduceBeqDiff, BEq.rfl]
 refine (zmu B F hN (l := List.replicate 16 0) (ho.stay m01) ho1.octA (by simp)).mono ?_
 rintro _ w2 ⟨rfl, m2⟩
 refine ⟨m01.trans' m2, ?_⟩
 simp +decide only [bK]
 refine zd fun σ' hσ => hQ σ' w2 (fun i hi => ?_) ?_ (m01.trans' m2)
 ·rw [hσ i]
  have e1 : (i + 100 == 116) = false := beq_eq_false_iff_ne.2 (by omega)
  simp +decide only [bE, Nat.reduceBeqDiff, e1]
 ·have q := hσ 16
  simp +decide only [bE, BEq.rfl, Nat.reduceAdd] at q
  exact q
def dUs0 (N : Nums) (M : zcd) : C := .draw [
 ⟨some 0, .fieldAddr N.zc (V 11) 0, 0, none, []⟩,
 ⟨some 1, .load N.zav (T 0), 0, none, [0]⟩,
 ⟨some 2, .fieldAddr M.zf (V 9) 0, 0, none, []⟩,
 ⟨some 3, .load N.zg (T 2), 0, none, [2]⟩,
 ⟨some 4, .fieldAddr M.zf (V 9) 5, 0, none, []⟩,
 ⟨some 5, .load N.zav (T 4), 0, none, [4]⟩,
 ⟨some 6, .call ⟨.value (.func M.zey), #[T 3, T 5], #[N.zg, N.zav]⟩, N.zav, none, [3, 5]⟩,
 ⟨some 121, .binOp .neq N.zav (T 1) (T 6) N.zav, 0, none, [1, 6]⟩]
theorem W_us0 (B : Base P N) (S : SpT P N M) (hT : STo P N M) {loc : List Nat} {N' : Nat} {Q : Exit → Env → World → Prop} {σ : Env} {w : World} {bX bF : Nat} {kind d : Int} (h9 : σ 9 = .pointer (some ⟨bF, 0, none⟩)) (h11 : σ 11 = .pointer (some ⟨bX, 0, none⟩))
  (hx : w.cell? ⟨bX, 0, none⟩ = some (.int .i64 (numK kind d))) (h0 : w.cell? ⟨bF, 0, none⟩ = some (.int .i64 kind)) (h5 : w.cell? ⟨bF, 5, none⟩ = some (.int .i64 d)) (hlX : bX < w.heap.size) (hlF : bF < w.heap.size)
  (hQ : ∀ (σ' : Env) (w' : World), (∀ i, i ≠ 21 → σ' i = σ i) → σ' 21 = .bool false → Mod w w' zq → Q .normal σ' w') : W P loc N' (dUs0 N M) Q σ w := by
 unfold dUs0
 have md : Mod w w.drew zq := Mod.drew _ _
 refine zet B.mixed [true, true, true, true, true, true, false, false] (by kernel_rfl) (fun w' => Mod w w' zq) md fun τ => ?_
 refine zb (.pointer (some ⟨bX, 0, none⟩)) (fun w' _ => zi (by
  simp +decide only [bE, Nat.reduceAdd, Nat.zero_add, ev_tmp, h11, S.tr.h0.run])) rfl ?_
 refine zb (.int .i64 (numK kind d)) (fun w' hw => zi (by
  simp +decide only [bE, BEq.rfl, ev_tmp, B.int64.run_load1 rfl, hw.cell _ _ hlX fun h => h, hx, ldc_some])) rfl ?_
 refine zb (.pointer (some ⟨bF, 0, none⟩)) (fun w' _ => zi (by
  simp +decide only [bE, Nat.reduceBeqDiff, Nat.reduceAdd, Nat.zero_add, ev_tmp, h9, S.f0.run])) rfl ?_
 refine zb (.int .i64 kind) (fun w' hw => zi (by
  simp +decide only [bE, BEq.rfl, ev_tmp, B.int.run_load1 rfl, hw.cell _ _ hlF fun h => h, h0, ldc_some])) rfl ?_
 refine zb (.pointer (some ⟨bF, 5, none⟩)) (fun w' _ => zi (by
  simp +decide only [bE, Nat.reduceBeqDiff, Nat.reduceAdd, Nat.zero_add, ev_tmp, h9, S.f5.run])) rfl ?_
 refine zb (.int .i64 d) (fun w' hw => zi (by
  simp +decide only [bE, BEq.rfl, ev_tmp, B.int64.run_load1 rfl, hw.cell _ _ hlF fun h => h, h5, ldc_some])) rfl ?_
 simp only [zdf, zco, List.zip_cons_cons, List.zip_nil_right, List.zipWith_cons_cons, List.zipWith_nil_right, List.filter, Bool.not_true, Bool.not_false, List.map, zdg]
 rw [zbw hT.number.has]
 simp +decide only [bK, bE, Nat.reduceBeqDiff, BEq.rfl]
 refine (zwd B hT.n8 hT.number w.drew kind d).mono ?_
 rintro r w2 ⟨rfl, rfl⟩
 refine ⟨md, ?_⟩
 have e : (numK kind d != numK kind d) = false := by simp
 simp +decide only [bK, e]
 refine zd fun σ' hσ => hQ σ' _ (fun i hi => ?_) ?_ md
 ·rw [hσ i]
  have e1 : (i + 100 == 121) = false := beq_eq_false_iff_ne.2 (by omega)
  simp +decide only [bE, Nat.reduceBeqDiff, e1]
 ·have q := hσ 21
  simp +decide only [bE, BEq.rfl, Nat.reduceAdd] at q
  exact q
theorem sp_Usual (B : Base P N) (F : Fns P N) (hN : N.zbu ≠ 0) (S : SpT P N M) (hW : SW P N M) (hT : STo P N M) {w : World} {fv : Value} {fs : List Fld} {g : Tr} {cg : List Value} (hf : zfs w fv fs) (hl : fs.length < 4611686018427387904) (hg : RepA w g cg) (hu : g.u = []) (hk : ∀ f ∈ fs, f.kind ≠ 10)
  (h : ∀ (j : Nat) (hj : j < fs.length), zhy fs[j] (atT g j)) : Call P M.zgi #[fv, .agg cg.toArray] w (Yes w) := by
 refine hT.Usual.call rfl fun loc N' hlo => ?_
 unfold zqi
 obtain ⟨gs, gl, gu, hcg, _, _, g3⟩ := hg.out
 refine ze fun K hK => zx fun τ => ?_
 simp +decide only [bK, bE, Nat.reduceAdd]
 obtain ⟨w1, hw1⟩ : ∃ w1, w1 = w.alloc (.cells (Value.cells (.agg cg.toArray)) N.zc) := ⟨_, rfl⟩
 have m1 : Mod w w1 zq := by rw [hw1]; exact Mod.alloc _ _ _
 have r1 : w1.rangeAt w.heap.size 0 cg := by rw [hw1]; exact zr w _ _ _
 have s1 : w1.heap.size = w.heap.size + 1 := by rw [hw1]; exact zak _ _
 rw [← hw1]
 clear hw1
 refine hK _ _ (zd fun σ hσ => ?_)
 have f0 := hσ 0
 have f2 := hσ 2
 simp +decide only [bE, Nat.reduceBeqDiff, BEq.rfl, Nat.reduceAdd, Nat.zero_add, zmb] at f0 f2
 clear hσ hK K
 have c4 : w1.cell? ⟨w.heap.size, 4, none⟩ = some gu := r1 4 _ (by rw [hcg]; rfl)
 obtain ⟨ad, cp, hgu⟩ : ∃ ad cp, gu = .slice ad 0 cp := by
  rw [hu] at g3
  rcases g3 with ⟨ad, c, e, _⟩ | ⟨b, o, c, cs, e, _⟩
  ·exact ⟨ad, c, e⟩
  ·exact ⟨_, c, e⟩
 have hlen : ∀ {w' : World}, (Builtin.len_ #[N.zk] N.zg #[gu]).run P w' = .ok (.int .i64 ((0 : Nat) : Int)) w' := by
  intro w'; rw [hgu]; exact S.tr.lg.run_len
 refine ze fun K hK => ze fun K1 hK1 => zx fun τ => ?_
 simp +decide only [bK, bE, decide_false, BEq.rfl, Nat.reduceAdd, Nat.zero_add, f2, S.tr.h4.run, S.tr.lg.run_load1 rfl, c4, hlen]
 refine hK1 _ _ (zd fun σ1 hσ => ?_)
 have a0 := hσ 0
 have a2 := hσ 2
 have a4 := hσ 4
 simp +decide only [bE, Nat.reduceBeqDiff, BEq.rfl, Nat.reduceAdd, Nat.zero_add, f0, f2] at a0 a2 a4
 clear hσ hK1 K1 f0 f2
 refine W_if hlo a4 ?_
 rw [if_neg (by decide)]
 refine zaz (hK _ _ ?_)
 clear hK K a4
 refine ze fun K hK => ze fun K1 hK1 => zx fun τ => ?_
 simp +decide only [bK, bE, BEq.rfl, Nat.reduceAdd, Nat.zero_add, a0, hf.run_len S]
 refine hK1 _ _ (zd fun σ2 hσ => ?_)
 have b2 := hσ 2
 have b5 := hσ 5
 have b6 := hσ 6
 have b7 := hσ 7
 simp +decide only [bE, Nat.reduceBeqDiff, BEq.rfl, Nat.reduceAdd, a2] at b2 b5 b6 b7
 clear hσ hK1 K1 a0 a2
 obtain ⟨bT, hbT⟩ : ∃ b, b = w.heap.size := ⟨_, rfl⟩
 rw [← hbT] at b2 r1
 refine zfp (i := 7) (l := 6) (c := 8) (k := 0) hlo (L := fs.length) hl (fun j σ w' => QSt w1 σ w' fv bT fs.length j) (fun j σ w h => ⟨h.h7, h.h6, h.le⟩) (fun j σ w b h => h.upd (by decide) _) ⟨b2, b5, b6, b7, Nat.zero_le _, .refl _ _⟩ (fun σ' w' h => hK _ _ ?_) (fun j σ' w' hj st => ?_)
 ·exact ze fun K3 hK3 => zau (hK3 _ _ (zbm ⟨.inr rfl, _, rfl, upd_same _ _ _, m1.trans' h.mod⟩))
 obtain ⟨bb, oo, cc, cs, w2, w3, hv, hr, hix, hld, hal, hst, m23, s3, r3⟩ := zvh S (hf.stay (m1.trans' st.mod)) hj
 refine ze fun K1 hK1 => zx fun τ => ?_
 simp +decide only [bK, bE, Nat.reduceBeqDiff, BEq.rfl, Nat.reduceAdd, Nat.zero_add, st.h5, st.h7, hix, hld, hal, hst]
 refine hK1 _ _ (zd fun σ3 hσ => ?_)
 have d2 := hσ 2
 have d5 := hσ 5
 have d6 := hσ 6
 have d7 := hσ 7
 have d9 := hσ 9
 have d10 := hσ 10
 simp +decide only [bE, Nat.reduceBeqDiff, BEq.rfl, Nat.reduceAdd, st.h2, st.h5, st.h6, st.h7] at d2 d5 d6 d7 d9 d10
 clear hσ hK1 K1
 have st3 : QSt w1 σ3 w3 fv bT fs.length j := ⟨d2, d5, d6, d7, st.le, st.mod.trans' m23⟩
 clear d2 d5 d6 d7
 obtain ⟨bF, hbF⟩ : ∃ b, b = w'.heap.size := ⟨_, rfl⟩
 rw [← hbF] at d9 r3
 refine ze fun K1 hK1 => zx fun τ => ?_
 simp +decide only [bK, bE, Nat.reduceBeqDiff, BEq.rfl, Nat.reduceAdd, Nat.zero_add, st3.h2, d10, zcp S.tr (zj st3.mod r1) hg.len]
 rw [zbw hW.at_.has]
 simp +decide only [bK, bE, Nat.reduceBeqDiff, BEq.rfl]
 refine (zyt B S hW.at_ (RepA.stay (m1.trans' st3.mod) _ hg) j).mono ?_
 rintro _ w4 ⟨cx, rfl, hx, m4⟩
 obtain ⟨fsT, hti⟩ := S.tr.tree.out
 obtain ⟨w5, w6, hal2, hst2, _, m46, s6, r6, _⟩ := zkd (cs := cx) hti.1 (by decide) rfl hx.len hx.ones w4
 simp +decide only [bK, hal2, hst2]
 refine hK1 _ _ (zd fun σ4 hσ => ?_)
 have e2 := hσ 2
 have e5 := hσ 5
 have e6 := hσ 6
 have e7 := hσ 7
 have e9 := hσ 9
 have e11 := hσ 11
 simp +decide only [bE, Nat.reduceBeqDiff, BEq.rfl, Nat.reduceAdd, d9] at e2 e5 e6 e7 e9 e11
 clear hσ hK1 K1
 have m36 := m4.trans' m46
 have st4 : QSt w1 σ4 w6 fv bT fs.length j := (st3.same e2 e5 e6 e7).stay m36
 clear e2 e5 e6 e7
 obtain ⟨bX, hbX⟩ : ∃ b, b = w4.heap.size := ⟨_, rfl⟩
 rw [← hbX] at e11 r6
 have lX : bX < w6.heap.size := by omega
 have lF : bF < w6.heap.size := by have := m36.size; omega
 have rF := zj m36 r3
 obtain ⟨f, hfe⟩ : ∃ f, f = fs[j] := ⟨_, rfl⟩
 have hus := h j hj
 have hk10 := hk _ (List.getElem_mem hj)
 rw [← hfe] at hr hus hk10
 obtain ⟨x, hxe⟩ : ∃ x, x = atT g j := ⟨_, rfl⟩
 rw [← hxe] at hx hus
 obtain ⟨fv', hcf, _⟩ := hr.out
 obtain ⟨xs, xl, xu, hcx, x1, x2, x3⟩ := hx.out
 have cF0 : w6.cell? ⟨bF, 0, none⟩ = some (.int .i64 f.kind) := rF 0 _ (by rw [hcf]; rfl)
 have cF3 : w6.cell? ⟨bF, 3, none⟩ = some (.int .i64 f.null) := rF 3 _ (by rw [hcf]; rfl)
 have cF5 : w6.cell? ⟨bF, 5, none⟩ = some (.int .i64 f.dflt) := rF 5 _ (by rw [hcf]; rfl)
 have cX0 : w6.cell? ⟨bX, 0, none⟩ = some (.int .i64 x.n) := r6 0 _ (by rw [hcx]; rfl)
 have cX1 : w6.cell? ⟨bX, 1, none⟩ = some xs := r6 1 _ (by rw [hcx]; rfl)
 have cX2 : w6.cell? ⟨bX, 2, none⟩ = some (.bool x.nl) := r6 2 _ (by rw [hcx]; rfl)
 have cX3 : w6.cell? ⟨bX, 3, none⟩ = some xl := r6 3 _ (by rw [hcx]; rfl)
 refine ze fun K1 hK1 => zx fun τ => ?_
 simp +decide only [bK, bE, BEq.rfl, Nat.reduceAdd, Nat.add_zero, Nat.zero_add, e9, S.f0.run, B.int.run_load1 rfl, cF0]
 refine hK1 _ _ (zd fun σ5 hσ => ?_)
 have k2 := hσ 2
 have k5 := hσ 5
 have k6 := hσ 6
 have k7 := hσ 7
 have k9 := hσ 9
 have k11 := hσ 11
 have k12 := hσ 12
 simp +decide only [bE, Nat.reduceBeqDiff, BEq.rfl, Nat.reduceAdd, e9, e11] at k2 k5 k6 k7 k9 k11 k12
 clear hσ hK1 K1 e9 e11
 have st5 : QSt w1 σ5 w6 fv bT fs.length j := st4.same k2 k5 k6 k7
 clear k2 k5 k6 k7 st3 st4
 refine zdy ?_
 refine zgy hlo k12 ?_
 have fin : ∀ {σ7 : Env} {w7 : World}, QSt w1 σ7 w7 fv bT fs.length j → σ7 7 = .int .i64 j ∧ QSt w1 (upd σ7 7 (.int .i64 ((j + 1 : Nat) : Int))) w7 fv bT fs.length (j + 1) := fun h => ⟨h.h7, h.next hj⟩
 unfold zhy at hus
 by_cases e8 : f.kind = 8
 ·rw [if_pos e8] at hus ⊢
  have st6 := st5.upd (i := 13) (by decide) (.bool (decide (f.kind = 8)))
  have k9' : (upd σ5 13 (.bool (decide (f.kind = 8)))) 9 = .pointer (some ⟨bF, 0, none⟩) := by rw [zh (by decide)]; exact k9
  have k11' : (upd σ5 13 (.bool (decide (f.kind = 8)))) 11 = .pointer (some ⟨bX, 0, none⟩) := by rw [zh (by decide)]; exact k11
  have hne : (x.nl != decide (f.null ≥ 0)) = false := by
   rw [hus.1]; show (decide (0 ≤ f.null) != decide (0 ≤ f.null)) = false; simp
  have hs0 : (Builtin.len_ #[N.za] N.zg #[xs]).run P w6 = .ok (.int .i64 ((0 : Nat) : Int)) w6 := by
   have := x1.run_len B (w' := w6) (ty := N.zg)
   rw [hus.2] at this
   exact this
  refine ze fun K1 hK1 => zx fun τ => ?_
  simp +decide only [bK, bE, Nat.reduceBeqDiff, decide_false, BEq.rfl, Nat.reduceAdd, Nat.zero_add, if_false, k9', k11', S.f3.run, S.tr.h1.run, S.tr.h2.run, B.int.run_load1 rfl, B.bool.run_load1 rfl, B.Lu8.run_load1 rfl, cF3, cX2, cX1, zqv B.bool, hne, zal, zbj, hs0]
  refine hK1 _ _ (zd fun σ7 hσ => ?_)
  have q2 := hσ 2
  have q5 := hσ 5
  have q6 := hσ 6
  have q7 := hσ 7
  have q14 := hσ 14
  simp +decide only [bE, Nat.reduceBeqDiff, BEq.rfl, Nat.reduceAdd] at q2 q5 q6 q7 q14
  refine W_if hlo q14 ?_
  rw [if_neg (by decide)]
  refine zaz ?_
  simp only [inB]
  exact fin (st6.same q2 q5 q6 q7)
 rw [if_neg e8] at hus ⊢
 have st6 := st5.upd (i := 13) (by decide) (.bool (decide (f.kind = 8)))
 have k9' : (upd σ5 13 (.bool (decide (f.kind = 8)))) 9 = .pointer (some ⟨bF, 0, none⟩) := by rw [zh (by decide)]; exact k9
 have k11' : (upd σ5 13 (.bool (decide (f.kind = 8)))) 11 = .pointer (some ⟨bX, 0, none⟩) := by rw [zh (by decide)]; exact k11
 have k12' : (upd σ5 13 (.bool (decide (f.kind = 8)))) 12 = .int .i64 f.kind := by rw [zh (by decide)]; exact k12
 refine zgy hlo k12' ?_
 by_cases e7 : f.kind = 7
 ·rw [if_pos e7] at hus ⊢
  have st6 := st6.upd (i := 15) (by decide) (.bool (decide (f.kind = 7)))
  refine ze fun K1 hK1 => W_us7 B F hN S (by rw [zh (by decide)]; exact k11') cX1 lX (by rw [← hus]; exact x1.stay m46) fun σ7 w7 hag h16 m7 => hK1 _ _ (W_if hlo h16 ?_)
  rw [if_neg (by decide)]
  refine zaz ?_
  simp only [inB]
  exact fin ((st6.same (hag 2 (by decide)) (hag 5 (by decide)) (hag 6 (by decide)) (hag 7 (by decide))).stay m7)
 rw [if_neg e7] at hus ⊢
 have st6 := st6.upd (i := 15) (by decide) (.bool (decide (f.kind = 7)))
 have k9 : (upd (upd σ5 13 (.bool (decide (f.kind = 8)))) 15 (.bool (decide (f.kind = 7)))) 9 = .pointer (some ⟨bF, 0, none⟩) := by rw [zh (by decide)]; exact k9'
 have k11 : (upd (upd σ5 13 (.bool (decide (f.kind = 8)))) 15 (.bool (decide (f.kind = 7)))) 11 = .pointer (some ⟨bX, 0, none⟩) := by rw [zh (by decide)]; exact k11'
 have k12 : (upd (upd σ5 13 (.bool (decide (f.kind = 8)))) 15 (.bool (decide (f.kind = 7)))) 12 = .int .i64 f.kind := by rw [zh (by decide)]; exact k12'
 obtain ⟨σ6, hσ6⟩ : ∃ σ6, σ6 = upd (upd σ5 13 (.bool (decide (f.kind = 8)))) 15 (.bool (decide (f.kind = 7))) := ⟨_, rfl⟩
 rw [← hσ6] at st6 k9 k11 k12 ⊢
 clear hσ6 st5 k9' k11' k12'
 refine zyx hlo k12 (by decide) ?_
 have k9' : (upd σ6 17 (.bool (decide (f.kind = 9 ∨ f.kind = 11)))) 9 = .pointer (some ⟨bF, 0, none⟩) := by rw [zh (by decide)]; exact k9
 have k11' : (upd σ6 17 (.bool (decide (f.kind = 9 ∨ f.kind = 11)))) 11 = .pointer (some ⟨bX, 0, none⟩) := by rw [zh (by decide)]; exact k11
 have k12' : (upd σ6 17 (.bool (decide (f.kind = 9 ∨ f.kind = 11)))) 12 = .int .i64 f.kind := by rw [zh (by decide)]; exact k12
 have st7 := st6.upd (i := 17) (by decide) (.bool (decide (f.kind = 9 ∨ f.kind = 11)))
 by_cases e9 : f.kind = 9 ∨ f.kind = 11
 ·rw [if_pos e9] at hus ⊢
  have hs0 : (Builtin.len_ #[N.za] N.zg #[xs]).run P w6 = .ok (.int .i64 ((0 : Nat) : Int)) w6 := by
   have := x1.run_len B (w' := w6) (ty := N.zg)
   rw [hus.1] at this
   exact this
  have hl0 : (Builtin.len_ #[N.zn] N.zg #[xl]).run P w6 = .ok (.int .i64 ((0 : Nat) : Int)) w6 := by
   have := x2.run_len S (w' := w6) (ty := N.zg)
   rw [hus.2] at this
   exact this
  refine ze fun K1 hK1 => zx fun τ => ?_
  simp +decide only [bK, bE, Nat.reduceBeqDiff, decide_false, BEq.rfl, Nat.reduceAdd, Nat.zero_add, if_false, k11', S.tr.h1.run, S.tr.h3.run, B.Lu8.run_load1 rfl, S.tr.lt.run_load1 rfl, cX1, cX3, zal, zbj, hs0, hl0]
  refine hK1 _ _ (zd fun σ7 hσ => ?_)
  have q2 := hσ 2
  have q5 := hσ 5
  have q6 := hσ 6
  have q7 := hσ 7
  have q18 := hσ 18
  simp +decide only [bE, Nat.reduceBeqDiff, BEq.rfl, Nat.reduceAdd] at q2 q5 q6 q7 q18
  refine W_if hlo q18 ?_
  rw [if_neg (by decide)]
  refine zaz ?_
  simp only [inB]
  exact fin (st7.same q2 q5 q6 q7)
 rw [if_neg e9] at hus ⊢
 refine zgy hlo k12' ?_
 rw [if_neg hk10]
 have st8 := st7.upd (i := 19) (by decide) (.bool (decide (f.kind = 10)))
 refine ze fun K1 hK1 => W_us0 B S hT (by rw [zh (by decide)]; exact k9') (by rw [zh (by decide)]; exact k11') (by rw [← hus]; exact cX0) cF0 cF5 lX lF fun σ7 w7 hag h21 m7 => hK1 _ _ (W_if hlo h21 ?_)
 rw [if_neg (by decide)]
 refine zaz ?_
 simp only [inB]
 exact fin ((st8.same (hag 2 (by decide)) (hag 5 (by decide)) (hag 6 (by decide)) (hag 7 (by decide))).stay m7)
end
section
variable {P : Program} {N : Nums} {M : zcd}
def lUs (N : Nums) (M : zcd) : List ROp := [
 ⟨some 0, .load M.zf (V 13), 0, none, []⟩,
 ⟨some 1, .buildSlice M.zac 1 #[(0, T 0)], 0, none, [0]⟩,
 ⟨some 2, .fieldAddr N.zc (V 6) 3, 0, none, []⟩,
 ⟨some 3, .load N.zn (T 2), 0, none, [2]⟩,
 ⟨some 4, .move (V 14), 0, none, []⟩,
 ⟨some 5, .indexAddr N.zn (T 3) (T 4), 0, none, [3, 4]⟩,
 ⟨some 6, .load N.zc (T 5), 0, none, [5]⟩,
 ⟨some 7, .buildSlice N.zn 1 #[(0, T 6)], 0, none, [6]⟩,
 ⟨some 8, .build N.zc #[(3, T 7)], 0, none, [7]⟩,
 ⟨some 9, .call ⟨.value (.func M.zgi), #[T 1, T 8], #[M.zac, N.zc]⟩, N.zae, none, [1, 8]⟩,
 ⟨some 118, .unOp .not N.zae (T 9), 0, none, [9]⟩]
theorem run_bsF (S : SpT P N M) {w : World} {f : Fld} {c : List Value} (hf : RepF w f c) : ∃ w1, (Instr.buildSlice M.zac 1 #[(0, .agg c.toArray)]).run P w = .ok (.slice (some ⟨w.heap.size, 0, none⟩) 1 1) w1 ∧ Mod w w1 zq ∧ zfs w1 (.slice (some ⟨w.heap.size, 0, none⟩) 1 1) [f] := by
 obtain ⟨fs', hti⟩ := S.fld.out
 have h := zfh (w := w) (v := .agg c.toArray) (cs := c) S.lf hti.1 rfl hf.len (by decide) (by decide)
 have m : Mod w (w.alloc (.cells c.toArray M.zf)) zq := Mod.alloc _ _ _
 refine ⟨_, h, m, .inr ⟨w.heap.size, 0, 1, [c], rfl, Nat.le_refl _, ⟨c, [], rfl, RepF.stay m _ hf, rfl⟩, ?_⟩⟩
 have := zr w c.toArray M.zf (0, 0)
 simpa using this
theorem run_bsT (S : SpT P N M) {w : World} {y : Tr} {c : List Value} (hy : RepA w y c) : ∃ w1, (Instr.buildSlice N.zn 1 #[(0, .agg c.toArray)]).run P w = .ok (.slice (some ⟨w.heap.size, 0, none⟩) 1 1) w1 ∧ Mod w w1 zq ∧ zfe w1 (.slice (some ⟨w.heap.size, 0, none⟩) 1 1) [y] := by
 obtain ⟨fs', hti⟩ := S.tr.tree.out
 have h := zfh (w := w) (v := .agg c.toArray) (cs := c) S.tr.lt hti.1 rfl hy.len (by decide) (by decide)
 have m : Mod w (w.alloc (.cells c.toArray N.zc)) zq := Mod.alloc _ _ _
 refine ⟨_, h, m, .inr ⟨w.heap.size, 0, 1, [c], rfl, Nat.le_refl _, ⟨c, [], rfl, RepA.stay m _ hy, rfl⟩, ?_⟩⟩
 have := zr w c.toArray N.zc (0, 0)
 simpa using this
theorem zyh (S : SpT P N M) {w : World} {s : Value} (hs : s.oneCell' = true) : (Instr.build N.zc #[(3, s)]).run P w = .ok (.agg [.int .i64 0, .slice none 0 0, .bool false, s, .slice none 0 0].toArray) w :=
 S.tr.tree.run_build (by simp [Instr.fill, zcs hs])
theorem W_usualOne (B : Base P N) (F : Fns P N) (hN : N.zbu ≠ 0) (S : SpT P N M) (hW : SW P N M) (hT : STo P N M) {loc : List Nat} {N' : Nat} {Q : Exit → Env → World → Prop} {σ : Env} {w : World} {bF bG j : Nat} {gl : Value} {f : Fld} {l : List Tr} {y : Tr} {cf : List Value}
  (h6 : σ 6 = .pointer (some ⟨bG, 0, none⟩)) (h13 : σ 13 = .pointer (some ⟨bF, 0, none⟩)) (h14 : σ 14 = .int .i64 j) (rF : w.rangeAt bF 0 cf) (hf : RepF w f cf) (hG : w.cell? ⟨bG, 3, none⟩ = some gl) (hlG : bG < w.heap.size) (hgl : zfe w gl l) (hy : l[j]? = some y) (hk : f.kind ≠ 10) (hu : zhy f y)
  (hQ : ∀ (σ' : Env) (w' : World), (∀ i, i ≠ 18 → σ' i = σ i) → σ' 18 = .bool false → Mod w w' zq → Q .normal σ' w') : W P loc N' (.draw (lUs N M)) Q σ w := by
 obtain ⟨fsT, hti⟩ := S.tr.tree.out
 obtain ⟨b1, o1, k1, cy, hv1, hr1, hg1⟩ := hgl.get hy
 have hj : j < l.length := (List.getElem?_eq_some_iff.1 hy).1
 have md : Mod w w.drew zq := Mod.drew _ _
 refine zje B.mixed [true, false, true, true, true, true, true, false, false, false, false] rfl (by kernel_rfl) (fun w' => Mod w w' zq) md fun τ => ?_
 refine zb (.agg cf.toArray) (fun w' hw => zi (by
  simp +decide only [bE, Nat.reduceAdd, ev_tmp, h13]
  exact zjr S (zj hw rF) hf.len)) rfl ?_
 show zdf P _ _ ((_, false) :: _) _
 rw [zdf]
 refine zb (.pointer (some ⟨bG, 3, none⟩)) (fun w' hw => zi (by
  simp +decide only [bE, Nat.reduceBeqDiff, Nat.reduceAdd, Nat.zero_add, ev_tmp, h6, S.tr.h3.run])) rfl ?_
 refine zb gl (fun w' hw => zi (by
  simp +decide only [bE, BEq.rfl, ev_tmp, S.tr.lt.run_load1 rfl, hw.cell _ _ hlG fun h => h, hG, ldc_some])) rfl ?_
 refine zb (.int .i64 j) (fun w' _ => by
  rw [zan, ev_tmp]
  simp +decide only [bE, Nat.reduceBeqDiff, Nat.reduceAdd, h14]) rfl ?_
 refine zb (.pointer (some ⟨b1, o1 + j * 5, none⟩)) (fun w' hw => zi (by
  have := fun {w : World} => zaa (P := P) (w := w) S.tr.lt hti.1 (bl := b1) (o := o1) (n := l.length) (c := k1) (i := j) (k := .i64) hj
  simp +decide only [bE, Nat.reduceBeqDiff, BEq.rfl, ev_tmp]
  rw [hv1]; exact this)) rfl ?_
 refine zb (.agg cy.toArray) (fun w' hw => zi (by
  simp +decide only [bE, BEq.rfl, ev_tmp]
  exact zcp S.tr (zj hw hg1) hr1.len)) rfl ?_
 simp only []
 show anyC P _ _ _ _ (4 + 1) [1, 7, 8, 9, 10] _ _
 have fin : ∀ {ρ : Env} {w' : World} {s1 s7 : Value}, ρ 1 = s1 → ρ 8 = .agg [.int .i64 0, .slice none 0 0, .bool false, s7, .slice none 0 0].toArray → (∀ k, ρ (k + 100) = σ k) → Mod w w' zq → zfs w' s1 [f] → zfe w' s7 [y] →
   anyC P (fun w' => Mod w w' zq) (lUs N M) (rdOf [true, false, true, true, true, true, true, false, false, false, false]) (fun ρ w => Q .normal (locs ρ) w) (1 + 1) [9, 10] ρ w' := by
  intro ρ w' s1 s7 e1 e8 eσ m hs1 hs7
  refine zdo [9] (by kernel_rfl) fun k hk => ?_
  simp only [List.mem_cons, List.not_mem_nil, or_false] at hk
  subst hk
  show zbk P ⟨some 9, .call ⟨.value (.func M.zgi), #[T 1, T 8], #[M.zac, N.zc]⟩, N.zae, none, [1, 8]⟩ _ _ _
  rw [zbw hT.Usual.has, ev_tmp, ev_tmp, e1, e8]
  have hg : RepA w' (.mk 0 [] false [y] []) [.int .i64 0, .slice none 0 0, .bool false, s7, .slice none 0 0] := RepA.mk' (t := .mk 0 [] false [y] []) (.inl ⟨_, _, rfl, rfl⟩) hs7 (.inl ⟨_, _, rfl, rfl⟩)
  refine (sp_Usual B F hN S hW hT hs1 (by simp) hg rfl (fun f' hf' => by simp at hf'; subst hf'; exact hk) fun i hi => ?_).mono ?_
  ·have : i = 0 := by simpa using hi
   subst this
   exact hu
  rintro _ w2 ⟨rfl, m2⟩
  have m02 := m.trans' m2
  refine ⟨.inr m02, ?_⟩
  show anyC P _ _ _ _ (0 + 1) [10] _ _
  refine zdo [10] (by kernel_rfl) fun k hk => ?_
  simp only [List.mem_cons, List.not_mem_nil, or_false] at hk
  subst hk
  show zbk P ⟨some 118, .unOp .not N.zae (T 9), 0, none, [9]⟩ _ _ _
  simp +decide only [bK, bE, BEq.rfl]
  refine ⟨.inr m02, ?_⟩
  show Q .normal _ _
  refine zd (K := fun σ' w' => Q .normal σ' w') fun σ' hσ => hQ σ' w2 (fun i hi => ?_) ?_ m02
  ·rw [hσ i]
   have x1 : (i + 100 == 118) = false := beq_eq_false_iff_ne.2 (by omega)
   simp +decide only [bE, Nat.reduceBeqDiff, x1, eσ]
  ·have q := hσ 18
   simp +decide only [bE, BEq.rfl, Nat.reduceAdd] at q
   exact q
 have a0 : ∀ ρ : Env, (#[(0, T 0)] : Array (Nat × Operand)).map (fun p => (p.1, ev ρ p.2)) = #[(0, ρ 0)] := fun ρ => by simp
 have a6 : ∀ ρ : Env, (#[(0, T 6)] : Array (Nat × Operand)).map (fun p => (p.1, ev ρ p.2)) = #[(0, ρ 6)] := fun ρ => by simp
 have a7 : ∀ ρ : Env, (#[(3, T 7)] : Array (Nat × Operand)).map (fun p => (p.1, ev ρ p.2)) = #[(3, ρ 7)] := fun ρ => by simp
 have one : ∀ {ad : Option Addr} {n c : Nat}, (Value.slice ad n c).oneCell' = true := fun {ad n c} => rfl
 refine zdo [1, 7] (by kernel_rfl) fun k hk => ?_
 simp only [List.mem_cons, List.not_mem_nil, or_false] at hk
 rcases hk with rfl | rfl
 ·show zbk P ⟨some 1, .buildSlice M.zac 1 #[(0, T 0)], 0, none, [0]⟩ _ _ _
  obtain ⟨w1, hb1, m1, hF1⟩ := run_bsF S (RepF.stay md _ hf)
  simp +decide only [bK, bE, Nat.reduceBeqDiff, BEq.rfl, a0, hb1]
  have m01 := md.trans' m1
  refine ⟨.inr m01, ?_⟩
  show anyC P _ _ _ _ (3 + 1) [7, 8, 9, 10] _ _
  refine zdo [7] (by kernel_rfl) fun k hk => ?_
  simp only [List.mem_cons, List.not_mem_nil, or_false] at hk
  subst hk
  show zbk P ⟨some 7, .buildSlice N.zn 1 #[(0, T 6)], 0, none, [6]⟩ _ _ _
  obtain ⟨w2, hb2, m2, hT2⟩ := run_bsT S (RepA.stay m01 _ hr1)
  simp +decide only [bK, bE, Nat.reduceBeqDiff, BEq.rfl, a6, hb2]
  have m02 := m01.trans' m2
  refine ⟨.inr m02, ?_⟩
  show anyC P _ _ _ _ (2 + 1) [8, 9, 10] _ _
  refine zdo [8] (by kernel_rfl) fun k hk => ?_
  simp only [List.mem_cons, List.not_mem_nil, or_false] at hk
  subst hk
  show zbk P ⟨some 8, .build N.zc #[(3, T 7)], 0, none, [7]⟩ _ _ _
  simp +decide only [bK, bE, BEq.rfl, a7, zyh S one]
  refine ⟨.inr m02, ?_⟩
  exact fin (by simp +decide only [bE, Nat.reduceBeqDiff, BEq.rfl]) (by simp +decide only [bE, BEq.rfl]) (fun k => by simp +decide only [bE, Nat.reduceBeqDiff]) m02 (hF1.stay m2) hT2
 ·show zbk P ⟨some 7, .buildSlice N.zn 1 #[(0, T 6)], 0, none, [6]⟩ _ _ _
  obtain ⟨w1, hb1, m1, hT1⟩ := run_bsT S (RepA.stay md _ hr1)
  simp +decide only [bK, bE, BEq.rfl, a6, hb1]
  have m01 := md.trans' m1
  refine ⟨.inr m01, ?_⟩
  show anyC P _ _ _ _ (3 + 1) [1, 8, 9, 10] _ _
  refine zdo [1, 8] (by kernel_rfl) fun k hk => ?_
  simp only [List.mem_cons, List.not_mem_nil, or_false] at hk
  obtain ⟨w2, hb2, m2, hF2⟩ := run_bsF S (RepF.stay m01 _ hf)
  have m02 := m01.trans' m2
  rcases hk with rfl | rfl
  ·show zbk P ⟨some 1, .buildSlice M.zac 1 #[(0, T 0)], 0, none, [0]⟩ _ _ _
   simp +decide only [bK, bE, Nat.reduceBeqDiff, BEq.rfl, a0, hb2]
   refine ⟨.inr m02, ?_⟩
   show anyC P _ _ _ _ (2 + 1) [8, 9, 10] _ _
   refine zdo [8] (by kernel_rfl) fun k hk => ?_
   simp only [List.mem_cons, List.not_mem_nil, or_false] at hk
   subst hk
   show zbk P ⟨some 8, .build N.zc #[(3, T 7)], 0, none, [7]⟩ _ _ _
   simp +decide only [bK, bE, Nat.reduceBeqDiff, BEq.rfl, a7, zyh S one]
   refine ⟨.inr m02, ?_⟩
   exact fin (by simp +decide only [bE, Nat.reduceBeqDiff, BEq.rfl]) (by simp +decide only [bE, BEq.rfl]) (fun k => by simp +decide only [bE, Nat.reduceBeqDiff]) m02 hF2 (hT1.stay m2)
  ·show zbk P ⟨some 8, .build N.zc #[(3, T 7)], 0, none, [7]⟩ _ _ _
   simp +decide only [bK, bE, BEq.rfl, a7, zyh S one]
   refine ⟨.inr m01, ?_⟩
   show anyC P _ _ _ _ (2 + 1) [1, 9, 10] _ _
   refine zdo [1] (by kernel_rfl) fun k hk => ?_
   simp only [List.mem_cons, List.not_mem_nil, or_false] at hk
   subst hk
   show zbk P ⟨some 1, .buildSlice M.zac 1 #[(0, T 0)], 0, none, [0]⟩ _ _ _
   simp +decide only [bK, bE, Nat.reduceBeqDiff, BEq.rfl, a0, hb2]
   refine ⟨.inr m02, ?_⟩
   exact fin (by simp +decide only [bE, BEq.rfl]) (by simp +decide only [bE, Nat.reduceBeqDiff, BEq.rfl]) (fun k => by simp +decide only [bE, Nat.reduceBeqDiff]) m02 hF2 (hT1.stay m2)
end
section
variable {P : Program} {N : Nums} {M : zcd}
def dToldOne (N : Nums) (M : zcd) : C := .draw [
 ⟨some 0, .load M.zf (V 13), 0, none, []⟩,
 ⟨some 1, .move (V 1), 0, none, []⟩,
 ⟨some 2, .move (V 2), 0, none, []⟩,
 ⟨some 3, .load N.zc (V 15), 0, none, []⟩,
 ⟨some 4, .fieldAddr N.zc (V 6) 3, 0, none, []⟩,
 ⟨some 5, .load N.zn (T 4), 0, none, [4]⟩,
 ⟨some 6, .move (V 14), 0, none, []⟩,
 ⟨some 7, .indexAddr N.zn (T 5) (T 6), 0, none, [5, 6]⟩,
 ⟨some 8, .load N.zc (T 7), 0, none, [7]⟩,
 ⟨some 9, .call ⟨.value (.func M.zhi), #[T 0, T 1, T 2, T 3, T 8], #[M.zf, N.zg, N.zae, N.zc, N.zc]⟩, N.zae, none, [0, 1, 2, 3, 8]⟩,
 ⟨some 117, .unOp .not N.zae (T 9), 0, none, [9]⟩]
theorem W_toldOne (B : Base P N) (S : SpT P N M) (hT : STo P N M) {loc : List Nat} {N' : Nat} {Q : Exit → Env → World → Prop} {σ : Env} {w : World} {v : Int} {flex : Bool} {bF bX bG j : Nat} {gl : Value} {f : Fld} {l : List Tr} {x y : Tr} {cf cx : List Value}
  (h1 : σ 1 = .int .i64 v) (h2 : σ 2 = .bool flex) (h6 : σ 6 = .pointer (some ⟨bG, 0, none⟩)) (h13 : σ 13 = .pointer (some ⟨bF, 0, none⟩)) (h14 : σ 14 = .int .i64 j) (h15 : σ 15 = .pointer (some ⟨bX, 0, none⟩))
  (rF : w.rangeAt bF 0 cf) (hf : RepF w f cf) (rX : w.rangeAt bX 0 cx) (hx : RepA w x cx) (hG : w.cell? ⟨bG, 3, none⟩ = some gl) (hlG : bG < w.heap.size) (hgl : zfe w gl l) (hy : l[j]? = some y) (ok : zvy P M flex v f) (ht : zph flex v f x y)
  (hQ : ∀ (σ' : Env) (w' : World), (∀ i, i ≠ 17 → σ' i = σ i) → σ' 17 = .bool false → Mod w w' zq → Q .normal σ' w') : W P loc N' (dToldOne N M) Q σ w := by
 unfold dToldOne
 obtain ⟨fsT, hti⟩ := S.tr.tree.out
 obtain ⟨b1, o1, k1, cy, hv1, hr1, hg1⟩ := hgl.get hy
 have hj : j < l.length := (List.getElem?_eq_some_iff.1 hy).1
 have md : Mod w w.drew zq := Mod.drew _ _
 refine zet B.mixed [true, true, true, true, true, true, true, true, true, false, false] (by kernel_rfl) (fun w' => Mod w w' zq) md fun τ => ?_
 refine zb (.agg cf.toArray) (fun w' hw => zi (by
  simp +decide only [bE, Nat.reduceAdd, ev_tmp, h13]
  exact zjr S (zj hw rF) hf.len)) rfl ?_
 refine zb (.int .i64 v) (fun w' _ => by
  rw [zan, ev_tmp]
  simp +decide only [bE, Nat.reduceBeqDiff, Nat.reduceAdd, h1]) rfl ?_
 refine zb (.bool flex) (fun w' _ => by
  rw [zan, ev_tmp]
  simp +decide only [bE, Nat.reduceBeqDiff, Nat.reduceAdd, h2]) rfl ?_
 refine zb (.agg cx.toArray) (fun w' hw => zi (by
  simp +decide only [bE, Nat.reduceBeqDiff, Nat.reduceAdd, ev_tmp, h15]
  exact zcp S.tr (zj hw rX) hx.len)) rfl ?_
 refine zb (.pointer (some ⟨bG, 3, none⟩)) (fun w' hw => zi (by
  simp +decide only [bE, Nat.reduceBeqDiff, Nat.reduceAdd, Nat.zero_add, ev_tmp, h6, S.tr.h3.run])) rfl ?_
 refine zb gl (fun w' hw => zi (by
  simp +decide only [bE, BEq.rfl, ev_tmp, S.tr.lt.run_load1 rfl, hw.cell _ _ hlG fun h => h, hG, ldc_some])) rfl ?_
 refine zb (.int .i64 j) (fun w' _ => by
  rw [zan, ev_tmp]
  simp +decide only [bE, Nat.reduceBeqDiff, Nat.reduceAdd, h14]) rfl ?_
 refine zb (.pointer (some ⟨b1, o1 + j * 5, none⟩)) (fun w' hw => zi (by
  have := fun {w : World} => zaa (P := P) (w := w) S.tr.lt hti.1 (bl := b1) (o := o1) (n := l.length) (c := k1) (i := j) (k := .i64) hj
  simp +decide only [bE, Nat.reduceBeqDiff, BEq.rfl, ev_tmp]
  rw [hv1]; exact this)) rfl ?_
 refine zb (.agg cy.toArray) (fun w' hw => zi (by
  simp +decide only [bE, BEq.rfl, ev_tmp]
  exact zcp S.tr (zj hw hg1) hr1.len)) rfl ?_
 simp only [zdf, zco, List.zip_cons_cons, List.zip_nil_right, List.zipWith_cons_cons, List.zipWith_nil_right, List.filter, Bool.not_true, Bool.not_false, List.map, zdg]
 rw [zmi hT.told.has]
 simp +decide only [bK, bE, Nat.reduceBeqDiff, BEq.rfl]
 refine (ok w.drew x y cf cx cy (RepF.stay md _ hf) (RepA.stay md _ hx) (RepA.stay md _ hr1) ht).mono ?_
 rintro _ w2 ⟨rfl, m2⟩
 refine ⟨md.trans' m2, ?_⟩
 simp +decide only [bK]
 refine zd fun σ' hσ => hQ σ' w2 (fun i hi => ?_) ?_ (md.trans' m2)
 ·rw [hσ i]
  have e1 : (i + 100 == 117) = false := beq_eq_false_iff_ne.2 (by omega)
  simp +decide only [bE, Nat.reduceBeqDiff, e1]
 ·have q := hσ 17
  simp +decide only [bE, BEq.rfl, Nat.reduceAdd] at q
  exact q
def dToldTag (N : Nums) (M : zcd) : C := .draw [
 ⟨some 0, .fieldAddr N.zc (V 6) 4, 0, none, []⟩,
 ⟨some 1, .load N.zk (T 0), 0, none, [0]⟩,
 ⟨some 2, .move (V 27), 0, none, []⟩,
 ⟨some 3, .indexAddr N.zk (T 1) (T 2), 0, none, [1, 2]⟩,
 ⟨some 4, .fieldAddr N.zab (T 3) 0, 0, none, [3]⟩,
 ⟨some 5, .load N.zp (T 4), 0, none, [4]⟩,
 ⟨some 6, .fieldAddr N.zab (V 26) 0, 0, none, []⟩,
 ⟨some 7, .load N.zp (T 6), 0, none, [6]⟩,
 ⟨some 8, .binOp .neq N.zp (T 5) (T 7) N.zp, 0, none, [5, 7]⟩,
 ⟨some 9, .move (T 8), 0, none, [8]⟩,
 ⟨some 10, .fieldAddr N.zc (V 6) 4, 0, some (some 9, false), [9]⟩,
 ⟨some 11, .load N.zk (T 10), 0, some (some 9, false), [10, 9]⟩,
 ⟨some 12, .move (V 27), 0, some (some 9, false), [9]⟩,
 ⟨some 13, .indexAddr N.zk (T 11) (T 12), 0, some (some 9, false), [11, 12, 9]⟩,
 ⟨some 14, .fieldAddr N.zab (T 13) 1, 0, some (some 9, false), [13, 9]⟩,
 ⟨some 15, .load N.za (T 14), 0, some (some 9, false), [14, 9]⟩,
 ⟨some 16, .fieldAddr N.zab (V 26) 1, 0, some (some 9, false), [9]⟩,
 ⟨some 17, .load N.za (T 16), 0, some (some 9, false), [16, 9]⟩,
 ⟨some 18, .call ⟨.value (.func M.zdk), #[T 17], #[N.za]⟩, N.za, some (some 9, false), [17, 9, 9]⟩,
 ⟨some 19, .call ⟨.value (.func N.zbu), #[T 15, T 18], #[N.za, N.za]⟩, N.zae, some (some 9, false), [15, 18, 18, 9]⟩,
 ⟨some 20, .unOp .not N.zae (T 19), 0, some (some 9, false), [19, 9]⟩,
 ⟨some 128, .pick (T 9) (.const (.bool true)) (T 20), 0, none, [9, 20]⟩]
theorem W_toldTag (B : Base P N) (F : Fns P N) (hN : N.zbu ≠ 0) (S : SpT P N M) (hW : SW P N M) {loc : List Nat} {N' : Nat} {Q : Exit → Env → World → Prop} {σ : Env} {w : World} {bG b26 j key : Nat} {gu s : Value} {g : List (Nat × List UInt8)} {t : List UInt8}
  (h6 : σ 6 = .pointer (some ⟨bG, 0, none⟩)) (h26 : σ 26 = .pointer (some ⟨b26, 0, none⟩)) (h27 : σ 27 = .int .i64 j) (hG : w.cell? ⟨bG, 4, none⟩ = some gu) (hlG : bG < w.heap.size) (hgu : zik w gu g) (hy : g[j]? = some (key, zbs t)) (r26 : w.rangeAt b26 0 [.int .u32 key, s]) (hl26 : b26 < w.heap.size) (hs : OctA w s t)
  (hQ : ∀ (σ' : Env) (w' : World), (∀ i, i ≠ 28 → σ' i = σ i) → σ' 28 = .bool false → Mod w w' zq → Q .normal σ' w') : W P loc N' (dToldTag N M) Q σ w := by
 unfold dToldTag
 obtain ⟨fsT, hti⟩ := S.tr.tu
 obtain ⟨b1, o1, k1, s1, hv1, hs1, hg1⟩ := hgu.get hy
 have hj : j < g.length := (List.getElem?_eq_some_iff.1 hy).1
 have md : Mod w w.drew zq := Mod.drew _ _
 have hix := fun {w : World} => zaa (P := P) (w := w) S.tr.lg hti (bl := b1) (o := o1) (n := g.length) (c := k1) (i := j) (k := .i64) hj
 rw [← hv1] at hix
 have c0 := fun {w' : World} (hw : Mod w w' zq) => zj hw hg1 0 _ rfl
 have c1 := fun {w' : World} (hw : Mod w w' zq) => zj hw hg1 1 _ rfl
 have d0 := fun {w' : World} (hw : Mod w w' zq) => zj hw r26 0 _ rfl
 have d1 := fun {w' : World} (hw : Mod w w' zq) => zj hw r26 1 _ rfl
 have cG := fun {w' : World} (hw : Mod w w' zq) => (hw.cell _ _ hlG fun h => h).trans hG
 refine zet B.mixed [true, true, true, true, true, true, true, true, true, true, true, true, true, true, true, true, true, true, false, false, false, false] (by kernel_rfl) (fun w' => Mod w w' zq) md fun τ => ?_
 refine zb (.pointer (some ⟨bG, 4, none⟩)) (fun w' hw => zi (by
  simp +decide only [bE, Nat.reduceAdd, Nat.zero_add, ev_tmp, h6, S.tr.h4.run])) rfl ?_
 refine zb gu (fun w' hw => zi (by
  simp +decide only [bE, BEq.rfl, ev_tmp, S.tr.lg.run_load1 rfl, cG hw, ldc_some])) rfl ?_
 refine zb (.int .i64 j) (fun w' _ => by
  rw [zan, ev_tmp]
  simp +decide only [bE, Nat.reduceBeqDiff, Nat.reduceAdd, h27]) rfl ?_
 refine zb (.pointer (some ⟨b1, o1 + j * 2, none⟩)) (fun w' hw => zi (by
  simp +decide only [bE, Nat.reduceBeqDiff, BEq.rfl, ev_tmp, hix])) rfl ?_
 refine zb (.pointer (some ⟨b1, o1 + j * 2 + 0, none⟩)) (fun w' hw => zi (by
  simp +decide only [bE, BEq.rfl, ev_tmp, S.tr.g0.run])) rfl ?_
 refine zb (.int .u32 key) (fun w' hw => zi (by
  simp +decide only [bE, BEq.rfl, ev_tmp, B.uint32.run_load1 rfl, c0 hw, ldc_some])) rfl ?_
 refine zb (.pointer (some ⟨b26, 0, none⟩)) (fun w' hw => zi (by
  simp +decide only [bE, Nat.reduceBeqDiff, Nat.reduceAdd, Nat.zero_add, ev_tmp, h26, S.tr.g0.run])) rfl ?_
 refine zb (.int .u32 key) (fun w' hw => zi (by
  have := d0 hw
  simp +decide only [Nat.zero_add] at this
  simp +decide only [bE, BEq.rfl, ev_tmp, B.uint32.run_load1 rfl, this, ldc_some])) rfl ?_
 refine zb (.bool false) (fun w' hw => zi (by
  have e : ((key : Int) != (key : Int)) = false := by simp
  simp +decide only [bE, Nat.reduceBeqDiff, BEq.rfl, ev_tmp, zuy, e])) rfl ?_
 refine zb (.bool false) (fun w' _ => by
  rw [zan, ev_tmp]
  simp +decide only [bE, BEq.rfl]) rfl ?_
 refine zcx (.pointer (some ⟨bG, 4, none⟩)) (by simp +decide only [zcf, bE, BEq.rfl]) (fun w' hw => zi (by
  simp +decide only [bE, Nat.reduceBeqDiff, Nat.reduceAdd, Nat.zero_add, ev_tmp, h6, S.tr.h4.run])) ?_
 refine zcx gu (by simp +decide only [zcf, bE, Nat.reduceBeqDiff, BEq.rfl]) (fun w' hw => zi (by
  simp +decide only [bE, BEq.rfl, ev_tmp, S.tr.lg.run_load1 rfl, cG hw, ldc_some])) ?_
 refine zcx (.int .i64 j) (by simp +decide only [zcf, bE, Nat.reduceBeqDiff, BEq.rfl]) (fun w' _ => by
  rw [zan, ev_tmp]
  simp +decide only [bE, Nat.reduceBeqDiff, Nat.reduceAdd, h27]) ?_
 refine zcx (.pointer (some ⟨b1, o1 + j * 2, none⟩)) (by simp +decide only [zcf, bE, Nat.reduceBeqDiff, BEq.rfl]) (fun w' hw => zi (by
  simp +decide only [bE, Nat.reduceBeqDiff, BEq.rfl, ev_tmp, hix])) ?_
 refine zcx (.pointer (some ⟨b1, o1 + j * 2 + 1, none⟩)) (by simp +decide only [zcf, bE, Nat.reduceBeqDiff, BEq.rfl]) (fun w' hw => zi (by
  simp +decide only [bE, BEq.rfl, ev_tmp, S.tr.g1.run])) ?_
 refine zcx s1 (by simp +decide only [zcf, bE, Nat.reduceBeqDiff, BEq.rfl]) (fun w' hw => zi (by
  simp +decide only [bE, BEq.rfl, ev_tmp, B.Lu8.run_load1 rfl, c1 hw, ldc_some])) ?_
 refine zcx (.pointer (some ⟨b26, 1, none⟩)) (by simp +decide only [zcf, bE, Nat.reduceBeqDiff, BEq.rfl]) (fun w' hw => zi (by
  simp +decide only [bE, Nat.reduceBeqDiff, Nat.reduceAdd, Nat.zero_add, ev_tmp, h26, S.tr.g1.run])) ?_
 refine zcx s (by simp +decide only [zcf, bE, Nat.reduceBeqDiff, BEq.rfl]) (fun w' hw => zi (by
  have := d1 hw
  simp +decide only [Nat.zero_add] at this
  simp +decide only [bE, BEq.rfl, ev_tmp, B.Lu8.run_load1 rfl, this, ldc_some])) ?_
 simp only [zdf, zco, List.zip_cons_cons, List.zip_nil_right, List.zipWith_cons_cons, List.zipWith_nil_right, List.filter, Bool.not_true, Bool.not_false, List.map, zdg]
 rw [zal (by simp +decide only [bE, Nat.reduceBeqDiff, BEq.rfl]), zam hW.whole.has]
 simp +decide only [bK, bE, BEq.rfl, Nat.add_zero]
 refine (zmt B hW.whole (hs.stay md)).mono ?_
 rintro x _ ⟨rfl, hx⟩
 refine ⟨md, ?_⟩
 have hwl : (zbs t).length < 4611686018427387904 := by
  have : (zbs t).length ≤ 32767 := by simp [zbs, most]; omega
  omega
 rw [zal (by simp +decide only [bE, Nat.reduceBeqDiff, BEq.rfl]), zbw (F.spec_Same hN).has]
 simp +decide only [bK, bE, Nat.reduceBeqDiff, BEq.rfl]
 refine (zmu B F hN (hs1.stay md) hx hwl).mono ?_
 rintro _ w2 ⟨rfl, m2⟩
 have m02 := md.trans' m2
 refine ⟨m02, ?_⟩
 simp +decide only [bK, bE, Nat.reduceBeqDiff, BEq.rfl, zal]
 refine ⟨m02, ?_⟩
 simp +decide only [bK, bE, Nat.reduceBeqDiff, BEq.rfl, if_false, zbj]
 refine zd fun σ' hσ => hQ σ' w2 (fun i hi => ?_) ?_ m02
 ·rw [hσ i]
  have e1 : (i + 100 == 128) = false := beq_eq_false_iff_ne.2 (by omega)
  simp +decide only [bE, Nat.reduceBeqDiff, e1]
 ·have q := hσ 28
  simp +decide only [bE, BEq.rfl, Nat.reduceAdd] at q
  exact q
end
section
variable {P : Program} {N : Nums} {M : zcd}
def OkT (P : Program) (M : zcd) (flex : Bool) (v : Int) (f : Fld) : Prop := f.tag < 0 ∧ f.kind ≠ 10 ∧ zvy P M flex v f
structure OSt (w0 : World) (σ : Env) (w : World) (fv : Value) (v : Int) (flex : Bool) (bT bG n j : Nat) : Prop where
 h0 : σ 0 = fv
 h1 : σ 1 = .int .i64 v
 h2 : σ 2 = .bool flex
 h5 : σ 5 = .pointer (some ⟨bT, 0, none⟩)
 h6 : σ 6 = .pointer (some ⟨bG, 0, none⟩)
 h9 : σ 9 = fv
 h10 : σ 10 = .int .i64 n
 h11 : σ 11 = .int .i64 j
 le : j ≤ n
 mod : Mod w0 w zq
theorem OSt.upd {w0 w : World} {σ : Env} {fv : Value} {v : Int} {flex : Bool} {bT bG n j : Nat} (h : OSt w0 σ w fv v flex bT bG n j) {i : Nat} (hi : 12 ≤ i) (x : Value) : OSt w0 (upd σ i x) w fv v flex bT bG n j := by
 obtain ⟨h0, h1, h2, h5, h6, h9, h10, h11, le, mod⟩ := h
 refine ⟨?_, ?_, ?_, ?_, ?_, ?_, ?_, ?_, le, mod⟩ <;> (rw [zh (by omega)]; assumption)
theorem OSt.stay {w0 w w' : World} {σ : Env} {fv : Value} {v : Int} {flex : Bool} {bT bG n j : Nat} (h : OSt w0 σ w fv v flex bT bG n j) (m : Mod w w' zq) : OSt w0 σ w' fv v flex bT bG n j := ⟨h.h0, h.h1, h.h2, h.h5, h.h6, h.h9, h.h10, h.h11, h.le, h.mod.trans' m⟩
theorem OSt.same {w0 w : World} {σ σ' : Env} {fv : Value} {v : Int} {flex : Bool} {bT bG n j : Nat} (h : OSt w0 σ w fv v flex bT bG n j) (e : ∀ i, i < 12 → σ' i = σ i) : OSt w0 σ' w fv v flex bT bG n j :=
 ⟨(e 0 (by decide)).trans h.h0, (e 1 (by decide)).trans h.h1, (e 2 (by decide)).trans h.h2, (e 5 (by decide)).trans h.h5, (e 6 (by decide)).trans h.h6, (e 9 (by decide)).trans h.h9, (e 10 (by decide)).trans h.h10, (e 11 (by decide)).trans h.h11, h.le, h.mod⟩
theorem OSt.next {w0 w : World} {σ : Env} {fv : Value} {v : Int} {flex : Bool} {bT bG n j : Nat} (h : OSt w0 σ w fv v flex bT bG n j) (hj : j < n) : OSt w0 (Go.Kf.upd σ 11 (.int .i64 ((j + 1 : Nat) : Int))) w fv v flex bT bG n (j + 1) := by
 obtain ⟨h0, h1, h2, h5, h6, h9, h10, h11, le, mod⟩ := h
 refine ⟨?_, ?_, ?_, ?_, ?_, ?_, ?_, upd_same _ _ _, hj, mod⟩ <;> (rw [zh (by omega)]; assumption)
def cTh (N : Nums) (M : zcd) : C := .ops [
 ⟨some 0, .fieldAddr M.zf (V 13) 4, 0, none, []⟩,
 ⟨some 1, .load N.zg (T 0), 0, none, []⟩,
 ⟨some 2, .binOp .lss N.zg (T 1) (.const (.int .i64 0)) N.zg, 0, none, []⟩,
 ⟨some 3, .move (T 2), 0, none, []⟩,
 ⟨some 4, .load M.zf (V 13), 0, some (some 3, true), []⟩,
 ⟨some 5, .move (V 1), 0, some (some 3, true), []⟩,
 ⟨some 6, .call ⟨.value (.func M.zdx), #[T 4, T 5], #[M.zf, N.zg]⟩, N.zae, some (some 3, true), []⟩,
 ⟨some 7, .pick (T 3) (T 6) (.const (.bool false)), 0, none, []⟩,
 ⟨some 8, .move (T 7), 0, none, []⟩,
 ⟨some 9, .fieldAddr M.zf (V 13) 4, 0, some (some 8, false), []⟩,
 ⟨some 10, .load N.zg (T 9), 0, some (some 8, false), []⟩,
 ⟨some 11, .binOp .geq N.zg (T 10) (.const (.int .i64 0)) N.zg, 0, some (some 8, false), []⟩,
 ⟨some 12, .move (T 11), 0, some (some 8, false), []⟩,
 ⟨some 13, .move (V 2), 0, some (some 12, true), []⟩,
 ⟨some 14, .pick (T 12) (T 13) (.const (.bool false)), 0, some (some 8, false), []⟩,
 ⟨some 15, .move (T 14), 0, some (some 8, false), []⟩,
 ⟨some 16, .load M.zf (V 13), 0, some (some 15, true), []⟩,
 ⟨some 17, .load N.zc (V 15), 0, some (some 15, true), []⟩,
 ⟨some 18, .call ⟨.value (.func M.zlp), #[T 16, T 17], #[M.zf, N.zc]⟩, N.zae, some (some 15, true), []⟩,
 ⟨some 19, .unOp .not N.zae (T 18), 0, some (some 15, true), []⟩,
 ⟨some 20, .pick (T 15) (T 19) (.const (.bool false)), 0, some (some 8, false), []⟩,
 ⟨some 116, .pick (T 8) (.const (.bool true)) (T 20), 0, none, []⟩]
theorem W_th (B : Base P N) (S : SpT P N M) (hW : SW P N M) {loc : List Nat} {N' : Nat} {Q : Exit → Env → World → Prop} {σ : Env} {w : World} {v : Int} {bF : Nat} {f : Fld} {cf : List Value} (h1 : σ 1 = .int .i64 v) (h13 : σ 13 = .pointer (some ⟨bF, 0, none⟩)) (rF : w.rangeAt bF 0 cf) (hlF : bF < w.heap.size) (hf : RepF w f cf) (ht : f.tag < 0)
  (hQ : ∀ (σ' : Env) (w' : World), (∀ i, i ≠ 16 → σ' i = σ i) → σ' 16 = .bool (f.has v) → Mod w w' zq → Q .normal σ' w') : W P loc N' (cTh N M) Q σ w := by
 refine zx fun τ => ?_
 obtain ⟨gv, hcf, hgv⟩ := hf.out
 have h4c : w.cell? ⟨bF, 4, none⟩ = some (.int .i64 f.tag) := rF 4 _ (by rw [hcf]; rfl)
 have hng : ¬ f.tag ≥ 0 := by omega
 simp +decide only [bK, bE, Nat.reduceBeqDiff, decide_true, BEq.rfl, Nat.reduceAdd, Nat.zero_add, h1, h13, S.f4.run, B.int.run_load1 rfl, h4c, ht, zal, zjr S rF hf.len]
 rw [zbw hW.Field_has.has]
 simp +decide only [bK, bE, Nat.reduceBeqDiff, BEq.rfl]
 refine (call_has B S hW.Field_has hf v).mono ?_
 rintro _ w4 ⟨rfl, m4⟩
 have h4d : w4.cell? ⟨bF, 4, none⟩ = some (.int .i64 f.tag) := by rw [m4.cell _ _ hlF fun h => h]; exact h4c
 cases hh : f.has v with
 | true =>
  rw [hh] at hQ
  simp +decide only [bK, bE, Nat.reduceBeqDiff, BEq.rfl, if_true, zbj, zbh, Bool.not_false]
  refine zd (K := fun σ' w' => Q .normal σ' w') fun σ' hσ => hQ σ' w4 (fun i hi => ?_) ?_ m4
  ·rw [hσ i]
   have e1 : (i + 100 == 116) = false := beq_eq_false_iff_ne.2 (by omega)
   simp +decide only [bE, Nat.reduceBeqDiff, BEq.rfl, e1]
  ·have q := hσ 16
   simp +decide only [bE, BEq.rfl, Nat.reduceAdd] at q
   exact q
 | false =>
  rw [hh] at hQ
  simp +decide only [bK, bE, Nat.reduceBeqDiff, decide_false, BEq.rfl, Nat.reduceAdd, Nat.zero_add, if_false, if_true, zbj, zal, zbh, Bool.not_true, h13, S.f4.run, B.int.run_load1 rfl, h4d, hng]
  refine zd (K := fun σ' w' => Q .normal σ' w') fun σ' hσ => hQ σ' w4 (fun i hi => ?_) ?_ m4
  ·rw [hσ i]
   have e1 : (i + 100 == 116) = false := beq_eq_false_iff_ne.2 (by omega)
   simp +decide only [bE, Nat.reduceBeqDiff, e1]
  ·have q := hσ 16
   simp +decide only [bE, BEq.rfl, Nat.reduceAdd] at q
   exact q
theorem sp_Told (B : Base P N) (F : Fns P N) (hN : N.zbu ≠ 0) (S : SpT P N M) (hW : SW P N M) (hT : STo P N M) {flex : Bool} {v : Int} {fs : List Fld} (hl : fs.length < 4611686018427387904) (ok : ∀ f ∈ fs, OkT P M flex v f) : ToldOk P M flex v fs := by
 intro w fv t g cs cg hf ht hg h
 obtain ⟨hlen, hfs, hgu⟩ := h
 refine hT.Told.call rfl fun loc N' hlo => ?_
 unfold zsg
 obtain ⟨vs, vl, vu, hct, t1, t2, t3⟩ := ht.out
 obtain ⟨gs, gl, gu, hcg, g1, g2, g3⟩ := hg.out
 refine ze fun K hK => zx fun τ => ?_
 simp +decide only [bK, bE, Nat.reduceBeqDiff, Nat.reduceAdd, zxg, zxf]
 obtain ⟨w1, hw1⟩ : ∃ w1, w1 = w.alloc (.cells (Value.cells (.agg cs.toArray)) N.zc) := ⟨_, rfl⟩
 have m1 : Mod w w1 zq := by rw [hw1]; exact Mod.alloc _ _ _
 have r1 : w1.rangeAt w.heap.size 0 cs := by rw [hw1]; exact zr w _ _ _
 have s1 : w1.heap.size = w.heap.size + 1 := by rw [hw1]; exact zak _ _
 rw [← hw1]
 clear hw1
 obtain ⟨w2, hw2⟩ : ∃ w2, w2 = w1.alloc (.cells (Value.cells (.agg cg.toArray)) N.zc) := ⟨_, rfl⟩
 have m2 : Mod w1 w2 zq := by rw [hw2]; exact Mod.alloc _ _ _
 have r2 : w2.rangeAt w1.heap.size 0 cg := by rw [hw2]; exact zr w1 _ _ _
 have s2 : w2.heap.size = w1.heap.size + 1 := by rw [hw2]; exact zak _ _
 rw [← hw2]
 clear hw2
 have m02 := m1.trans' m2
 have r1 := zj m2 r1
 obtain ⟨bT, hbT⟩ : ∃ b, b = w.heap.size := ⟨_, rfl⟩
 obtain ⟨bG, hbG⟩ : ∃ b, b = w1.heap.size := ⟨_, rfl⟩
 rw [← hbT, ← hbG]
 rw [← hbT] at r1
 rw [← hbG] at r2
 have lT : bT < w2.heap.size := by omega
 have lG : bG < w2.heap.size := by omega
 refine hK _ _ (zd fun σ hσ => ?_)
 have f0 := hσ 0
 have f1 := hσ 1
 have f2 := hσ 2
 have f5 := hσ 5
 have f6 := hσ 6
 simp +decide only [bE, Nat.reduceBeqDiff, BEq.rfl, Nat.reduceAdd, Nat.zero_add, zxj, zxi, zxh] at f0 f1 f2 f5 f6
 clear hσ hK K
 have hf2 := hf.stay m02
 have ht2 := RepA.stay m02 _ ht
 have hg2 := RepA.stay m02 _ hg
 have gl2 := g2.stay m02
 have gu2 := g3.stay m02
 have cT4 : w2.cell? ⟨bT, 4, none⟩ = some vu := r1 4 _ (by rw [hct]; rfl)
 have cG3 : w2.cell? ⟨bG, 3, none⟩ = some gl := r2 3 _ (by rw [hcg]; rfl)
 have cG4 : w2.cell? ⟨bG, 4, none⟩ = some gu := r2 4 _ (by rw [hcg]; rfl)
 have hne : (((g.l.length : Nat) : Int) != ((fs.length : Nat) : Int)) = false := by rw [hlen]; simp
 refine ze fun K hK => ze fun K1 hK1 => zx fun τ => ?_
 simp +decide only [bK, bE, Nat.reduceBeqDiff, BEq.rfl, Nat.reduceAdd, Nat.zero_add, f0, f6, S.tr.h3.run, S.tr.lt.run_load1 rfl, cG3, g2.run_len S, hf.run_len S, hne]
 refine hK1 _ _ (zd fun σ1 hσ => ?_)
 have a0 := hσ 0
 have a1 := hσ 1
 have a2 := hσ 2
 have a5 := hσ 5
 have a6 := hσ 6
 have a8 := hσ 8
 simp +decide only [bE, Nat.reduceBeqDiff, BEq.rfl, Nat.reduceAdd, Nat.zero_add, f0, f1, f2, f5, f6] at a0 a1 a2 a5 a6 a8
 clear hσ hK1 K1 f0 f1 f2 f5 f6
 refine W_if hlo a8 ?_
 simp only [Bool.false_eq_true, if_false]
 refine zaz (hK _ _ ?_)
 clear hK K a8
 refine ze fun K hK => ze fun K1 hK1 => zx fun τ => ?_
 simp +decide only [bK, bE, BEq.rfl, Nat.reduceAdd, Nat.zero_add, a0, hf.run_len S]
 refine hK1 _ _ (zd fun σ2 hσ => ?_)
 have b0 := hσ 0
 have b1 := hσ 1
 have b2 := hσ 2
 have b5 := hσ 5
 have b6 := hσ 6
 have b9 := hσ 9
 have b10 := hσ 10
 have b11 := hσ 11
 simp +decide only [bE, Nat.reduceBeqDiff, BEq.rfl, Nat.reduceAdd, Nat.zero_add, a0, a1, a2, a5, a6] at b0 b1 b2 b5 b6 b9 b10 b11
 clear hσ hK1 K1 a0 a1 a2 a5 a6
 refine zfp (i := 11) (l := 10) (c := 12) (k := 0) hlo (L := fs.length) hl (fun j σ w' => OSt w2 σ w' fv v flex bT bG fs.length j) (fun j σ w h => ⟨h.h11, h.h10, h.le⟩) (fun j σ w b h => h.upd (by decide) _) ⟨b0, b1, b2, b5, b6, b9, b10, b11, Nat.zero_le _, .refl _ _⟩ (fun σ' w' st => hK _ _ ?_) (fun j σ' w' hj st => ?_)
 ·
  clear b0 b1 b2 b5 b6 b9 b10 b11 hK K
  have cT4' : w'.cell? ⟨bT, 4, none⟩ = some vu := by rw [st.mod.cell _ _ lT fun h => h]; exact cT4
  refine ze fun K hK => zx fun τ => ?_
  simp +decide only [bK, bE, Nat.reduceBeqDiff, BEq.rfl, Nat.reduceAdd, Nat.zero_add, st.h0, st.h5, S.tr.h4.run, S.tr.lg.run_load1 rfl, cT4']
  rw [zbw hW.unknown.has]
  simp +decide only [bK, bE, Nat.reduceBeqDiff, BEq.rfl]
  refine (zto B S hW (hf2.stay st.mod) hl (fun f hf => (ok f hf).1) ((t3.stay m02).stay st.mod)).mono ?_
  rintro r w3 ⟨hr, m3⟩
  refine hK _ _ (zd fun σ3 hσ => ?_)
  have a2 := hσ 2
  have a6 := hσ 6
  have a19 := hσ 19
  simp +decide only [bE, Nat.reduceBeqDiff, BEq.rfl, Nat.reduceAdd, st.h2, st.h6] at a2 a6 a19
  clear hσ hK K
  have m23 := st.mod.trans' m3
  refine ze fun K hK => ?_
  have key : ∀ {σ4 : Env} {vU : Value} {U : List (Nat × List UInt8)}, σ4 6 = .pointer (some ⟨bG, 0, none⟩) → σ4 19 = vU → zik w3 vU U → U.length ≤ 32767 → g.u = U.map (fun x => (x.1, zbs x.2)) → K σ4 w3 := by
   intro σ4 vU U h6 h19 hU hUl hgU
   refine hK _ _ ?_
   clear hK K
   have lG3 : bG < w3.heap.size := Nat.lt_of_lt_of_le lG m23.size
   have cG4' : w3.cell? ⟨bG, 4, none⟩ = some gu := by rw [m23.cell _ _ lG fun h => h]; exact cG4
   have gu3 := gu2.stay m23
   have hne2 : (((g.u.length : Nat) : Int) != ((U.length : Nat) : Int)) = false := by rw [hgU]; simp
   refine ze fun K hK => ze fun K1 hK1 => zx fun τ => ?_
   simp +decide only [bK, bE, Nat.reduceBeqDiff, BEq.rfl, Nat.reduceAdd, Nat.zero_add, h6, h19, S.tr.h4.run, S.tr.lg.run_load1 rfl, cG4', gu3.run_len S, hU.run_len S, hne2]
   refine hK1 _ _ (zd fun σ5 hσ => ?_)
   have b6 := hσ 6
   have b19 := hσ 19
   have b21 := hσ 21
   simp +decide only [bE, Nat.reduceBeqDiff, BEq.rfl, Nat.reduceAdd, h6, h19] at b6 b19 b21
   clear hσ hK1 K1
   refine W_if hlo b21 ?_
   simp only [Bool.false_eq_true, if_false]
   refine zaz (hK _ _ ?_)
   clear hK K b21
   refine ze fun K hK => ze fun K1 hK1 => zx fun τ => ?_
   simp +decide only [bK, bE, BEq.rfl, Nat.reduceAdd, b19, hU.run_len S]
   refine hK1 _ _ (zd fun σ6 hσ => ?_)
   have d6 := hσ 6
   have d22 := hσ 22
   have d23 := hσ 23
   have d24 := hσ 24
   simp +decide only [bE, Nat.reduceBeqDiff, BEq.rfl, Nat.reduceAdd, b6] at d6 d22 d23 d24
   clear hσ hK1 K1 b6 b19
   refine zfp (i := 24) (l := 23) (c := 25) (k := 2) hlo (L := U.length) (by omega) (fun j σ w' => σ 6 = .pointer (some ⟨bG, 0, none⟩) ∧ σ 22 = vU ∧ σ 23 = .int .i64 U.length ∧ σ 24 = .int .i64 j ∧ j ≤ U.length ∧ Mod w3 w' zq) (fun j σ w h => ⟨h.2.2.2.1, h.2.2.1, h.2.2.2.2.1⟩) (fun j σ w b h => ?_) ⟨d6, d22, d23, d24, Nat.zero_le _, .refl _ _⟩ (fun σ7 w7 h => hK _ _ ?_) (fun j σ7 w7 hj h => ?_)
   ·obtain ⟨x6, x22, x23, x24, xl, xm⟩ := h
    exact ⟨by rw [zh (by decide)]; exact x6, by rw [zh (by decide)]; exact x22, by rw [zh (by decide)]; exact x23, by rw [zh (by decide)]; exact x24, xl, xm⟩
   ·exact ze fun K3 hK3 => zau (hK3 _ _ (zbm ⟨.inr rfl, _, rfl, upd_same _ _ _, (m02.trans' m23).trans' h.2.2.2.2.2⟩))
   ·obtain ⟨x6, x22, x23, x24, xl, xm⟩ := h
    obtain ⟨fsT, hti⟩ := S.tr.tu
    obtain ⟨bb, oo, cc, s, hvb, hs, hr⟩ := hU.get (List.getElem?_eq_getElem hj)
    obtain ⟨kk, hkk⟩ : ∃ kk, kk = (U[j]).1 := ⟨_, rfl⟩
    obtain ⟨tt, htt⟩ : ∃ tt, tt = (U[j]).2 := ⟨_, rfl⟩
    rw [← hkk] at hr
    rw [← htt] at hs
    have hr' := zj xm hr
    have hix := fun {w : World} => zaa (P := P) (w := w) S.tr.lg hti (bl := bb) (o := oo) (n := U.length) (c := cc) (i := j) (k := .i64) hj
    rw [← hvb] at hix
    have hld := hti.run_load (w := w7) (b := bb) (o := oo + j * 2) hr' rfl (fun h => by cases h)
    have hlv : ldv (.struct fsT) [.int .u32 kk, s] = .agg [.int .u32 kk, s].toArray := rfl
    rw [hlv] at hld
    obtain ⟨wa, wb, hal, hst, _, mb, sb, rb, _⟩ := zkd (cs := [.int .u32 kk, s]) hti (by decide) rfl rfl (by
     intro c hc; simp at hc; rcases hc with rfl | rfl
     ·rfl
     ·exact hs.one) w7
    refine ze fun K4 hK4 => zx fun τ => ?_
    simp +decide only [bK, bE, Nat.reduceBeqDiff, BEq.rfl, Nat.reduceAdd, x22, x24, hix, hld, hal, hst]
    refine hK4 _ _ (zd fun σ8 hσ => ?_)
    have k6 := hσ 6
    have k22 := hσ 22
    have k23 := hσ 23
    have k24 := hσ 24
    have k26 := hσ 26
    have k27 := hσ 27
    simp +decide only [bE, Nat.reduceBeqDiff, BEq.rfl, Nat.reduceAdd, x6, x22, x23, x24] at k6 k22 k23 k24 k26 k27
    clear hσ hK4 K4
    have hgj : g.u[j]? = some (kk, zbs tt) := by rw [hgU, List.getElem?_map, List.getElem?_eq_getElem hj, hkk, htt]; rfl
    have m3b := xm.trans' mb
    refine ze fun K4 hK4 => W_toldTag B F hN S hW k6 k26 k27 (by rw [m3b.cell _ _ lG3 fun h => h]; exact cG4') (Nat.lt_of_lt_of_le lG3 m3b.size) (gu3.stay m3b) hgj rb (by omega) (hs.stay m3b) fun σ9 w9 hag h28 m9 => hK4 _ _ (W_if hlo h28 ?_)
    simp only [Bool.false_eq_true, if_false]
    have y24 : σ9 24 = .int .i64 j := (hag 24 (by decide)).trans k24
    refine zaz ⟨y24, ?_, ?_, ?_, upd_same _ _ _, by omega, m3b.trans' m9⟩
    ·rw [zh (by decide)]; exact (hag 6 (by decide)).trans k6
    ·rw [zh (by decide)]; exact (hag 22 (by decide)).trans k22
    ·rw [zh (by decide)]; exact (hag 23 (by decide)).trans k23
  refine ze fun K1 hK1 => zx fun τ => ?_
  simp +decide only [bK, bE, BEq.rfl, Nat.reduceAdd, a2]
  refine hK1 _ _ (zd fun σ4 hσ => ?_)
  have b6 := hσ 6
  have b19 := hσ 19
  have b20 := hσ 20
  simp +decide only [bE, Nat.reduceBeqDiff, BEq.rfl, Nat.reduceAdd, a6, a19] at b6 b19 b20
  clear hσ hK1 K1
  refine W_if hlo b20 ?_
  unfold zun at hgu
  cases flex with
  | true =>
   simp only [Bool.not_true, Bool.false_eq_true, if_false]
   exact zaz (key b6 b19 hr.tagsA (zqq t.u) (by simpa using hgu))
  | false =>
   simp only [Bool.not_false, if_true]
   refine zau (key (U := []) ?_ (upd_same _ _ _) (.inl ⟨_, _, rfl, rfl⟩) (by simp) (by simpa using hgu))
   rw [zh (by decide)]; exact b6
 ·
  clear b0 b1 b2 b5 b6 b9 b10 b11
  obtain ⟨bb, oo, cc, cf, w3, w4, hv, hr, hix, hld, hal, hst, m24, s4, r4⟩ := zvh S (hf2.stay st.mod) hj
  refine ze fun K1 hK1 => zx fun τ => ?_
  simp +decide only [bK, bE, Nat.reduceBeqDiff, BEq.rfl, Nat.reduceAdd, Nat.zero_add, st.h9, st.h11, hix, hld, hal, hst]
  refine hK1 _ _ (zd fun σ3 hσ => ?_)
  have d13 := hσ 13
  have d14 := hσ 14
  have ag : ∀ i, i < 12 → σ3 i = σ' i := fun i hi => by
   rw [hσ i]
   have e1 : (i + 100 == 113) = false := beq_eq_false_iff_ne.2 (by omega)
   have e2 : (i + 100 == 114) = false := beq_eq_false_iff_ne.2 (by omega)
   simp +decide only [bE, Nat.reduceBeqDiff, e1, e2]
  simp +decide only [bE, Nat.reduceBeqDiff, BEq.rfl, Nat.reduceAdd] at d13 d14
  clear hσ hK1 K1
  have st3 : OSt w2 σ3 w4 fv v flex bT bG fs.length j := (st.same ag).stay m24
  obtain ⟨bF, hbF⟩ : ∃ b, b = w'.heap.size := ⟨_, rfl⟩
  rw [← hbF] at d13 r4
  have lF : bF < w4.heap.size := by omega
  clear ag
  refine ze fun K1 hK1 => zx fun τ => ?_
  simp +decide only [bK, bE, Nat.reduceBeqDiff, BEq.rfl, Nat.reduceAdd, Nat.zero_add, st3.h5, d14, zcp S.tr (zj st3.mod r1) ht.len]
  rw [zbw hW.at_.has]
  simp +decide only [bK, bE, Nat.reduceBeqDiff, BEq.rfl]
  refine (zyt B S hW.at_ (RepA.stay st3.mod _ ht2) j).mono ?_
  rintro _ w5 ⟨cx, rfl, hx, m5⟩
  obtain ⟨fsT, hti⟩ := S.tr.tree.out
  obtain ⟨w6, w7, hal2, hst2, _, m57, s7, r7, _⟩ := zkd (cs := cx) hti.1 (by decide) rfl hx.len hx.ones w5
  simp +decide only [bK, hal2, hst2]
  refine hK1 _ _ (zd fun σ4 hσ => ?_)
  have e13 := hσ 13
  have e14 := hσ 14
  have e15 := hσ 15
  have ag : ∀ i, i < 12 → σ4 i = σ3 i := fun i hi => by
   rw [hσ i]
   have e1 : (i + 100 == 115) = false := beq_eq_false_iff_ne.2 (by omega)
   simp +decide only [bE, Nat.reduceBeqDiff, e1]
  simp +decide only [bE, Nat.reduceBeqDiff, BEq.rfl, Nat.reduceAdd, d13, d14] at e13 e14 e15
  clear hσ hK1 K1
  have m47 := m5.trans' m57
  have st4 : OSt w2 σ4 w7 fv v flex bT bG fs.length j := (st3.same ag).stay m47
  clear ag st3
  obtain ⟨bX, hbX⟩ : ∃ b, b = w5.heap.size := ⟨_, rfl⟩
  rw [← hbX] at e15 r7
  have lX : bX < w7.heap.size := by omega
  have rF := zj m47 r4
  have hF7 := RepF.stay (m24.trans' m47) _ hr
  have lF7 : bF < w7.heap.size := Nat.lt_of_lt_of_le lF m47.size
  have hX7 := RepA.stay m57 _ hx
  obtain ⟨okt, okk, oke⟩ := ok _ (List.getElem_mem hj)
  have hjg : j < g.l.length := by rw [hlen]; exact hj
  have hy : g.l[j]? = some g.l[j] := List.getElem?_eq_getElem hjg
  have htold := zti hfs (j := j) (List.getElem?_eq_getElem hj) (by rwa [Nat.zero_add])
  rw [Nat.zero_add] at htold
  refine ze fun K1 hK1 => ze fun K2 hK2 => W_th B S hW st4.h1 e13 rF lF7 hF7 okt fun σ5 w8 hag h16 m8 => hK2 _ _ (W_if hlo h16 ?_)
  have st5 : OSt w2 σ5 w8 fv v flex bT bG fs.length j := (st4.same fun i hi => hag i (by omega)).stay m8
  have e13 := (hag 13 (by decide)).trans e13
  have e14 := (hag 14 (by decide)).trans e14
  have e15 := (hag 15 (by decide)).trans e15
  have rF := zj m8 rF
  have rX := zj m8 r7
  have hF8 := RepF.stay m8 _ hF7
  have hX8 := RepA.stay m8 _ hX7
  have cG3' : w8.cell? ⟨bG, 3, none⟩ = some gl := by rw [st5.mod.cell _ _ lG fun h => h]; exact cG3
  have lG8 : bG < w8.heap.size := Nat.lt_of_lt_of_le lG st5.mod.size
  have gl8 := gl2.stay st5.mod
  cases hh : fs[j].has v with
  | true =>
   rw [hh] at htold
   simp only [if_true] at htold ⊢
   refine ze fun K3 hK3 => ze fun K4 hK4 => W_toldOne B S hT st5.h1 st5.h2 st5.h6 e13 e14 e15 rF hF8 rX hX8 cG3' lG8 gl8 hy oke htold fun σ6 w9 hag6 h17 m9 => hK4 _ _ (W_if hlo h17 ?_)
   simp only [Bool.false_eq_true, if_false]
   refine zaz (hK3 _ _ (zld ?_))
   have st6 : OSt w2 σ6 w9 fv v flex bT bG fs.length j := (st5.same fun i hi => hag6 i (by omega)).stay m9
   exact ⟨rfl, st6.h11, st6.next hj⟩
  | false =>
   rw [hh] at htold
   simp only [Bool.false_eq_true, if_false] at htold ⊢
   refine zaz (hK1 _ _ ?_)
   refine ze fun K4 hK4 => W_usualOne B F hN S hW hT st5.h6 e13 e14 rF hF8 cG3' lG8 gl8 hy okk htold fun σ6 w9 hag6 h18 m9 => hK4 _ _ (W_if hlo h18 ?_)
   simp only [Bool.false_eq_true, if_false]
   have st6 : OSt w2 σ6 w9 fv v flex bT bG fs.length j := (st5.same fun i hi => hag6 i (by omega)).stay m9
   exact zaz ⟨st6.h11, st6.next hj⟩
end
def rs (l : List UInt8) : RS := ⟨l, false, false⟩
theorem be_foldl (l : List UInt8) (a : Nat) : l.foldl (fun a x => a * 256 + x.toNat) a = a * 256 ^ l.length + be l := by
 unfold be
 induction l generalizing a with
 | nil => simp
 | cons x l ih =>
  rw [List.foldl_cons, List.foldl_cons, ih, ih (0 * 256 + x.toNat), List.length_cons, Nat.pow_succ, Nat.add_mul, Nat.zero_mul, Nat.zero_add, Nat.mul_assoc, Nat.mul_comm 256, Nat.add_assoc]
theorem be_cons (x : UInt8) (l : List UInt8) : be (x :: l) = x.toNat * 256 ^ l.length + be l := by
 rw [be, List.foldl_cons, be_foldl, Nat.zero_mul, Nat.zero_add]
theorem wrap_u8i (n : Int) : IntKind.u8.wrap n = n % 256 := by simp [IntKind.wrap, IntKind.bits, IntKind.signed]
theorem zkx (n : Int) : ∀ k : Nat, (be (fixB n k) : Int) = n % (256 ^ k : Nat)
 | 0 => by simp [fixB, be]
 | k + 1 => by
  rw [fixB, be_cons, zdh, Int.natCast_add, zkx n k, wrap_u8i]
  have hp : (2 : Int) ^ (8 * k) = ((256 ^ k : Nat) : Int) := by
   rw [show (256 : Nat) = 2 ^ 8 from rfl, ← Nat.pow_mul, Int.natCast_pow]; rfl
  rw [hp]
  obtain ⟨p, hpk⟩ : ∃ p : Nat, p = 256 ^ k := ⟨_, rfl⟩
  have hp0 : 0 < p := by rw [hpk]; exact Nat.pow_pos (by decide)
  rw [← hpk, Nat.pow_succ, ← hpk]
  rw [Int.fdiv_eq_ediv_of_nonneg _ (by omega)]
  have hd : (UInt8.ofNat ((n / (p : Int)) % 256).toNat).toNat = ((n / (p : Int)) % 256).toNat := by
   rw [UInt8.toNat_ofNat']; omega
  rw [hd]
  have h1 : ((((n / (p : Int)) % 256).toNat : Nat) : Int) = (n / (p : Int)) % 256 := by omega
  rw [Int.natCast_mul, h1]
  have e1 := Int.emod_add_mul_ediv n (p : Int)
  have e2 := Int.emod_add_mul_ediv (n / (p : Int)) 256
  have l1 := Int.emod_nonneg n (show (p : Int) ≠ 0 by omega)
  have l2 := Int.emod_lt_of_pos n (show (0 : Int) < p by omega)
  have l3 := Int.emod_nonneg (n / (p : Int)) (show (256 : Int) ≠ 0 by decide)
  have l4 := Int.emod_lt_of_pos (n / (p : Int)) (show (0 : Int) < 256 by decide)
  generalize n % (p : Int) = m at *
  generalize (n / (p : Int)) % 256 = d at *
  generalize (n / (p : Int)) / 256 = q at *
  generalize n / (p : Int) = z at *
  subst e2
  have hn : n = (d * p + m) + ((p * 256 : Nat) : Int) * q := by
   rw [← e1, Int.natCast_mul, Int.mul_add, Int.mul_comm d, Int.mul_assoc]
   have : ((256 : Nat) : Int) = 256 := rfl
   rw [this]
   omega
  rw [hn, Int.add_mul_emod_self_left, Int.emod_eq_of_lt]
  ·have := Int.mul_nonneg l3 (show (0 : Int) ≤ p by omega); omega
  ·have : d * p ≤ 255 * p := Int.mul_le_mul_of_nonneg_right (by omega) (by omega)
   rw [Int.natCast_mul]; omega
theorem zme (k : IntKind) (n : Int) : k.wrap (n % (2 ^ k.bits : Int)) = k.wrap n := by
 unfold IntKind.wrap
 simp only [Int.emod_emod_of_dvd n (Int.dvd_refl _)]
theorem take_app {α : Type} (x r : List α) {k : Nat} (h : x.length = k) : (x ++ r).take k = x := by subst h; simp
theorem drop_app {α : Type} (x r : List α) {k : Nat} (h : x.length = k) : (x ++ r).drop k = r := by subst h; simp
theorem zwm {c : Nat} {g : List UInt8 → Int} {x r : List UInt8} (h : x.length = c) : zow c g (rs (x ++ r)) = (g x, rs r) := by
 unfold zow rs
 simp only [List.length_append]
 rw [if_neg (by omega), take_app x r h, drop_app x r h]
theorem zks {c : Nat} {g : List UInt8 → Value} {z : Value} {x r : List UInt8} (h : x.length = c) : zee c g z (rs (x ++ r)) = (g x, rs r) := by
 unfold zee rs
 simp only [List.length_append]
 rw [if_neg (by omega), take_app x r h, drop_app x r h]
theorem zyo (n : Int) (r : List UInt8) : i16N (rs (fixB n 2 ++ r)) = (IntKind.i16.wrap n, rs r) := by
 rw [i16N, zwm (zdh n 2), zkx]
 congr 1
 exact zme .i16 n
theorem zrt (n : Int) (r : List UInt8) : i32N (rs (fixB n 4 ++ r)) = (IntKind.i32.wrap n, rs r) := by
 rw [i32N, zwm (zdh n 4), zkx]
 congr 1
 exact zme .i32 n
theorem znc {n : Nat} (hn : n < 4294967296) (r : List UInt8) : uvN (rs (uvB n ++ r)) = (n, rs r) := by
 have t : ∀ m, m < 256 → (UInt8.ofNat m).toNat = m := fun m hm => by rw [UInt8.toNat_ofNat']; omega
 by_cases h1 : n < 128
 ·have e : uvB n = [UInt8.ofNat n] := zfj h1
  have d : uvD ([UInt8.ofNat n] ++ r) = (n, 1) := by simp only [List.cons_append, List.nil_append, uvD, t n (by omega)]; rw [if_pos h1]
  unfold uvN rs; rw [e]; simp only [d]; rfl
 rw [znj h1]
 by_cases h2 : n / 128 < 128
 ·rw [zfj h2]
  have d : uvD ((UInt8.ofNat (n % 128 + 128) :: [UInt8.ofNat (n / 128)]) ++ r) = (n, 2) := by
   simp only [List.cons_append, List.nil_append, uvD, t (n % 128 + 128) (by omega), t (n / 128) (by omega)]
   rw [if_neg (by omega), if_pos h2]
   congr 1; omega
  unfold uvN rs; simp only [d]; rfl
 rw [znj h2]
 by_cases h3 : n / 128 / 128 < 128
 ·rw [zfj h3]
  have d : uvD ((UInt8.ofNat (n % 128 + 128) :: UInt8.ofNat (n / 128 % 128 + 128) :: [UInt8.ofNat (n / 128 / 128)]) ++ r) = (n, 3) := by
   simp only [List.cons_append, List.nil_append, uvD, t (n % 128 + 128) (by omega), t (n / 128 % 128 + 128) (by omega), t (n / 128 / 128) (by omega)]
   rw [if_neg (by omega), if_neg (by omega), if_pos h3]
   congr 1; omega
  unfold uvN rs; simp only [d]; rfl
 rw [znj h3]
 by_cases h4 : n / 128 / 128 / 128 < 128
 ·rw [zfj h4]
  have d : uvD ((UInt8.ofNat (n % 128 + 128) :: UInt8.ofNat (n / 128 % 128 + 128) :: UInt8.ofNat (n / 128 / 128 % 128 + 128) :: [UInt8.ofNat (n / 128 / 128 / 128)]) ++ r) = (n, 4) := by
   simp only [List.cons_append, List.nil_append, uvD, t (n % 128 + 128) (by omega), t (n / 128 % 128 + 128) (by omega), t (n / 128 / 128 % 128 + 128) (by omega), t (n / 128 / 128 / 128) (by omega)]
   rw [if_neg (by omega), if_neg (by omega), if_neg (by omega), if_pos h4]
   congr 1; omega
  unfold uvN rs; simp only [d]; rfl
 rw [znj h4, zfj (by omega)]
 have d : uvD ((UInt8.ofNat (n % 128 + 128) :: UInt8.ofNat (n / 128 % 128 + 128) :: UInt8.ofNat (n / 128 / 128 % 128 + 128) :: UInt8.ofNat (n / 128 / 128 / 128 % 128 + 128) :: [UInt8.ofNat (n / 128 / 128 / 128 / 128)]) ++ r) = (n, 5) := by
  simp only [List.cons_append, List.nil_append, uvD, t (n % 128 + 128) (by omega), t (n / 128 % 128 + 128) (by omega), t (n / 128 / 128 % 128 + 128) (by omega), t (n / 128 / 128 / 128 % 128 + 128) (by omega), t (n / 128 / 128 / 128 / 128) (by omega)]
  rw [if_neg (by omega), if_neg (by omega), if_neg (by omega), if_neg (by omega), if_pos (by omega)]
  congr 1; omega
 unfold uvN rs; simp only [d]; rfl
theorem zxt (n : Nat) : 0 < (uvB n).length := by
 by_cases h : n < 128
 ·rw [zfj h]; simp
 ·rw [znj h]; simp
theorem zur (x r : List UInt8) : zqm (x.length : Int) (rs (x ++ r)) = false := by
 unfold zqm rs; simp; omega
theorem zoi (x r : List UInt8) : zei (x.length : Int) (rs (x ++ r)) = x := by
 unfold zei; rw [zur, if_neg (by simp)]; simp [rs]
theorem zjn (x r : List UInt8) : zir (x.length : Int) (rs (x ++ r)) = rs r := by
 unfold zir; rw [zur, if_neg (by simp)]; simp [rs]
theorem zqs (x r : List UInt8) : zol (x.length : Int) (rs (x ++ r)) = some x := by
 unfold zol zuq; rw [zur, zoi]; simp [rs]
theorem zra {n : Nat} (h : n ≤ 32767) : IntKind.i16.wrap (n : Int) = n := by
 show (let m := (n : Int) % 65536; if (true && decide (m ≥ 32768)) = true then m - 65536 else m) = n
 have : (n : Int) % 65536 = n := by omega
 simp only [this]
 rw [if_neg (by simp; omega)]
theorem zlf {n : Nat} (h : n < 2147483648) : IntKind.i32.wrap (n : Int) = n := by
 show (let m := (n : Int) % 4294967296; if (true && decide (m ≥ 2147483648)) = true then m - 4294967296 else m) = n
 have : (n : Int) % 4294967296 = n := by omega
 simp only [this]
 rw [if_neg (by simp; omega)]
theorem str_rs {s : List UInt8} (h : s.length ≤ 32767) (r : List UInt8) : strR (rs (fixB s.length 2 ++ (s ++ r))) = (s, rs r) := by
 unfold strR; rw [zyo, zra h, zoi, zjn]
theorem cstr_rs {s : List UInt8} (h : s.length ≤ 32767) (r : List UInt8) : zji (rs (uvB (s.length + 1) ++ (s ++ r))) = (s, rs r) := by
 unfold zji; rw [znc (by omega)]
 have : (((s.length + 1 : Nat) : Int) - 1) = (s.length : Int) := by omega
 simp only [this]
 rw [zoi, zjn]
theorem nstr_rs {s : List UInt8} (h : s.length ≤ 32767) (r : List UInt8) : zmy (rs (fixB s.length 2 ++ (s ++ r))) = (some s, rs r) := by
 unfold zmy; rw [str_rs h, zyo, zra h, if_neg (by simp)]
theorem nstr_rs0 (r : List UInt8) : zmy (rs (fixB (-1) 2 ++ r)) = (none, rs r) := by
 unfold zmy; rw [zyo, if_pos (by show IntKind.i16.wrap (-1) < 0; decide)]
theorem cnstr_rs {s : List UInt8} (h : s.length ≤ 32767) (r : List UInt8) : zia (rs (uvB (s.length + 1) ++ (s ++ r))) = (some s, rs r) := by
 unfold zia; rw [cstr_rs h, znc (by omega), if_neg (by simp only; omega)]
theorem uv0_rs (r : List UInt8) : uvN (rs ([0] ++ r)) = (0, rs r) := by
 have := znc (n := 0) (by decide) r
 rwa [zfj (by decide)] at this
theorem cnstr_rs0 (r : List UInt8) : zia (rs ([0] ++ r)) = (none, rs r) := by
 unfold zia; rw [uv0_rs, if_pos (by show (((0 : Nat) : Int) - 1) < 0; decide)]
theorem byt_rs {s : List UInt8} (h : s.length ≤ 32767) (r : List UInt8) : bytR (rs (fixB s.length 4 ++ (s ++ r))) = (some s, rs r) := by
 unfold bytR; rw [zrt, zlf (by omega), if_neg (by simp only; omega), zqs, zjn]
theorem cbyt_rs {s : List UInt8} (h : s.length ≤ 32767) (r : List UInt8) : zvl (rs (uvB (s.length + 1) ++ (s ++ r))) = (some s, rs r) := by
 unfold zvl; rw [znc (by omega)]
 have : (((s.length + 1 : Nat) : Int) - 1) = (s.length : Int) := by omega
 simp only [this]
 rw [if_neg (by omega), zqs, zjn]
theorem nbyt_rs {s : List UInt8} (h : s.length ≤ 32767) (r : List UInt8) : zrr (rs (fixB s.length 4 ++ (s ++ r))) = (some s, rs r) := by
 unfold zrr; rw [zrt, zlf (by omega), if_neg (by simp only; omega), zqs, zjn]
theorem nbyt_rs0 (r : List UInt8) : zrr (rs (fixB (-1) 4 ++ r)) = (none, rs r) := by
 unfold zrr; rw [zrt, if_pos (by show IntKind.i32.wrap (-1) < 0; decide)]
theorem cnbyt_rs {s : List UInt8} (h : s.length ≤ 32767) (r : List UInt8) : zlt (rs (uvB (s.length + 1) ++ (s ++ r))) = (some s, rs r) := by
 unfold zlt; rw [znc (by omega)]
 have : (((s.length + 1 : Nat) : Int) - 1) = (s.length : Int) := by omega
 simp only [this]
 rw [if_neg (by omega), zqs, zjn]
theorem cnbyt_rs0 (r : List UInt8) : zlt (rs ([0] ++ r)) = (none, rs r) := by
 unfold zlt; rw [uv0_rs, if_pos (by show (((0 : Nat) : Int) - 1) < 0; decide)]
theorem arr_rs {n : Nat} (h : n ≤ 32767) {x : List UInt8} (hx : n ≤ x.length) : arrR (rs (fixB n 4 ++ x)) = ((n : Int), rs x) := by
 unfold arrR; rw [zrt, zlf (by omega)]
 rw [if_neg (by show ¬ ((x.length : Int) < (n : Int)); omega)]
theorem arr_rs0 (x : List UInt8) : arrR (rs (fixB (-1) 4 ++ x)) = (-1, rs x) := by
 unfold arrR; rw [zrt]
 rw [if_neg (by show ¬ ((x.length : Int) < (-1 : Int)); omega)]
 rfl
theorem carr_rs {n : Nat} (h : n ≤ 32767) {x : List UInt8} (hx : n ≤ x.length) : znw (rs (uvB (n + 1) ++ x)) = ((n : Int), rs x) := by
 have e : zna (rs (uvB (n + 1) ++ x)) = (n : Int) := by
  unfold zna; rw [znc (by omega)]
  simp only
  rw [zlf (n := n + 1) (by omega), show (((n + 1 : Nat) : Int) - 1) = (n : Int) by omega, zlf (by omega)]
 unfold znw; rw [e, znc (by omega)]
 rw [if_neg (by show ¬ ((x.length : Int) < (n : Int)); omega)]
theorem carr_rs0 (x : List UInt8) : znw (rs ([0] ++ x)) = (-1, rs x) := by
 have e : zna (rs ([0] ++ x)) = (-1 : Int) := by
  unfold zna; rw [uv0_rs]; show IntKind.i32.wrap (IntKind.i32.wrap ((0 : Nat) : Int) - 1) = -1; decide
 unfold znw; rw [e, uv0_rs]
 rw [if_neg (by show ¬ ((x.length : Int) < (-1 : Int)); omega)]
def ziv : PK → Int → Bool
 | .bool, k => decide (k = 0) | .i8, k => decide (k = 1) | .i16, k => decide (k = 2) | .u16, k => decide (k = 5) | .i32, k => decide (k = 3) | .i64, k => decide (k = 4) | .uuid, k => decide (k = 7) | .en _, _ => false
theorem zhe {n : Int} (h1 : -9223372036854775808 ≤ n) (h2 : n < 9223372036854775808) : IntKind.i64.wrap n = n := by
 rw [IntKind.wrap_i64]; omega
theorem wrap_i8_r (n : Int) : -128 ≤ IntKind.i8.wrap n ∧ IntKind.i8.wrap n < 128 := by
 have e : IntKind.i8.wrap n = (let m := n % 256; if (true && decide (m ≥ 128)) = true then m - 256 else m) := rfl
 rw [e]; simp only [Bool.true_and, decide_eq_true_eq]; split <;> omega
theorem wrap_i16_r (n : Int) : -32768 ≤ IntKind.i16.wrap n ∧ IntKind.i16.wrap n < 32768 := by
 have e : IntKind.i16.wrap n = (let m := n % 65536; if (true && decide (m ≥ 32768)) = true then m - 65536 else m) := rfl
 rw [e]; simp only [Bool.true_and, decide_eq_true_eq]; split <;> omega
theorem wrap_i32_r (n : Int) : -2147483648 ≤ IntKind.i32.wrap n ∧ IntKind.i32.wrap n < 2147483648 := by
 rw [IntKind.wrap_i32]; omega
theorem octs_map (l : List UInt8) : (l.map zbg).map (fun v => match v with | .int _ n => UInt8.ofNat n.toNat | _ => 0) = l := by
 rw [List.map_map]
 conv => rhs; rw [← List.map_id l]
 refine List.map_congr_left fun x _ => ?_
 simp [zbg]
theorem idB_len (s : List UInt8) : (idB s).length = 16 := by
 unfold idB; rw [List.length_append, List.length_take, List.length_replicate]; omega
theorem pr_rd {k : PK} {kind : Int} (h : ziv k kind = true) (fl : Bool) (pt : Tr → List UInt8) (pt' : Tr → Tr → Prop) (null : Bool) {t : Tr} (hw : wfT t) (r : List UInt8) :
  ∃ v, k.rd (rs (valB fl kind pt null t ++ r)) = (v, rs r) ∧ zka kind pt' t (k.tr v) ∧ (k.tr v).nl = false ∧ 0 < (valB fl kind pt null t).length := by
 cases k with
 | en t => simp [ziv] at h
 | bool =>
  have h : kind = 0 := by simpa [ziv] using h
  subst h
  have hm : t.n % 2 = 0 ∨ t.n % 2 = 1 := by omega
  refine ⟨.bool (be [UInt8.ofNat (t.n % 2).toNat] != 0), by rw [valB, if_pos rfl]; show zee 1 (fun l => .bool (be l != 0)) (.bool false) _ = _; rw [zks (c := 1) (x := [UInt8.ofNat (t.n % 2).toNat]) rfl], ?_, rfl, by rw [valB, if_pos rfl]; simp⟩
  rw [zka, if_neg (by decide), if_neg (by decide), if_neg (by decide), numK, if_pos rfl, band1]
  rcases hm with hm | hm <;> rw [hm] <;> rfl
 | i8 =>
  have h : kind = 1 := by simpa [ziv] using h
  subst h
  have e : valB fl 1 pt null t = fixB t.n 1 := by simp [valB, zgm]
  refine ⟨.int .i8 (IntKind.i8.wrap (be (fixB t.n 1))), by rw [e]; show zee 1 (fun l => .int .i8 (IntKind.i8.wrap (be l))) (.int .i8 0) _ = _; rw [zks (zdh t.n 1)], ?_, rfl, by rw [e, zdh]; decide⟩
  rw [zka, if_neg (by decide), if_neg (by decide), if_neg (by decide), numK, if_neg (by decide), if_pos rfl, zkx]
  have := wrap_i8_r t.n
  rw [zhe (by omega) (by omega)]
  exact zme .i8 t.n
 | i16 =>
  have h : kind = 2 := by simpa [ziv] using h
  subst h
  have e : valB fl 2 pt null t = fixB t.n 2 := by simp [valB, zgm]
  refine ⟨.int .i16 (IntKind.i16.wrap (be (fixB t.n 2))), by rw [e]; show zee 2 (fun l => .int .i16 (IntKind.i16.wrap (be l))) (.int .i16 0) _ = _; rw [zks (zdh t.n 2)], ?_, rfl, by rw [e, zdh]; decide⟩
  rw [zka, if_neg (by decide), if_neg (by decide), if_neg (by decide), numK, if_neg (by decide), if_neg (by decide), if_pos rfl, zkx]
  have := wrap_i16_r t.n
  rw [zhe (by omega) (by omega)]
  exact zme .i16 t.n
 | u16 =>
  have h : kind = 5 := by simpa [ziv] using h
  subst h
  have e : valB fl 5 pt null t = fixB t.n 2 := by simp [valB, zgm]
  refine ⟨.int .u16 (be (fixB t.n 2)), by rw [e]; show zee 2 (fun l => .int .u16 (be l)) (.int .u16 0) _ = _; rw [zks (zdh t.n 2)], ?_, rfl, by rw [e, zdh]; decide⟩
  rw [zka, if_neg (by decide), if_neg (by decide), if_neg (by decide), numK, if_neg (by decide), if_neg (by decide), if_neg (by decide), if_neg (by decide), if_pos rfl]
  have hw : IntKind.u16.wrap t.n = t.n % 65536 := by simp [IntKind.wrap, IntKind.bits, IntKind.signed]
  rw [hw, zhe (by omega) (by omega)]
  show (be (fixB t.n 2) : Int) = _
  rw [zkx]; rfl
 | i32 =>
  have h : kind = 3 := by simpa [ziv] using h
  subst h
  have e : valB fl 3 pt null t = fixB t.n 4 := by simp [valB, zgm]
  refine ⟨.int .i32 (IntKind.i32.wrap (be (fixB t.n 4))), by rw [e]; show zee 4 (fun l => .int .i32 (IntKind.i32.wrap (be l))) (.int .i32 0) _ = _; rw [zks (zdh t.n 4)], ?_, rfl, by rw [e, zdh]; decide⟩
  rw [zka, if_neg (by decide), if_neg (by decide), if_neg (by decide), numK, if_neg (by decide), if_neg (by decide), if_neg (by decide), if_pos rfl, zkx]
  have := wrap_i32_r t.n
  rw [zhe (by omega) (by omega)]
  exact zme .i32 t.n
 | i64 =>
  have h : kind = 4 := by simpa [ziv] using h
  subst h
  have e : valB fl 4 pt null t = fixB t.n 8 := by simp [valB, zgm]
  refine ⟨.int .i64 (IntKind.i64.wrap (be (fixB t.n 8))), by rw [e]; show zee 8 (fun l => .int .i64 (IntKind.i64.wrap (be l))) (.int .i64 0) _ = _; rw [zks (zdh t.n 8)], ?_, rfl, by rw [e, zdh]; decide⟩
  rw [zka, if_neg (by decide), if_neg (by decide), if_neg (by decide), numK, if_neg (by decide), if_neg (by decide), if_neg (by decide), if_neg (by decide), if_neg (by decide), zkx]
  have h1 := zme .i64 t.n
  have h2 := zhe hw.n.1 hw.n.2
  show IntKind.i64.wrap (t.n % (256 ^ 8 : Nat)) = t.n
  rw [← h2]
  rw [h2]
  exact h1.trans h2
 | uuid =>
  have h : kind = 7 := by simpa [ziv] using h
  subst h
  have e : valB fl 7 pt null t = idB t.s := by simp [valB, idB]
  have hl := idB_len t.s
  have h1 : zei 16 (rs (idB t.s ++ r)) = idB t.s := by have := zoi (idB t.s) r; rwa [hl] at this
  have h2 : zir 16 (rs (idB t.s ++ r)) = rs r := by have := zjn (idB t.s) r; rwa [hl] at this
  refine ⟨uuidV (idB t.s), by rw [e]; show (uuidV (zei 16 _), zir 16 _) = _; rw [h1, h2], ?_, rfl, by rw [e, hl]; decide⟩
  rw [zka, if_neg (by decide), if_pos rfl]
  show zll (uuidV (idB t.s)) = idB t.s
  unfold uuidV zll
  rw [hl, Nat.sub_self, List.replicate_zero, List.append_nil, List.take_of_length_le (by omega)]
  exact octs_map _
theorem zmf (s : List UInt8) : (zbs s).length ≤ 32767 := by simp [zbs, most]; omega
theorem valB_txt {fl : Bool} {pt : Tr → List UInt8} {null : Bool} {t : Tr} : valB fl 8 pt null t = zce fl null (if null then [] else zbs t.s).length 2 ++ (if null then [] else zbs t.s) := by simp [valB]
theorem valB_byt {fl : Bool} {pt : Tr → List UInt8} {null : Bool} {t : Tr} : valB fl 9 pt null t = zce fl null (if null then [] else zbs t.s).length 4 ++ (if null then [] else zbs t.s) := by simp [valB]
theorem zek (fl null : Bool) (n size : Nat) (h : 0 < size) : 0 < (zce fl null n size).length := by
 unfold zce
 split
 ·simp
 ·split
  ·exact zxt _
  ·split <;> rw [zdh] <;> exact h
def Txt.kind : Txt → Int | .str => 8 | .nstr => 8 | .byt => 9 | .nbyt => 9
theorem txt_rs (k : Txt) (fl null : Bool) (hn : k = .str ∨ k = .byt → null = false) (pt : Tr → List UInt8) (t : Tr) (r : List UInt8) (kind : Int) (hk : kind = k.kind) :
  ∃ v, k.rd fl (rs (valB fl kind pt null t ++ r)) = (v, rs r) ∧ ((Ty.txt k).tr v).nl = null ∧ (null = false → ((Ty.txt k).tr v).s = zbs t.s) ∧ (El.txt k).tr v = (Ty.txt k).tr v ∧ 0 < (valB fl kind pt null t).length := by
 have hw := zmf t.s
 cases k with
 | str =>
  have hk : kind = 8 := hk
  subst hk
  have hn := hn (.inl rfl)
  subst hn
  rw [valB_txt]
  simp only [Bool.false_eq_true, if_false, List.append_assoc]
  have hp := zek fl false (zbs t.s).length 2 (by decide)
  refine ⟨.num (strV (zbs t.s)), ?_, rfl, fun _ => by show zll (strV _) = _; simp [zll, strV], rfl, by rw [List.length_append]; omega⟩
  unfold Txt.rd zce
  cases fl with
  | true => simp only [Bool.and_false, Bool.false_eq_true, if_false, if_true]; rw [cstr_rs hw]
  | false => simp only [Bool.and_false, Bool.false_eq_true, if_false]; rw [str_rs hw]
 | nstr =>
  have hk : kind = 8 := hk
  subst hk
  rw [valB_txt]
  cases null with
  | true =>
   have hp := zek fl true (zbs t.s).length 2 (by decide)
   simp only [if_true, List.append_nil, List.length_nil]
   refine ⟨.nstr none, ?_, rfl, (fun h => by cases h), rfl, zek _ _ _ _ (by decide)⟩
   unfold Txt.rd zce
   cases fl with
   | true => simp only [Bool.and_true, if_true]; rw [cnstr_rs0]
   | false => simp only [Bool.false_and, Bool.false_eq_true, if_false, if_true]; rw [nstr_rs0]
  | false =>
   have hp := zek fl false (zbs t.s).length 2 (by decide)
   simp only [Bool.false_eq_true, if_false, List.append_assoc]
   refine ⟨.nstr (some (zbs t.s)), ?_, rfl, fun _ => rfl, rfl, by rw [List.length_append]; omega⟩
   unfold Txt.rd zce
   cases fl with
   | true => simp only [Bool.and_false, Bool.false_eq_true, if_false, if_true]; rw [cnstr_rs hw]
   | false => simp only [Bool.and_false, Bool.false_eq_true, if_false]; rw [nstr_rs hw]
 | byt =>
  have hk : kind = 9 := hk
  subst hk
  have hn := hn (.inr rfl)
  subst hn
  rw [valB_byt]
  simp only [Bool.false_eq_true, if_false, List.append_assoc]
  have hp := zek fl false (zbs t.s).length 4 (by decide)
  refine ⟨.oct (some (zbs t.s)), ?_, rfl, fun _ => rfl, rfl, by rw [List.length_append]; omega⟩
  unfold Txt.rd zce
  cases fl with
  | true => simp only [Bool.and_false, Bool.false_eq_true, if_false, if_true]; rw [cbyt_rs hw]
  | false => simp only [Bool.and_false, Bool.false_eq_true, if_false]; rw [byt_rs hw]
 | nbyt =>
  have hk : kind = 9 := hk
  subst hk
  rw [valB_byt]
  cases null with
  | true =>
   simp only [if_true, List.append_nil, List.length_nil]
   refine ⟨.oct none, ?_, rfl, (fun h => by cases h), rfl, zek _ _ _ _ (by decide)⟩
   unfold Txt.rd zce
   cases fl with
   | true => simp only [Bool.and_true, if_true]; rw [cnbyt_rs0]
   | false => simp only [Bool.false_and, Bool.false_eq_true, if_false, if_true]; rw [nbyt_rs0]
  | false =>
   have hp := zek fl false (zbs t.s).length 4 (by decide)
   simp only [Bool.false_eq_true, if_false, List.append_assoc]
   refine ⟨.oct (some (zbs t.s)), ?_, rfl, fun _ => rfl, rfl, by rw [List.length_append]; omega⟩
   unfold Txt.rd zce
   cases fl with
   | true => simp only [Bool.and_false, Bool.false_eq_true, if_false, if_true]; rw [cnbyt_rs hw]
   | false => simp only [Bool.and_false, Bool.false_eq_true, if_false]; rw [nbyt_rs hw]
theorem zrs {k : Nat} {x : List UInt8} : ∀ {a : List (Nat × List UInt8)}, (a.map Prod.fst).Pairwise (· < ·) → ((insT k x a).map Prod.fst).Pairwise (· < ·)
 | [], _ => by simp [insT]
 | (k', y) :: a, h => by
  rw [List.map_cons, List.pairwise_cons] at h
  rw [insT]
  split
  ·rw [List.map_cons, List.pairwise_cons]
   refine ⟨fun z hz => ?_, zrs h.2⟩
   obtain ⟨p, hp, rfl⟩ := List.mem_map.1 hz
   rcases zvf hp with rfl | hp
   ·assumption
   ·exact h.1 _ (List.mem_map.2 ⟨p, hp, rfl⟩)
  ·split
   ·rw [List.map_cons, List.pairwise_cons]; exact h
   ·rw [List.map_cons, List.map_cons, List.pairwise_cons, List.pairwise_cons]
    refine ⟨fun z hz => ?_, h⟩
    rcases List.mem_cons.1 hz with e | hz
    ·rw [e]; show k < k'; omega
    ·have := h.1 z hz
     show k < z
     have h2 : k' < z := this
     omega
theorem zrv : ∀ (u a : List (Nat × List UInt8)), (a.map Prod.fst).Pairwise (· < ·) → ((u.foldl (fun a x => insT x.1 x.2 a) a).map Prod.fst).Pairwise (· < ·)
 | [], a, h => h
 | x :: u, a, h => zrv u _ (zrs h)
theorem zrc (u : List (Nat × List UInt8)) : ((unkT u).map Prod.fst).Pairwise (· < ·) := zrv _ _ (by simp)
theorem tagsN_rs (r : List UInt8) : ∀ (l acc : List (Nat × List UInt8)), (∀ x ∈ l, x.1 < 4294967296) → ((acc ++ l).map Prod.fst).Nodup →
  zsz l.length acc (rs (l.flatMap tagB ++ r)) = (acc ++ l.map (fun x => (x.1, zbs x.2)), rs r)
 | [], acc, _, _ => by simp [zsz]
 | x :: l, acc, hk, hn => by
  rw [List.length_cons, zsz, List.flatMap_cons, tagB]
  simp only [List.append_assoc]
  rw [znc (hk x (by simp))]
  have hw := zmf x.2
  rw [znc (n := (zbs x.2).length) (by omega)]
  simp only []
  rw [zoi, zjn]
  have hne : (acc.map Prod.fst).contains x.1 = false := by
   rw [List.map_append, List.nodup_append] at hn
   have := hn.2.2
   simp only [List.contains_eq_mem, decide_eq_false_iff_not]
   intro hc
   exact this _ hc x.1 (by simp) rfl
  have hp : tput acc x.1 (zbs x.2) = acc ++ [(x.1, zbs x.2)] := by unfold tput; rw [hne]; simp
  rw [hp, tagsN_rs r l _ (fun y hy => hk y (by simp [hy])) (by simpa using hn)]
  simp
theorem tagsR_rs (u : List (Nat × List UInt8)) (hk : ∀ x ∈ u, x.1 < 4294967296) (r : List UInt8) : zsy (rs ((uvB (unkT u).length ++ (unkT u).flatMap tagB) ++ r)) = ((unkT u).map (fun x => (x.1, zbs x.2)), rs r) := by
 have hl := zqq u
 unfold zsy
 rw [List.append_assoc, znc (by omega)]
 simp only []
 rw [tagsN_rs r (unkT u) [] (fun x hx => hk x (zul hx)) (by
  rw [List.nil_append]
  exact (zrc u).imp (fun h => Nat.ne_of_lt h))]
 simp
theorem zxz {l : List (Nat × List UInt8)} (h : (l.map Prod.fst).Pairwise (· < ·)) : zdu l = l := by
 unfold zdu
 refine List.mergeSort_of_pairwise ?_
 rw [List.pairwise_map] at h
 exact h.imp fun h => by simpa using Nat.le_of_lt h
def Ty.dflB : Ty → Fld → Bool
 | .pr k d, f => ziv k f.kind && (if k = .uuid then decide (((Ty.pr k d).tr (Ty.iniV (.pr k d))).s = List.replicate 16 0) else decide (((Ty.pr k d).tr (Ty.iniV (.pr k d))).n = numK f.kind f.dflt))
 | .txt .str, f => decide (f.kind = 8) && decide (f.null < 0)
 | .txt .nstr, f => decide (f.kind = 8) && decide (0 ≤ f.null)
 | .txt _, f => decide (f.kind = 9)
 | .arr .., f => decide (f.kind = 11)
 | .row .., _ => false
 | .tv _, _ => false
mutual
def Ty.matB (fl : Bool) (ver : Int) : Ty → Fld → Bool
 | .pr k _, f => ziv k f.kind && !f.may ver
 | .txt .str, f => decide (f.kind = 8) && !f.may ver
 | .txt .nstr, f => decide (f.kind = 8)
 | .txt .byt, f => decide (f.kind = 9) && !f.may ver
 | .txt .nbyt, f => decide (f.kind = 9)
 | .arr _ nul e, f => decide (f.kind = 11) && (match nul with | none => !f.may ver | some k => !f.may ver || decide (k ≤ ver)) && e.matB fl ver f.of f.sub
 | .row .., _ => false
 | .tv _, _ => false
def El.matB (fl : Bool) (ver : Int) : El → Int → List Fld → Bool
 | .pr k, o, _ => ziv k o
 | .txt .str, o, _ => decide (o = 8)
 | .txt .nstr, o, _ => decide (o = 8)
 | .txt _, o, _ => decide (o = 9)
 | .row _ _ _ fs, o, sub => decide (o = 10) && fs.matB fl ver sub && (fl || sub.any fun f => f.has ver)
def Fds.matB (fl : Bool) (ver : Int) : Fds → List Fld → Bool
 | .nil, [] => !fl
 | .tags, [] => true
 | .cons g ty r, f :: fs => (g.on ver == f.has ver) && (if f.has ver then ty.matB fl ver f else ty.dflB f) && r.matB fl ver fs
 | _, _ => false
end
theorem dfl_usual : ∀ {ty : Ty} {f : Fld}, ty.dflB f = true → zhy f (ty.tr ty.iniV)
 | .pr k d, f, h => by
  simp only [Ty.dflB, Bool.and_eq_true] at h
  obtain ⟨h1, h2⟩ := h
  unfold zhy
  cases k with
  | en t => simp [ziv] at h1
  | uuid =>
   have hk : f.kind = 7 := by simpa [ziv] using h1
   rw [if_neg (by omega), if_pos hk]
   simpa using h2
  | bool =>
   have hk : f.kind = 0 := by simpa [ziv] using h1
   rw [if_neg (by omega), if_neg (by omega), if_neg (by omega)]
   simpa using h2
  | i8 =>
   have hk : f.kind = 1 := by simpa [ziv] using h1
   rw [if_neg (by omega), if_neg (by omega), if_neg (by omega)]
   simpa using h2
  | i16 =>
   have hk : f.kind = 2 := by simpa [ziv] using h1
   rw [if_neg (by omega), if_neg (by omega), if_neg (by omega)]
   simpa using h2
  | u16 =>
   have hk : f.kind = 5 := by simpa [ziv] using h1
   rw [if_neg (by omega), if_neg (by omega), if_neg (by omega)]
   simpa using h2
  | i32 =>
   have hk : f.kind = 3 := by simpa [ziv] using h1
   rw [if_neg (by omega), if_neg (by omega), if_neg (by omega)]
   simpa using h2
  | i64 =>
   have hk : f.kind = 4 := by simpa [ziv] using h1
   rw [if_neg (by omega), if_neg (by omega), if_neg (by omega)]
   simpa using h2
 | .txt .str, f, h => by
  simp only [Ty.dflB, Bool.and_eq_true, decide_eq_true_eq] at h
  unfold zhy
  rw [if_pos h.1]
  exact ⟨by show false = _; rw [decide_eq_false (by omega)], rfl⟩
 | .txt .nstr, f, h => by
  simp only [Ty.dflB, Bool.and_eq_true, decide_eq_true_eq] at h
  unfold zhy
  rw [if_pos h.1]
  exact ⟨by show true = _; rw [decide_eq_true h.2], rfl⟩
 | .txt .byt, f, h => by
  simp only [Ty.dflB, decide_eq_true_eq] at h
  unfold zhy
  rw [if_neg (by omega), if_neg (by omega), if_pos (.inl h)]
  exact ⟨rfl, rfl⟩
 | .txt .nbyt, f, h => by
  simp only [Ty.dflB, decide_eq_true_eq] at h
  unfold zhy
  rw [if_neg (by omega), if_neg (by omega), if_pos (.inl h)]
  exact ⟨rfl, rfl⟩
 | .arr .., f, h => by
  simp only [Ty.dflB, decide_eq_true_eq] at h
  unfold zhy
  rw [if_neg (by omega), if_neg (by omega), if_pos (.inr h)]
  exact ⟨rfl, rfl⟩
 | .row .., f, h => by simp [Ty.dflB] at h
 | .tv _, f, h => by simp [Ty.dflB] at h
theorem zrd {flex : Bool} {v : Int} : ∀ {fs : List Fld} {i : Nat} {t g : Tr}, (∀ (j : Nat) (f : Fld) (y : Tr), fs[j]? = some f → g.l[i + j]? = some y → if f.has v then zph flex v f (atT t (i + j)) y else zhy f y) → zjj flex v fs i t g
 | [], _, _, _, _ => by rw [zjj]; trivial
 | f :: r, i, t, g, h => by
  rw [zjj]
  refine ⟨fun y hy => by have := h 0 f y rfl (by simpa using hy); simpa using this, zrd fun j f' y hf hy => ?_⟩
  have := h (j + 1) f' y (by simpa using hf) (by rwa [show i + (j + 1) = i + 1 + j by omega])
  rwa [show i + (j + 1) = i + 1 + j by omega] at this
def zjg (flex : Bool) (v : Int) (fs : List Fld) (i : Nat) (t : Tr) : List UInt8 := zcz flex v fs i t ++ if flex then uvB (unkT t.u).length ++ (unkT t.u).flatMap tagB else []
def TyRd (fl : Bool) (ver : Int) (ty : Ty) (f : Fld) : Prop := ∀ (t : Tr) (r : List UInt8), wfT t →
 ∃ v, ty.rd ver fl (rs (zfb fl ver f t ++ r)) = some (v, rs r) ∧ zph fl ver f t (ty.tr v) ∧ 0 < (zfb fl ver f t).length
def ElRd (fl : Bool) (ver : Int) (e : El) (o : Int) (sub : List Fld) : Prop := ∀ (t : Tr) (r : List UInt8), wfT t →
 ∃ v, e.rd ver fl (rs (valB fl o (zdm fl ver sub) false t ++ r)) = some (v, rs r) ∧ ((o = 8 ∨ o = 10 → (e.tr v).nl = false) ∧ zka o (zpg fl ver sub) t (e.tr v)) ∧ 0 < (valB fl o (zdm fl ver sub) false t).length
def FdsRd (fl : Bool) (ver : Int) (fs : Fds) (sf : List Fld) : Prop := ∀ (i : Nat) (t : Tr) (r : List UInt8), wfT t →
 ∃ l, fs.rd ver fl (rs (zjg fl ver sf i t ++ r)) = some (l, rs r) ∧ (fs.trs l).length = sf.length ∧ fs.tgs l = zun fl t.u ∧
  ∀ (j : Nat) (f : Fld) (y : Tr), sf[j]? = some f → (fs.trs l)[j]? = some y → if f.has ver then zph fl ver f (atT t (i + j)) y else zhy f y
theorem rdN_rs {e : El} {fl : Bool} {ver o : Int} {sub : List Fld} (he : ElRd fl ver e o sub) : ∀ (l : List Tr) (r : List UInt8), (∀ x ∈ l, wfT x) →
  ∃ vs, rdN (e.rd ver fl) l.length (rs (l.flatMap (valB fl o (zdm fl ver sub) false) ++ r)) = some (vs, rs r) ∧ vs.length = l.length ∧ l.length ≤ (l.flatMap (valB fl o (zdm fl ver sub) false)).length ∧
   ∀ (i : Nat) (x z : Tr), l[i]? = some x → (vs.map e.tr)[i]? = some z → (o = 8 ∨ o = 10 → z.nl = false) ∧ zka o (zpg fl ver sub) x z
 | [], r, _ => ⟨[], rfl, rfl, Nat.zero_le _, fun i x z hx => by simp at hx⟩
 | x :: l, r, hw => by
  obtain ⟨v, h1, h2, h3⟩ := he x (l.flatMap (valB fl o (zdm fl ver sub) false) ++ r) (hw x (by simp))
  obtain ⟨vs, g1, g2, g3, g4⟩ := rdN_rs he l r fun y hy => hw y (by simp [hy])
  refine ⟨v :: vs, ?_, by simp [g2], ?_, fun i y z hy hz => ?_⟩
  ·rw [List.length_cons, rdN, List.flatMap_cons, List.append_assoc, h1]
   simp only [g1]
  ·rw [List.flatMap_cons, List.length_append, List.length_cons]; omega
  ·cases i with
   | zero => simp at hy hz; subst hy hz; exact h2
   | succ i => exact g4 i y z (by simpa using hy) (by simpa using hz)
theorem zwt {fl : Bool} {ver : Int} {f : Fld} {t : Tr} (h : f.kind ≠ 11) : zfb fl ver f t = valB fl f.kind (zdm fl ver f.sub) (f.nullB ver t) t := zpr h
theorem zox {f : Fld} {ver : Int} {t : Tr} (h : f.may ver = false) : f.nullB ver t = false := by
 unfold Fld.may at h; unfold Fld.nullB; rw [Bool.and_assoc, h]; simp
theorem kind_of {k : PK} {n : Int} (h : ziv k n = true) : n ≠ 11 ∧ n ≠ 8 ∧ n ≠ 10 ∧ n ≠ 9 := by
 cases k <;> simp [ziv] at h <;> omega
theorem pr_told {k : PK} {f : Fld} {fl : Bool} {ver : Int} (h : ziv k f.kind = true) (hm : f.may ver = false) (d : Option Value) : TyRd fl ver (.pr k d) f := by
 intro t r hw
 obtain ⟨h11, h8, h10, _⟩ := kind_of h
 rw [zwt h11, zox hm]
 obtain ⟨v, h1, h2, h3, h4⟩ := pr_rd h fl (zdm fl ver f.sub) (zpg fl ver f.sub) false hw r
 refine ⟨.num v, by rw [Ty.rd, h1], ?_, h4⟩
 rw [zjk, zox hm]
 refine ⟨fun hc => ?_, fun _ => by rw [if_neg h11]; exact h2⟩
 rcases hc with hc | hc | hc
 ·exact absurd hc h8
 ·exact absurd hc h10
 ·rw [hm] at hc; cases hc
theorem zqr {k : Txt} {f : Fld} {fl : Bool} {ver : Int} (hk : f.kind = k.kind) (hm : k = .str ∨ k = .byt → f.may ver = false) : TyRd fl ver (.txt k) f := by
 intro t r hw
 have h89 : f.kind = 8 ∨ f.kind = 9 := by rw [hk]; cases k <;> simp [Txt.kind]
 have h11 : f.kind ≠ 11 := by omega
 rw [zwt h11]
 obtain ⟨v, h1, h2, h3, _, h4⟩ := txt_rs k fl (f.nullB ver t) (fun h => zox (hm h)) (zdm fl ver f.sub) t r f.kind hk
 refine ⟨v, by rw [Ty.rd, h1], ?_, h4⟩
 rw [zjk]
 refine ⟨fun _ => h2, fun hn => ?_⟩
 rw [if_neg h11, zka, if_pos h89]
 exact h3 hn
mutual
theorem Ty.rd_of {fl : Bool} {ver : Int} : ∀ (ty : Ty) (f : Fld), ty.matB fl ver f = true → TyRd fl ver ty f
 | .pr k d, f, h => by
  simp only [Ty.matB, Bool.and_eq_true, Bool.not_eq_true'] at h
  exact pr_told h.1 h.2 d
 | .txt .str, f, h => by
  simp only [Ty.matB, Bool.and_eq_true, Bool.not_eq_true', decide_eq_true_eq] at h
  exact zqr h.1 fun _ => h.2
 | .txt .nstr, f, h => by
  simp only [Ty.matB, decide_eq_true_eq] at h
  exact zqr h fun hc => by rcases hc with hc | hc <;> cases hc
 | .txt .byt, f, h => by
  simp only [Ty.matB, Bool.and_eq_true, Bool.not_eq_true', decide_eq_true_eq] at h
  exact zqr h.1 fun _ => h.2
 | .txt .nbyt, f, h => by
  simp only [Ty.matB, decide_eq_true_eq] at h
  exact zqr h fun hc => by rcases hc with hc | hc <;> cases hc
 | .arr st nul e, f, h => by
  simp only [Ty.matB, Bool.and_eq_true, decide_eq_true_eq] at h
  obtain ⟨⟨h11, hnul⟩, he⟩ := h
  have he := El.rd_of e f.of f.sub he
  intro t r hw
  rw [znu h11]
  have hlz : (zef t.l).length ≤ 32767 := by simp [zef, most]; omega
  cases hnb : f.nullB ver t with
  | true =>
   have hmay : f.may ver = true := by
    cases hm : f.may ver with
    | true => rfl
    | false => rw [zox hm] at hnb; cases hnb
   have hk : ∃ k, nul = some k ∧ k ≤ ver := by
    cases nul with
    | none => simp [hmay] at hnul
    | some k => exact ⟨k, rfl, by simpa [hmay] using hnul⟩
   obtain ⟨k, rfl, hk⟩ := hk
   simp only [if_true, List.length_nil, List.flatMap_nil, List.append_nil]
   have hx : (if fl then znw (rs (zce fl true 0 4 ++ r)) else arrR (rs (zce fl true 0 4 ++ r))) = (-1, rs r) := by
    unfold zce
    cases fl with
    | true => simp only [Bool.and_true, if_true]; exact carr_rs0 r
    | false => simp only [Bool.false_and, Bool.false_eq_true, if_false, if_true]; exact arr_rs0 r
   refine ⟨.nilA, ?_, ?_, zek _ _ _ _ (by decide)⟩
   ·unfold Ty.rd; rw [hx]
    simp only [rs, Bool.false_eq_true, if_false]
    rw [if_neg (by decide)]
    try simp only
    rw [if_neg (by omega)]
   ·rw [zjk, hnb]
    exact ⟨fun _ => rfl, fun hc => by cases hc⟩
  | false =>
   simp only [Bool.false_eq_true, if_false]
   obtain ⟨l, hl⟩ : ∃ l, l = zef t.l := ⟨_, rfl⟩
   rw [← hl] at hlz ⊢
   have hwl : ∀ x ∈ l, wfT x := fun x hx => hw.l x (by rw [hl] at hx; exact List.mem_of_mem_take hx)
   obtain ⟨vs, g1, g2, g3, g4⟩ := rdN_rs he l r hwl
   rw [List.append_assoc]
   have hx : (if fl then znw (rs (zce fl false l.length 4 ++ (l.flatMap (valB fl f.of (zdm fl ver f.sub) false) ++ r))) else arrR (rs (zce fl false l.length 4 ++ (l.flatMap (valB fl f.of (zdm fl ver f.sub) false) ++ r)))) = ((l.length : Int), rs (l.flatMap (valB fl f.of (zdm fl ver f.sub) false) ++ r)) := by
    unfold zce
    cases fl with
    | true => simp only [Bool.and_false, Bool.false_eq_true, if_false, if_true]; exact carr_rs hlz (by rw [List.length_append]; omega)
    | false => simp only [Bool.and_false, Bool.false_eq_true, if_false]; exact arr_rs hlz (by rw [List.length_append]; omega)
   have hpos : 0 < (zce fl false l.length 4 ++ l.flatMap (valB fl f.of (zdm fl ver f.sub) false)).length := by
    have := zek fl false l.length 4 (by decide)
    rw [List.length_append]; omega
   by_cases h0 : l.length = 0
   ·have hl0 : l = [] := List.length_eq_zero_iff.1 h0
    rw [hl0] at hx g1 hpos ⊢
    simp only [List.length_nil, List.flatMap_nil, List.nil_append] at hx g1 hpos ⊢
    cases nul with
    | none =>
     have hm : f.may ver = false := by simpa using hnul
     refine ⟨.nilA, ?_, ?_, by simpa using hpos⟩
     ·unfold Ty.rd; rw [hx]
      simp only [rs, Bool.false_eq_true, if_false]
      rw [if_neg (by decide)]
     ·rw [zjk, hnb]
      refine ⟨fun hc => ?_, fun _ => ?_⟩
      ·rcases hc with hc | hc | hc
       ·omega
       ·omega
       ·rw [hm] at hc; cases hc
      ·rw [if_pos h11, ← hl, hl0]
       exact ⟨rfl, fun i x z hx => by simp at hx⟩
    | some k =>
     refine ⟨.arr e.sz [], ?_, ?_, by simpa using hpos⟩
     ·unfold Ty.rd; rw [hx]
      simp only [rs, Bool.false_eq_true, if_false]
      rw [if_neg (by decide)]
      simp
     ·rw [zjk, hnb]
      refine ⟨fun hc => rfl, fun _ => ?_⟩
      rw [if_pos h11, ← hl, hl0]
      exact ⟨rfl, fun i x z hx => by simp at hx⟩
   ·refine ⟨.arr e.sz vs, ?_, ?_, hpos⟩
    ·unfold Ty.rd; rw [hx]
     simp only [rs, Bool.false_eq_true, if_false]
     rw [if_pos (by omega)]
     have : ((l.length : Nat) : Int).toNat = l.length := by omega
     simp only [rs] at g1
     rw [this, g1]
    ·rw [zjk, hnb]
     refine ⟨fun _ => rfl, fun _ => ?_⟩
     rw [if_pos h11, ← hl]
     refine ⟨by show (vs.map e.tr).length = _; rw [List.length_map, g2], fun i x z hx hz => g4 i x z hx hz⟩
 | .row .., f, h => by simp [Ty.matB] at h
 | .tv _, f, h => by simp [Ty.matB] at h
theorem El.rd_of {fl : Bool} {ver : Int} : ∀ (e : El) (o : Int) (sub : List Fld), e.matB fl ver o sub = true → ElRd fl ver e o sub
 | .pr k, o, sub, h => by
  simp only [El.matB] at h
  intro t r hw
  obtain ⟨h11, h8, h10, _⟩ := kind_of h
  obtain ⟨v, h1, h2, h3, h4⟩ := pr_rd h fl (zdm fl ver sub) (zpg fl ver sub) false hw r
  exact ⟨.num v, by rw [El.rd, h1], ⟨fun hc => h3, h2⟩, h4⟩
 | .txt k, o, sub, h => by
  have hk : o = k.kind := by cases k <;> simpa [El.matB, Txt.kind] using h
  intro t r hw
  have h89 : o = 8 ∨ o = 9 := by rw [hk]; cases k <;> simp [Txt.kind]
  obtain ⟨v, h1, h2, h3, h5, h4⟩ := txt_rs k fl false (fun _ => rfl) (zdm fl ver sub) t r o hk
  refine ⟨v, by rw [El.rd, h1], ⟨fun _ => by rw [h5]; exact h2, ?_⟩, h4⟩
  rw [h5, zka, if_pos h89]
  exact h3 rfl
 | .row T pT d fs, o, sub, h => by
  simp only [El.matB, Bool.and_eq_true, decide_eq_true_eq] at h
  obtain ⟨⟨h10, hfs⟩, hne⟩ := h
  have hfs' := Fds.rd_of fs sub hfs
  intro t r hw
  have hv : valB fl o (zdm fl ver sub) false t = zjg fl ver sub 0 t := by rw [h10]; simp [valB, zdm, endB, zjg]
  rw [hv]
  obtain ⟨l, h1, h2, h3, h4⟩ := hfs' 0 t r hw
  refine ⟨.row l, by rw [El.rd, h1], ⟨fun _ => rfl, ?_⟩, ?_⟩
  ·rw [zka, if_neg (by omega), if_neg (by omega), if_pos h10]
   refine ⟨h2, zrd fun j f y hf hy => ?_, h3⟩
   have := h4 j f y hf (by rw [Nat.zero_add] at hy; exact hy)
   exact this
  ·unfold zjg
   rw [List.length_append]
   cases fl with
   | true => have := zxt (unkT t.u).length; simp only [if_true, List.length_append]; omega
   | false =>
    simp only [Bool.false_or, List.any_eq_true] at hne
    obtain ⟨f, hf, hhas⟩ := hne
    have := Fds.pos_of fs sub hfs 0 t hw f hf hhas
    omega
theorem Fds.pos_of {fl : Bool} {ver : Int} : ∀ (fs : Fds) (sf : List Fld), fs.matB fl ver sf = true → ∀ (i : Nat) (t : Tr), wfT t → ∀ f ∈ sf, f.has ver = true → 0 < (zcz fl ver sf i t).length
 | .nil, [], _, _, _, _, f, hf, _ => by cases hf
 | .tags, [], _, _, _, _, f, hf, _ => by cases hf
 | .cons g ty r, f' :: sf, h, i, t, hw, f, hf, hh => by
  simp only [Fds.matB, Bool.and_eq_true, beq_iff_eq] at h
  obtain ⟨⟨hg, hty⟩, hr⟩ := h
  rw [zcz, List.length_append]
  rcases List.mem_cons.1 hf with e | hf
  ·subst e
   rw [hh] at hty
   simp only [if_true] at hty
   rw [hh, if_pos rfl]
   obtain ⟨v, _, _, h4⟩ := Ty.rd_of ty f hty (atT t i) [] (hw.at i)
   omega
  ·have := Fds.pos_of r sf hr (i + 1) t hw f hf hh
   omega
 | .nil, _ :: _, h, _, _, _, _, _, _ => by simp [Fds.matB] at h
 | .tags, _ :: _, h, _, _, _, _, _, _ => by simp [Fds.matB] at h
 | .cons .., [], h, _, _, _, _, _, _ => by simp [Fds.matB] at h
theorem Fds.rd_of {fl : Bool} {ver : Int} : ∀ (fs : Fds) (sf : List Fld), fs.matB fl ver sf = true → FdsRd fl ver fs sf
 | .nil, [], h => by
  have h : fl = false := by simpa [Fds.matB] using h
  subst h
  intro i t r hw
  refine ⟨[], ?_, rfl, ?_, fun j f y hf => by simp at hf⟩
  ·simp [zjg, zcz, Fds.rd]
  ·simp [Fds.tgs, zun]
 | .tags, [], _ => by
  intro i t r hw
  cases fl with
  | true =>
   refine ⟨[.tags ((unkT t.u).map fun x => (x.1, zbs x.2))], ?_, rfl, ?_, fun j f y hf => by simp at hf⟩
   ·simp only [zjg, zcz, Fds.rd, if_true, List.nil_append]
    rw [tagsR_rs t.u hw.u r]
   ·simp only [Fds.tgs, zun, if_true]
    refine zxz ?_
    have := zrc t.u
    rw [List.map_map]
    exact this
  | false =>
   refine ⟨[.tags []], ?_, rfl, ?_, fun j f y hf => by simp at hf⟩
   ·simp [zjg, zcz, Fds.rd]
   ·simp [Fds.tgs, zun, zdu]
 | .cons g ty r', f :: sf, h => by
  simp only [Fds.matB, Bool.and_eq_true, beq_iff_eq] at h
  obtain ⟨⟨hg, hty⟩, hr⟩ := h
  have hr' := Fds.rd_of r' sf hr
  intro i t r hw
  obtain ⟨l, h1, h2, h3, h4⟩ := hr' (i + 1) t r hw
  have key : ∀ v, (if g.on ver then ty.rd ver fl (rs (zjg fl ver (f :: sf) i t ++ r)) else some (ty.iniV, rs (zjg fl ver (f :: sf) i t ++ r))) = some (v, rs (zjg fl ver sf (i + 1) t ++ r)) → (if f.has ver then zph fl ver f (atT t i) (ty.tr v) else zhy f (ty.tr v)) →
    ∃ l, (Fds.cons g ty r').rd ver fl (rs (zjg fl ver (f :: sf) i t ++ r)) = some (l, rs r) ∧ ((Fds.cons g ty r').trs l).length = (f :: sf).length ∧ (Fds.cons g ty r').tgs l = zun fl t.u ∧
     ∀ (j : Nat) (f' : Fld) (y : Tr), (f :: sf)[j]? = some f' → ((Fds.cons g ty r').trs l)[j]? = some y → if f'.has ver then zph fl ver f' (atT t (i + j)) y else zhy f' y := by
   intro v hv ht
   refine ⟨v :: l, ?_, ?_, h3, fun j f' y hf' hy => ?_⟩
   ·rw [Fds.rd, hv]
    simp only [h1]
   ·show (ty.tr v :: r'.trs l).length = _
    simp [h2]
   ·cases j with
    | zero =>
     simp at hf'
     have hy : some (ty.tr v) = some y := hy
     injection hy with hy
     subst hf' hy
     exact ht
    | succ j =>
     have := h4 j f' y (by simpa using hf') hy
     rwa [show i + 1 + j = i + (j + 1) by omega] at this
  cases hh : f.has ver with
  | true =>
   rw [hh] at hty hg
   simp only [if_true] at hty
   obtain ⟨v, g1, g2, _⟩ := Ty.rd_of ty f hty (atT t i) (zjg fl ver sf (i + 1) t ++ r) (hw.at i)
   refine key v ?_ (by rw [hh]; exact g2)
   rw [hg, if_pos rfl]
   have : zjg fl ver (f :: sf) i t ++ r = zfb fl ver f (atT t i) ++ (zjg fl ver sf (i + 1) t ++ r) := by
    unfold zjg; rw [zcz, hh]; simp only [if_true, List.append_assoc]
   rw [this]; exact g1
  | false =>
   rw [hh] at hty hg
   simp only [Bool.false_eq_true, if_false] at hty
   refine key ty.iniV ?_ (by rw [hh]; simpa using dfl_usual hty)
   rw [hg]
   simp only [Bool.false_eq_true, if_false]
   have : zjg fl ver (f :: sf) i t = zjg fl ver sf (i + 1) t := by
    unfold zjg; rw [zcz, hh]; simp
   rw [this]
 | .nil, _ :: _, h => by simp [Fds.matB] at h
 | .tags, _ :: _, h => by simp [Fds.matB] at h
 | .cons .., [], h => by simp [Fds.matB] at h
end
def Fds.offB (fl : Bool) (ver : Int) : Fds → Bool
 | .nil => true
 | .tags => !fl
 | .cons g _ r => !g.on ver && r.offB fl ver
theorem msg_rd {m : Msg} {fx : Bool} {ver : Int} {sf : List Fld} {t : Tr} (hw : wfT t) (hm : m.fs.matB (fx && decide (ver ≥ m.fl)) ver sf = true) :
  ((fx && decide (ver ≥ m.fl)) = true ∨ (sf.any fun f => f.has ver) = true → zdm (fx && decide (ver ≥ m.fl)) ver sf t ≠ []) ∧ ∃ l, m.rd fx ver (rs (zdm (fx && decide (ver ≥ m.fl)) ver sf t)) = some l ∧ zpg (fx && decide (ver ≥ m.fl)) ver sf t (m.fs.tr l) := by
 obtain ⟨fl, hfl⟩ : ∃ fl, fl = (fx && decide (ver ≥ m.fl)) := ⟨_, rfl⟩
 rw [← hfl] at hm ⊢
 have hp : zdm fl ver sf t = zjg fl ver sf 0 t := by simp [zdm, endB, zjg]
 obtain ⟨l, h1, h2, h3, h4⟩ := Fds.rd_of m.fs sf hm 0 t [] hw
 rw [List.append_nil] at h1
 rw [hp]
 refine ⟨fun hne he => ?_, l, ?_, ?_⟩
 ·have hl : 0 < (zjg fl ver sf 0 t).length := by
   unfold zjg
   rw [List.length_append]
   rcases hne with hne | hne
   ·have := zxt (unkT t.u).length; rw [hne]; simp only [if_true, List.length_append]; omega
   ·rw [List.any_eq_true] at hne
    obtain ⟨f, hf, hh⟩ := hne
    have := Fds.pos_of m.fs sf hm 0 t hw f hf hh
    omega
  rw [he] at hl; simp at hl
 ·unfold Msg.rd
  rw [← hfl, h1]
  simp [rs]
 ·refine ⟨h2, zrd fun j f y hf hy => ?_, h3⟩
  exact h4 j f y hf (by rw [Nat.zero_add] at hy; exact hy)
def szU (u : List (Nat × List UInt8)) : Nat := (u.map fun x => 1 + x.2.length).sum
mutual
def szT : Tr → Nat
 | .mk _ s _ l u => 1 + s.length + szTs l + szU u
def szTs : List Tr → Nat
 | [] => 0
 | t :: l => szT t + szTs l
end
theorem ztj (t : Tr) : szT t = 1 + t.s.length + szTs t.l + szU t.u := by cases t; rfl
theorem zxv (t : Tr) : 1 ≤ szT t := by rw [ztj]; omega
theorem szU_ins (k : Nat) (x : List UInt8) : ∀ a : List (Nat × List UInt8), szU (insT k x a) ≤ szU a + (1 + x.length)
 | [] => by simp [insT, szU]
 | (k', y) :: a => by
  have ih := szU_ins k x a
  rw [insT]
  split
  ·simp only [szU, List.map_cons, List.sum_cons] at ih ⊢; omega
  ·split
   ·omega
   ·simp only [szU, List.map_cons, List.sum_cons]; omega
theorem szU_fold : ∀ u a : List (Nat × List UInt8), szU (u.foldl (fun a x => insT x.1 x.2 a) a) ≤ szU a + szU u
 | [], a => by simp [szU]
 | x :: u, a => by
  have h1 := szU_ins x.1 x.2 a
  have h2 := szU_fold u (insT x.1 x.2 a)
  have e : szU (x :: u) = 1 + x.2.length + szU u := by simp [szU]
  rw [List.foldl_cons]; omega
theorem szU_take (n : Nat) : ∀ u : List (Nat × List UInt8), szU (u.take n) ≤ szU u := by
 induction n with
 | zero => intro u; simp [szU]
 | succ n ih =>
  intro u
  cases u with
  | nil => simp
  | cons x u => have := ih u; simp only [szU, List.take_succ_cons, List.map_cons, List.sum_cons] at this ⊢; omega
theorem szU_unk (u : List (Nat × List UInt8)) : szU (unkT u) ≤ szU u := by
 have h1 := szU_fold (u.take most) []
 have h2 := szU_take most u
 have : szU ([] : List (Nat × List UInt8)) = 0 := rfl
 unfold unkT; omega
theorem uvB_le {n : Nat} (h : n < 2 ^ 64) : (uvB n).length ≤ 10 := ziq h
theorem tags_len : ∀ (u : List (Nat × List UInt8)), (∀ x ∈ u, x.1 < 4294967296) → (u.flatMap tagB).length ≤ 20 * szU u
 | [], _ => by simp [szU]
 | x :: u, h => by
  have ih := tags_len u fun y hy => h y (by simp [hy])
  have h1 := uvB_le (n := x.1) (by have := h x (by simp); omega)
  have hw := zmf x.2
  have h2 := uvB_le (n := (zbs x.2).length) (by omega)
  have h3 : (zbs x.2).length ≤ x.2.length := by simp [zbs]; omega
  have e : szU (x :: u) = 1 + x.2.length + szU u := by simp [szU]
  rw [List.flatMap_cons, List.length_append, e, tagB]
  simp only [List.length_append]; omega
theorem end_len {flex : Bool} {u : List (Nat × List UInt8)} (h : ∀ x ∈ u, x.1 < 4294967296) : (if flex then uvB (unkT u).length ++ (unkT u).flatMap tagB else []).length ≤ 10 + 20 * szU u := by
 cases flex with
 | false => simp
 | true =>
  have h1 := zqq u
  have h2 := uvB_le (n := (unkT u).length) (by omega)
  have h3 := tags_len (unkT u) fun x hx => h x (zul hx)
  have h4 := szU_unk u
  simp only [if_true, List.length_append]; omega
def K0 : Nat := 40000
theorem zry (fl null : Bool) (n size : Nat) (hn : n ≤ 32767) (hs : size ≤ 8) : (zce fl null n size).length ≤ 10 := zqd fl null n size hn hs
theorem valB_len {fl : Bool} {kind : Int} {pt : Tr → List UInt8} {null : Bool} {t : Tr} (hp : kind = 10 → (pt t).length ≤ K0 * szT t) : (valB fl kind pt null t).length ≤ K0 * szT t ∧ (kind ≠ 10 → (valB fl kind pt null t).length ≤ 20 + t.s.length) := by
 have h1 := zxv t
 have hs : t.s.length ≤ szT t := by rw [ztj]; omega
 have hw : (zbs t.s).length ≤ t.s.length := by simp [zbs]; omega
 have hw2 := zmf t.s
 have key : (valB fl kind pt null t).length ≤ 20 + t.s.length → (valB fl kind pt null t).length ≤ K0 * szT t ∧ (kind ≠ 10 → (valB fl kind pt null t).length ≤ 20 + t.s.length) := fun h => ⟨by unfold K0; omega, fun _ => h⟩
 have hc : ∀ size, size ≤ 8 → (zce fl null (if null then [] else zbs t.s).length size ++ (if null then [] else zbs t.s)).length ≤ 20 + t.s.length := by
  intro size hsz
  have hl : (if null then [] else zbs t.s).length ≤ t.s.length ∧ (if null then [] else zbs t.s).length ≤ 32767 := by cases null <;> simp <;> omega
  have := zry fl null _ size hl.2 hsz
  rw [List.length_append]; omega
 by_cases e0 : kind = 0
 ·exact key (by rw [valB, if_pos e0]; simp; omega)
 by_cases e7 : kind = 7
 ·exact key (by rw [valB, if_neg e0, if_pos e7]; have := idB_len t.s; unfold idB at this; omega)
 by_cases e8 : kind = 8
 ·exact key (by rw [valB, if_neg e0, if_neg e7, if_pos e8]; exact hc 2 (by decide))
 by_cases e9 : kind = 9
 ·exact key (by rw [valB, if_neg e0, if_neg e7, if_neg e8, if_pos e9]; exact hc 4 (by decide))
 by_cases e10 : kind = 10
 ·rw [valB, if_neg e0, if_neg e7, if_neg e8, if_neg e9, if_pos e10]
  exact ⟨hp e10, fun h => absurd e10 h⟩
 ·refine key ?_
  rw [valB, if_neg e0, if_neg e7, if_neg e8, if_neg e9, if_neg e10, zdh]
  have : zgm kind ≤ 8 := by unfold zgm; (repeat' split) <;> omega
  omega
theorem flat_len {f : Tr → List UInt8} : ∀ {l : List Tr}, (∀ x ∈ l, (f x).length ≤ K0 * szT x) → (l.flatMap f).length ≤ K0 * szTs l
 | [], _ => by simp
 | x :: l, h => by
  have h1 := h x (by simp)
  have h2 := flat_len fun y hy => h y (List.mem_cons_of_mem _ hy)
  rw [List.flatMap_cons, List.length_append, szTs, Nat.mul_add]; omega
theorem szTs_take (n : Nat) : ∀ l : List Tr, szTs (l.take n) ≤ szTs l := by
 induction n with
 | zero => intro l; simp [szTs]
 | succ n ih =>
  intro l
  cases l with
  | nil => simp
  | cons x l => have := ih l; simp only [szTs, List.take_succ_cons]; omega
def ztc (t : Tr) (i : Nat) : Nat := szTs (t.l.drop i)
theorem restS_at (t : Tr) (i : Nat) : (i < t.l.length → ztc t i = szT (atT t i) + ztc t (i + 1)) ∧ (¬ i < t.l.length → atT t i = tr0 ∧ ztc t (i + 1) = 0) := by
 refine ⟨fun h => ?_, fun h => ?_⟩
 ·unfold ztc atT
  rw [List.drop_eq_getElem_cons h, szTs, List.getD, List.getElem?_eq_getElem h]; rfl
 ·unfold ztc atT
  rw [List.getD, List.getElem?_eq_none (by omega), List.drop_of_length_le (by omega)]
  exact ⟨rfl, rfl⟩
mutual
theorem fieldB_len {fl : Bool} {v : Int} : ∀ (f : Fld), okFB f = true → ∀ t, wfT t → (zfb fl v f t).length ≤ K0 * szT t ∧ (t.l = [] → (zfb fl v f t).length ≤ 20 + t.s.length)
 | .mk k fr to n g d o sub, h, t, hw => by
  simp only [okFB, Bool.and_eq_true, decide_eq_true_eq, Bool.or_eq_true] at h
  obtain ⟨⟨h1, h2⟩, h3⟩ := h
  have h1 := zxv t
  by_cases e11 : k = 11
  ·have hp : o = 10 → ∀ x, wfT x → (zdm fl v sub x).length ≤ K0 * szT x := by
    intro ho x hx
    rcases h3 with (h3 | h3) | ⟨h3, h4⟩
    ·exact absurd e11 h3
    ·exact absurd ho h3
    ·have hs : sub.length < 1000 := by simpa using h3
     have hf := znt (fl := fl) (v := v) sub h4 0 x hx
     have he := end_len (flex := fl) (u := x.u) hx.u
     have hx0 : ztc x 0 = szTs x.l := by simp [ztc]
     unfold zdm endB
     rw [List.length_append]
     rw [hx0] at hf
     rw [ztj x]
     have : K0 * (1 + x.s.length + szTs x.l + szU x.u) = K0 + K0 * x.s.length + K0 * szTs x.l + K0 * szU x.u := by simp only [Nat.mul_add, Nat.mul_one]
     rw [this]
     have : 20 * szU x.u ≤ K0 * szU x.u := Nat.mul_le_mul_right _ (by decide)
     have : 20 * sub.length + 10 ≤ K0 := by unfold K0; omega
     omega
   have e : zfb fl v (.mk k fr to n g d o sub) t = _ := znu (f := .mk k fr to n g d o sub) e11
   rw [e]
   obtain ⟨l, hl⟩ : ∃ l, l = (if (Fld.mk k fr to n g d o sub).nullB v t then [] else zef t.l) := ⟨_, rfl⟩
   rw [← hl]
   have hsub : szTs l ≤ szTs t.l ∧ l.length ≤ 32767 ∧ (∀ x ∈ l, wfT x) ∧ (t.l = [] → l = []) := by
    rw [hl]
    cases (Fld.mk k fr to n g d o sub).nullB v t with
    | true => exact ⟨by simp [szTs], by simp, (fun x hx => by cases hx), fun _ => rfl⟩
    | false => exact ⟨szTs_take most t.l, by simp [zef, most]; omega, fun x hx => hw.l x (List.mem_of_mem_take hx), fun h => by simp [zef, h]⟩
   obtain ⟨s1, s2, s3, s4⟩ := hsub
   have hc := zry fl ((Fld.mk k fr to n g d o sub).nullB v t) l.length 4 s2 (by decide)
   have hfl : (l.flatMap (valB fl o (zdm fl v sub) false)).length ≤ K0 * szTs l := flat_len fun x hx => (valB_len (fun ho => hp ho x (s3 x hx))).1
   have hm : K0 * szTs l ≤ K0 * szTs t.l := Nat.mul_le_mul_left _ s1
   refine ⟨?_, fun h0 => ?_⟩
   ·rw [List.length_append]
    show _ + (l.flatMap (valB fl o (zdm fl v sub) false)).length ≤ _
    rw [ztj t]
    have : K0 * (1 + t.s.length + szTs t.l + szU t.u) = K0 + K0 * t.s.length + K0 * szTs t.l + K0 * szU t.u := by simp only [Nat.mul_add, Nat.mul_one]
    rw [this]
    have : 10 ≤ K0 := by decide
    omega
   ·rw [List.length_append]
    have := s4 h0
    rw [this] at hc ⊢
    simp only [List.flatMap_nil, List.length_nil] at hc ⊢
    omega
  ·have e : zfb fl v (.mk k fr to n g d o sub) t = _ := zpr (f := .mk k fr to n g d o sub) e11
   rw [e]
   have := valB_len (fl := fl) (kind := k) (pt := zdm fl v sub) (null := (Fld.mk k fr to n g d o sub).nullB v t) (t := t) (fun hc => absurd hc h2)
   exact ⟨this.1, fun _ => this.2 h2⟩
theorem znt {fl : Bool} {v : Int} : ∀ (fs : List Fld), zov fs = true → ∀ (i : Nat) (t : Tr), wfT t → (zcz fl v fs i t).length ≤ 20 * fs.length + K0 * ztc t i
 | [], _, i, t, _ => by simp [zcz]
 | f :: r, h, i, t, hw => by
  simp only [zov, Bool.and_eq_true] at h
  have h1 := fieldB_len (fl := fl) (v := v) f h.1 (atT t i) (hw.at i)
  have h2 := znt (fl := fl) (v := v) r h.2 (i + 1) t hw
  rw [zcz, List.length_append, List.length_cons]
  have h3 : (if f.has v then zfb fl v f (atT t i) else []).length ≤ (zfb fl v f (atT t i)).length := by split <;> simp
  have hm : 20 * (r.length + 1) = 20 * r.length + 20 := by omega
  rw [hm]
  obtain ⟨r1, r2⟩ := restS_at t i
  by_cases hi : i < t.l.length
  ·rw [r1 hi, Nat.mul_add]
   have h5 := h1.1
   omega
  ·obtain ⟨e1, e2⟩ := r2 hi
   have h4 := h1.2 (by rw [e1]; rfl)
   have e3 : (atT t i).s.length = 0 := by rw [e1]; rfl
   rw [e2] at h2
   have : K0 * 0 = 0 := rfl
   omega
end
theorem partB_len {fl : Bool} {v : Int} {fs : List Fld} (h : zov fs = true) (hl : fs.length < 1000) {t : Tr} (hw : wfT t) : (zdm fl v fs t).length ≤ K0 * szT t := by
 have hf := znt (fl := fl) (v := v) fs h 0 t hw
 have he := end_len (flex := fl) (u := t.u) hw.u
 have hx0 : ztc t 0 = szTs t.l := by simp [ztc]
 unfold zdm endB
 rw [List.length_append]
 rw [hx0] at hf
 rw [ztj t]
 have : K0 * (1 + t.s.length + szTs t.l + szU t.u) = K0 + K0 * t.s.length + K0 * szTs t.l + K0 * szU t.u := by simp only [Nat.mul_add, Nat.mul_one]
 rw [this]
 have : 20 * szU t.u ≤ K0 * szU t.u := Nat.mul_le_mul_right _ (by decide)
 have : 20 * fs.length + 10 ≤ K0 := by unfold K0; omega
 omega
section
open Go Go.RowKit Go.ChangeShapes Go.WideShapes
structure BulkF {H : Type} (B : DataW H → Nat) (BA : List (DataW H) → Nat) : Prop where
 lit : ∀ l, 1 ≤ B (.lit l)
 slice : ∀ e s, B (.slice e s) = BA e + BA s + 1
 agg : ∀ l, B (.agg l) = BA l + 1
 nil : B .nil = 1
 anil : BA [] = 0
 acons : ∀ d l, BA (d :: l) = B d + BA l
structure TreeO (P : Program) (N : Nums) : Prop where
 tree : ∃ fs, P.underlying N.zc = some (.struct fs) ∧ fs.toList.map (fun f => (f.offset, f.type)) = [(0, N.zav), (1, N.za), (2, N.zae), (3, N.zn), (4, N.zk)]
 tag : ∃ fs, P.underlying N.zab = some (.struct fs) ∧ fs.toList.map (fun f => (f.offset, f.type)) = [(0, N.zp), (1, N.za)]
 cTree : P.cellsOf N.zc = 5
 cTag : P.cellsOf N.zab = 2
 c1 : P.cellsOf N.zav = 1 ∧ P.cellsOf N.za = 1 ∧ P.cellsOf N.zae = 1 ∧ P.cellsOf N.zn = 1 ∧ P.cellsOf N.zk = 1 ∧ P.cellsOf N.zp = 1 ∧ P.cellsOf N.zy = 1
theorem ztu {w : World} {a : Addr} : ∀ {n k : Nat} {cs : List Value}, ((List.range' k n).mapM fun i => w.cell? (a.add i)) = some cs → cs.length = n ∧ ∀ j, j < n → w.cell? (a.add (k + j)) = cs[j]?
 | 0, k, cs, h => by simp at h; subst h; exact ⟨rfl, fun j hj => by omega⟩
 | n + 1, k, cs, h => by
  rw [List.range'_succ, List.mapM_cons] at h
  simp only [Option.bind_eq_bind, Option.bind_eq_some_iff, Option.pure_def, Option.some.injEq] at h
  obtain ⟨c, hc, r, hr, rfl⟩ := h
  obtain ⟨g1, g2⟩ := ztu hr
  refine ⟨by simp [g1], fun j hj => ?_⟩
  cases j with
  | zero => simpa using hc
  | succ j => have := g2 j (by omega); rw [show k + (j + 1) = k + 1 + j by omega, this]; simp
theorem zyr {w : World} {base : Nat} {a : Addr} {n : Nat} {cs : List Value} (h : w.cells? base a n = some cs) (hn : 0 < n) : ∃ b o, a = ⟨b, o, none⟩ ∧ cs.length = n ∧ w.rangeAt b o cs := by
 unfold World.cells? at h
 split at h
 case isFalse => cases h
 rw [List.range_eq_range'] at h
 obtain ⟨h1, h2⟩ := ztu h
 have h0 := h2 0 hn
 have e0 : a.add (0 + 0) = a := by simp [Addr.add]
 rw [e0, List.getElem?_eq_getElem (by omega)] at h0
 obtain ⟨b, o, s⟩ := a
 have hs : s = none := by
  cases s with
  | none => rfl
  | some x =>
   unfold World.cell? at h0
   split at h0
   ·simp at h0
   ·cases h0
 subst hs
 refine ⟨b, o, rfl, h1, fun j v hj => ?_⟩
 have hl := (List.getElem?_eq_some_iff.1 hj).1
 have := h2 j (by omega)
 rw [hj, Nat.zero_add] at this
 rwa [Addr.add_mid] at this
theorem add_next {a : Addr} {m b o n : Nat} (h : a.add m = ⟨b, o, none⟩) : a.add (m + n) = ⟨b, o + n, none⟩ := by
 unfold Addr.add at h ⊢
 split at h
 ·rename_i hm
  subst hm h
  split
  ·rename_i h2; have : n = 0 := by omega
   subst this; rfl
  ·simp
 ·rename_i hm
  rw [if_neg (by omega)]
  simp only [Addr.mk.injEq, and_true] at h ⊢
  omega
inductive RelL {α : Type} (R : α → List Value → Prop) : List α → List (List Value) → Prop
 | nil : RelL R [] []
 | cons {x l c r} : R x c → RelL R l r → RelL R (x :: l) (c :: r)
theorem zml {H α : Type} {w : World} {a : Addr} {sz : Nat} (hsz : 0 < sz) (R : α → List Value → Prop) (S : α → Nat) {B : DataW H → Nat} {BA : List (DataW H) → Nat} (hB : BulkF B BA) : ∀ (elems : List (DataW H × List MemPlace)) (k : Nat),
  (∀ i (h : i < elems.length), ∃ cs x, w.cells? 0 (a.add ((k + i) * sz)) sz = some cs ∧ R x cs ∧ S x ≤ B (elems[i]).1) →
  ∃ l css, l.length = elems.length ∧ RelL R l css ∧ (l.map S).sum ≤ BA (elems.map (·.1)) ∧ (elems ≠ [] → ∃ b o, a.add (k * sz) = ⟨b, o, none⟩ ∧ w.rangeAt b o css.flatten)
 | [], k, _ => ⟨[], [], rfl, .nil, by simp, fun h => absurd rfl h⟩
 | e :: elems, k, h => by
  obtain ⟨cs, x, hc, hR, hS⟩ := h 0 (by simp)
  obtain ⟨b, o, ha, hl, hr⟩ := zyr hc hsz
  rw [Nat.add_zero] at ha
  obtain ⟨l, css, g1, g2, g3, g4⟩ := zml hsz R S hB elems (k + 1) fun i hi => by
   have := h (i + 1) (by simp; omega)
   rw [show k + (i + 1) = k + 1 + i by omega] at this
   simpa using this
  refine ⟨x :: l, cs :: css, by simp [g1], .cons hR g2, ?_, fun _ => ⟨b, o, ha, ?_⟩⟩
  ·rw [List.map_cons, List.sum_cons, List.map_cons, hB.acons]
   have hS : S x ≤ B e.1 := hS
   omega
  ·rw [List.flatten_cons, zu]
   refine ⟨hr, ?_⟩
   cases elems with
   | nil =>
    have : l = [] := List.length_eq_zero_iff.1 (by simpa using g1)
    subst this
    cases g2
    intro j v hj; simp at hj
   | cons e' elems =>
    obtain ⟨b2, o2, ha2, hr2⟩ := g4 (by simp)
    have := add_next (n := sz) ha
    rw [show k * sz + sz = (k + 1) * sz by rw [Nat.add_mul, Nat.one_mul], ha2] at this
    injection this with e1 e2
    subst e1 e2
    rw [hl]; exact hr2
theorem wf_i64 {n : Int} (h : (Lit.int .i64 n).wf = true) : -9223372036854775808 ≤ n ∧ n < 9223372036854775808 := by
 simp [Lit.wf, IntKind.min, IntKind.max, IntKind.signed, IntKind.bits] at h
 omega
theorem wf_u32 {n : Int} (h : (Lit.int .u32 n).wf = true) : 0 ≤ n ∧ n < 4294967296 := by
 simp [Lit.wf, IntKind.min, IntKind.max, IntKind.signed, IntKind.bits] at h
 omega
section
variable {P : Program} {N : Nums} {H : Type} {enc : TypeId × Value → H} {w : World} {B : DataW H → Nat} {BA : List (DataW H) → Nat}
theorem oct_open (T : TreeO P N) (Bs : Base P N) (hB : BulkF B BA) {fuel : Nat} {c : Value} {x : DataW H × List MemPlace} (h : DataW.trod enc P w 0 (fun _ => true) true fuel N.za [c] = some x) : ∃ s, OctA w c s ∧ s.length + 1 ≤ B x.1 := by
 have he : P.underlying N.zy = some (.int .u8) := Bs.uint8.und
 rcases DataW.trod_slice Bs.Lu8.und h with ⟨hc, rfl⟩ | ⟨a, len, cap, elems, rest, n, rfl, hc, rfl, hb, hl, hm, hlen, hel, hsp, _⟩
 ·injection hc with hc
  exact ⟨[], .inl ⟨none, 0, hc, rfl⟩, by rw [hB.nil]; simp⟩
 ·injection hc with hc
  rw [T.c1.2.2.2.2.2.2] at hel
  obtain ⟨l, css, g1, g2, g3, g4⟩ := zml (a := a) (sz := 1) (by decide) (fun (y : UInt8) cs => cs = [zbg y]) (fun _ => 1) hB elems 0 fun i hi => by
   have h1 := hel i (by omega)
   rw [List.getElem?_eq_getElem hi, Option.bind_eq_some_iff] at h1
   obtain ⟨cs, hcs, hy⟩ := h1
   obtain ⟨m, rfl, hx, hw⟩ := DataW.trod_int he hy
   refine ⟨_, UInt8.ofNat m.toNat, by rw [Nat.zero_add]; exact hcs, by rw [octet_of hw], ?_⟩
   rw [hx]; exact hB.lit _
  have hcs : ∀ {l : List UInt8} {css : List (List Value)}, RelL (fun (y : UInt8) cs => cs = [zbg y]) l css → css.flatten = l.map zbg := by
   intro l css hr
   induction hr with
   | nil => rfl
   | cons h _ ih => subst h; simp [ih]
  have hs : (l.map fun _ => 1).sum = l.length := by
   clear g1 g2 g3 g4
   induction l with
   | nil => rfl
   | cons y l ih => simp [ih]; omega
  refine ⟨l, ?_, ?_⟩
  ·by_cases h0 : len = 0
   ·exact .inl ⟨some a, cap, by rw [hc, h0], List.length_eq_zero_iff.1 (by omega)⟩
   ·obtain ⟨b, o, ha, hr⟩ := g4 (fun e => by rw [e] at hlen; simp at hlen; omega)
    have ha : a = ⟨b, o, none⟩ := by simpa [Addr.add] using ha
    exact .inr ⟨b, o, cap, by rw [hc, ha, g1, hlen], by omega, by rw [← hcs g2]; exact hr⟩
  ·rw [hB.slice]; omega
theorem tags_open (T : TreeO P N) (Bs : Base P N) (hT : zgf P N N.zc N.zab N.zn N.zk) (hB : BulkF B BA) {fuel : Nat} {c : Value} {x : DataW H × List MemPlace} (h : DataW.trod enc P w 0 (fun _ => true) true fuel N.zk [c] = some x) : ∃ u, zik w c u ∧ (∀ y ∈ u, y.1 < 4294967296) ∧ szU u + 1 ≤ B x.1 := by
 rcases DataW.trod_slice hT.lg.und h with ⟨hc, rfl⟩ | ⟨a, len, cap, elems, rest, n, rfl, hc, rfl, hb, hl, hm, hlen, hel, hsp, _⟩
 ·injection hc with hc
  exact ⟨[], .inl ⟨none, 0, hc, rfl⟩, (fun y hy => by cases hy), by rw [hB.nil]; simp [szU]⟩
 ·injection hc with hc
  rw [T.cTag] at hel
  obtain ⟨fs, hu, hfs⟩ := T.tag
  obtain ⟨l, css, g1, g2, g3, g4⟩ := zml (a := a) (sz := 2) (by decide) (fun (y : Nat × List UInt8) cs => ∃ s, cs = [.int .u32 y.1, s] ∧ OctA w s y.2 ∧ y.1 < 4294967296) (fun y => 1 + y.2.length) hB elems 0 fun i hi => by
   have h1 := hel i (by omega)
   rw [List.getElem?_eq_getElem hi, Option.bind_eq_some_iff] at h1
   obtain ⟨cs, hcs, hy⟩ := h1
   obtain ⟨xs, n', rfl, hx, hcl, hxl, hfi⟩ := DataW.trod_struct hu hy
   rw [T.cTag] at hcl
   have hfl : fs.toList.length = 2 := by have := congrArg List.length hfs; simpa using this
   match cs, hcl with
   | [c0, c1], _ =>
    have f0 : ∃ f, fs[0]? = some f ∧ f.offset = 0 ∧ f.type = N.zp := by
     have := congrArg (fun l => l[0]?) hfs
     simp only [List.getElem?_map, Array.getElem?_toList] at this
     cases hf : fs[0]? with
     | none => rw [hf] at this; simp at this
     | some f => rw [hf] at this; simp at this; exact ⟨f, rfl, this.1, this.2⟩
    have f1 : ∃ f, fs[1]? = some f ∧ f.offset = 1 ∧ f.type = N.za := by
     have := congrArg (fun l => l[1]?) hfs
     simp only [List.getElem?_map, Array.getElem?_toList] at this
     cases hf : fs[1]? with
     | none => rw [hf] at this; simp at this
     | some f => rw [hf] at this; simp at this; exact ⟨f, rfl, this.1, this.2⟩
    obtain ⟨f0, e0, o0, t0⟩ := f0
    obtain ⟨f1, e1, o1, t1⟩ := f1
    have h0 := hfi 0 f0 e0
    have h1 := hfi 1 f1 e1
    rw [o0, t0, T.c1.2.2.2.2.2.1, List.getElem?_eq_getElem (by rw [hxl, ← Array.length_toList, hfl]; decide)] at h0
    rw [o1, t1, T.c1.2.1, List.getElem?_eq_getElem (by rw [hxl, ← Array.length_toList, hfl]; decide)] at h1
    obtain ⟨m, hm1, hm2, hm3⟩ := DataW.trod_int Bs.uint32.und h0
    obtain ⟨s, hs1, hs2⟩ := oct_open T Bs hB h1
    have hw := wf_u32 hm3
    refine ⟨_, (m.toNat, s), by rw [Nat.zero_add]; exact hcs, ⟨c1, ?_, hs1, by show m.toNat < _; omega⟩, ?_⟩
    ·have : c0 = .int .u32 m := by simpa using hm1
     rw [this, show ((m.toNat : Nat) : Int) = m by omega]
    ·rw [hx, hB.agg]
     have hx2 : xs.length = 2 := by rw [hxl, ← Array.length_toList, hfl]
     match xs, hx2 with
     | [x0, x1], _ =>
      simp only [List.map_cons, hB.acons]
      have hs2 : s.length + 1 ≤ B x1.1 := hs2
      show 1 + s.length ≤ _
      omega
  have hcs : ∀ {l : List (Nat × List UInt8)} {css : List (List Value)}, RelL (fun (y : Nat × List UInt8) cs => ∃ s, cs = [.int .u32 y.1, s] ∧ OctA w s y.2 ∧ y.1 < 4294967296) l css → UsA w l css.flatten ∧ ∀ y ∈ l, y.1 < 4294967296 := by
   intro l css hr
   induction hr with
   | nil => exact ⟨rfl, fun y hy => by cases hy⟩
   | cons h _ ih =>
    obtain ⟨s, rfl, h1, h2⟩ := h
    refine ⟨⟨s, _, rfl, h1, ih.1⟩, fun y hy => ?_⟩
    rcases List.mem_cons.1 hy with e | hy
    ·rw [e]; exact h2
    ·exact ih.2 y hy
  obtain ⟨k1, k2⟩ := hcs g2
  refine ⟨l, ?_, k2, by rw [hB.slice]; unfold szU; omega⟩
  by_cases h0 : len = 0
  ·exact .inl ⟨some a, cap, by rw [hc, h0], List.length_eq_zero_iff.1 (by omega)⟩
  ·obtain ⟨b, o, ha, hr⟩ := g4 (fun e => by rw [e] at hlen; simp at hlen; omega)
   have ha : a = ⟨b, o, none⟩ := by simpa [Addr.add] using ha
   exact .inr ⟨b, o, cap, css.flatten, by rw [hc, ha, g1, hlen], by omega, k1, hr⟩
theorem tree_open (T : TreeO P N) (Bs : Base P N) (hT : zgf P N N.zc N.zab N.zn N.zk) (hB : BulkF B BA) : ∀ (fuel : Nat) (cs : List Value) (x : DataW H × List MemPlace), DataW.trod enc P w 0 (fun _ => true) true fuel N.zc cs = some x → ∃ t, RepA w t cs ∧ wfT t ∧ szT t ≤ B x.1 := by
 intro fuel
 induction fuel using Nat.strongRecOn with
 | _ fuel ih =>
 intro cs x h
 obtain ⟨fs, hu, hfs⟩ := T.tree
 obtain ⟨xs, n', rfl, hx, hcl, hxl, hfi⟩ := DataW.trod_struct hu h
 rw [T.cTree] at hcl
 have hfl : fs.toList.length = 5 := by have := congrArg List.length hfs; simpa using this
 have hf : ∀ (k : Nat) (o : Nat) (t : TypeId), [(0, N.zav), (1, N.za), (2, N.zae), (3, N.zn), (4, N.zk)][k]? = some (o, t) → ∃ f, fs[k]? = some f ∧ f.offset = o ∧ f.type = t := by
  intro k o t hk
  have := congrArg (fun l => l[k]?) hfs
  simp only [List.getElem?_map, Array.getElem?_toList] at this
  rw [hk] at this
  cases hf : fs[k]? with
  | none => rw [hf] at this; simp at this
  | some f => rw [hf] at this; simp at this; exact ⟨f, rfl, this.1, this.2⟩
 have hx5 : xs.length = 5 := by rw [hxl, ← Array.length_toList, hfl]
 match cs, hcl, xs, hx5 with
 | [c0, c1, c2, c3, c4], _, [x0, x1, x2, x3, x4], _ =>
  obtain ⟨f0, e0, o0, t0⟩ := hf 0 _ _ rfl
  obtain ⟨f1, e1, o1, t1⟩ := hf 1 _ _ rfl
  obtain ⟨f2, e2, o2, t2⟩ := hf 2 _ _ rfl
  obtain ⟨f3, e3, o3, t3⟩ := hf 3 _ _ rfl
  obtain ⟨f4, e4, o4, t4⟩ := hf 4 _ _ rfl
  have h0 := hfi 0 f0 e0
  have h1 := hfi 1 f1 e1
  have h2 := hfi 2 f2 e2
  have h3 := hfi 3 f3 e3
  have h4 := hfi 4 f4 e4
  rw [o0, t0, T.c1.1] at h0
  rw [o1, t1, T.c1.2.1] at h1
  rw [o2, t2, T.c1.2.2.1] at h2
  rw [o3, t3, T.c1.2.2.2.1] at h3
  rw [o4, t4, T.c1.2.2.2.2.1] at h4
  have h0 : DataW.trod enc P w 0 (fun _ => true) true n' N.zav [c0] = some x0 := h0
  have h1 : DataW.trod enc P w 0 (fun _ => true) true n' N.za [c1] = some x1 := h1
  have h2 : DataW.trod enc P w 0 (fun _ => true) true n' N.zae [c2] = some x2 := h2
  have h3 : DataW.trod enc P w 0 (fun _ => true) true n' N.zn [c3] = some x3 := h3
  have h4 : DataW.trod enc P w 0 (fun _ => true) true n' N.zk [c4] = some x4 := h4
  obtain ⟨m, hm1, hm2, hm3⟩ := DataW.trod_int Bs.int64.und h0
  obtain ⟨s, hs1, hs2⟩ := oct_open T Bs hB h1
  obtain ⟨nl, hn1, hn2⟩ := DataW.trod_bool Bs.bool.und h2
  obtain ⟨u, hu1, hu2, hu3⟩ := tags_open T Bs hT hB h4
  have hc0 : c0 = .int .i64 m := by simpa using hm1
  have hc2 : c2 = .bool nl := by simpa using hn1
  have hb0 : 1 ≤ B x0.1 := by rw [hm2]; exact hB.lit _
  have trees : ∃ l, zfe w c3 l ∧ (∀ y ∈ l, wfT y) ∧ szTs l + 1 ≤ B x3.1 := by
   rcases DataW.trod_slice hT.lt.und h3 with ⟨hc, hx3⟩ | ⟨a, len, cap, elems, rest, n, hn', hc, hx3, hb, hl, hm, hlen, hel, hsp, _⟩
   ·injection hc with hc
    exact ⟨[], .inl ⟨none, 0, hc, rfl⟩, (fun y hy => by cases hy), by rw [hx3, hB.nil]; simp [szTs]⟩
   ·injection hc with hc
    rw [T.cTree] at hel
    obtain ⟨l, css, g1, g2, g3, g4⟩ := zml (a := a) (sz := 5) (by decide) (fun (y : Tr) cs => RepA w y cs ∧ wfT y) szT hB elems 0 fun i hi => by
     have h1 := hel i (by omega)
     rw [List.getElem?_eq_getElem hi, Option.bind_eq_some_iff] at h1
     obtain ⟨cs, hcs, hy⟩ := h1
     obtain ⟨y, y1, y2, y3⟩ := ih n (by omega) cs _ hy
     exact ⟨cs, y, by rw [Nat.zero_add]; exact hcs, ⟨y1, y2⟩, y3⟩
    have hcs : ∀ {l : List Tr} {css : List (List Value)}, RelL (fun (y : Tr) cs => RepA w y cs ∧ wfT y) l css → zjf w l css ∧ ∀ y ∈ l, wfT y := by
     intro l css hr
     induction hr with
     | nil => exact ⟨rfl, fun y hy => by cases hy⟩
     | cons h _ ih =>
      refine ⟨⟨_, _, rfl, h.1, ih.1⟩, fun y hy => ?_⟩
      rcases List.mem_cons.1 hy with e | hy
      ·rw [e]; exact h.2
      ·exact ih.2 y hy
    obtain ⟨k1, k2⟩ := hcs g2
    have hsum : ∀ l : List Tr, (l.map szT).sum = szTs l := by
     intro l
     induction l with
     | nil => rfl
     | cons y l ih => rw [List.map_cons, List.sum_cons, szTs, ih]
    rw [hsum] at g3
    refine ⟨l, ?_, k2, by rw [hx3, hB.slice]; omega⟩
    by_cases h0 : len = 0
    ·exact .inl ⟨some a, cap, by rw [hc, h0], List.length_eq_zero_iff.1 (by omega)⟩
    ·obtain ⟨b, o, ha, hr⟩ := g4 (fun e => by rw [e] at hlen; simp at hlen; omega)
     have ha : a = ⟨b, o, none⟩ := by simpa [Addr.add] using ha
     exact .inr ⟨b, o, cap, css, by rw [hc, ha, g1, hlen], by omega, k1, hr⟩
  obtain ⟨l, hl1, hl2, hl3⟩ := trees
  have hwfs : ∀ l : List Tr, (∀ y ∈ l, wfT y) → wfTs l := by
   intro l
   induction l with
   | nil => intro _; trivial
   | cons y l ih => intro h; exact ⟨h y (by simp), ih fun z hz => h z (List.mem_cons_of_mem _ hz)⟩
  refine ⟨.mk m s nl l u, ?_, ⟨wf_i64 hm3, hu2, hwfs l hl2⟩, ?_⟩
  ·rw [hc0, hc2]
   exact RepA.mk' (t := .mk m s nl l u) hs1 hl1 hu1
  ·rw [hx, hB.agg]
   simp only [List.map_cons, List.map_nil, hB.acons, hB.anil, szT]
   omega
end
end
inductive SC where
 | mk (parts : List (Nat × Int)) (sub : Option FuncId) (fs : List SC)
def zwl (parts : List (Nat × Int)) : List Int := parts.foldl (fun l p => l.set p.1 p.2) [0, 0, 0, 0, 0, 0, 0]
def mkF (l : List Int) (sub : List Fld) : Fld := .mk (l.getD 0 0) (l.getD 1 0) (l.getD 2 0) (l.getD 3 0) (l.getD 4 0) (l.getD 5 0) (l.getD 6 0) sub
mutual
def SC.fld : SC → Fld
 | .mk parts _ fs => mkF (zwl parts) (SC.flds fs)
def SC.flds : List SC → List Fld
 | [] => []
 | s :: l => s.fld :: SC.flds l
end
def SC.parts : SC → List (Nat × Int) | .mk p _ _ => p
def SC.fs : SC → List SC | .mk _ _ l => l
theorem SC.flds_len : ∀ l : List SC, (SC.flds l).length = l.length
 | [] => rfl
 | _ :: l => by simp [SC.flds, SC.flds_len l]
section
variable (N : Nums) (M : zcd)
def partO (p : Nat × Int) : Nat × Operand := (p.1, .const (.int .i64 p.2))
def zyb : List SC → Nat → List ROp
 | [], _ => []
 | .mk parts none _ :: l, k => ⟨some k, .build M.zf (parts.map partO).toArray, 0, none, []⟩ :: zyb l (k + 1)
 | .mk parts (some f) _ :: l, k => ⟨some k, .call ⟨.value (.func f), #[], #[]⟩, M.zac, none, []⟩ :: ⟨some (k + 1), .build M.zf (parts.map partO ++ [(7, T k)]).toArray, 0, none, []⟩ :: zyb l (k + 2)
def scSl : List SC → Nat → List Nat
 | [], _ => []
 | .mk _ none _ :: l, k => k :: scSl l (k + 1)
 | .mk _ (some _) _ :: l, k => (k + 1) :: scSl l (k + 2)
def znm : List SC → Nat → Nat
 | [], k => k
 | .mk _ none _ :: l, k => znm l (k + 1)
 | .mk _ (some _) _ :: l, k => znm l (k + 2)
def zut (l : List SC) (k : Nat) : ROp := ⟨some (znm l k), .buildSlice M.zac l.length ((scSl l k).zipIdx.map fun p => (p.2, T p.1)).toArray, 0, none, []⟩
def c_flds (l : List SC) : C := seqs [.ops [⟨some 100, .assign (.const (.slice none 0 0)), 0, none, []⟩], .ops (zyb M l 0 ++ [zut M l 0, ⟨some 100, .assign (T (znm l 0)), 0, none, []⟩]), .ret]
def c_msg (l : List SC) (fl : Int) : C := seqs [.ops [⟨some 100, .alloc M.zai, 0, none, []⟩],
 .ops (zyb M l 0 ++ [zut M l 0, ⟨some (znm l 0 + 1), .build M.zai #[(1, .const (.int .i64 fl)), (0, T (znm l 0))], 0, none, []⟩, ⟨none, .store M.zai (V 0) (T (znm l 0 + 1)), 0, none, []⟩]), .ret]
end
def SC.partsB (s : SC) : Bool := s.parts.all fun p => Nat.blt p.1 7
def scB (l : List SC) : Bool := l.all SC.partsB && Nat.blt (znm l 0) 90 && Nat.blt 0 l.length && Nat.blt l.length 1000
theorem zqu : ∀ (l : List SC) (k : Nat), k ≤ znm l k
 | [], k => Nat.le_refl _
 | .mk _ none _ :: l, k => Nat.le_trans (Nat.le_succ k) (zqu l (k + 1))
 | .mk _ (some _) _ :: l, k => Nat.le_trans (by omega) (zqu l (k + 2))
theorem zuu : ∀ (l : List SC) (k : Nat), (scSl l k).length = l.length
 | [], k => rfl
 | .mk _ none _ :: l, k => by simp [scSl, zuu l]
 | .mk _ (some _) _ :: l, k => by simp [scSl, zuu l]
def zjc (l : List Int) (v : Value) : List Value := l.map (fun n => Value.int .i64 n) ++ [v]
def zvd : Array (Nat × Nat) := [(0, 1), (1, 1), (2, 1), (3, 1), (4, 1), (5, 1), (6, 1), (7, 1)].toArray
theorem ztt : ∀ i, i < 8 → zvd[i]? = some (i, 1)
 | 0, _ => rfl | 1, _ => rfl | 2, _ => rfl | 3, _ => rfl | 4, _ => rfl | 5, _ => rfl | 6, _ => rfl | 7, _ => rfl
 | n + 8, h => by omega
theorem zvj (rest : List (Nat × Value)) : ∀ (parts : List (Nat × Int)) (l : List Int) (v : Value), l.length = 7 → (parts.all fun p => Nat.blt p.1 7) = true →
  Instr.fill (zvd[·]?) (zjc l v).toArray (parts.map (fun (p : Nat × Int) => (p.1, Value.int .i64 p.2)) ++ rest) = Instr.fill (zvd[·]?) (zjc (parts.foldl (fun l p => l.set p.1 p.2) l) v).toArray rest
 | [], l, v, _, _ => rfl
 | (i, n) :: parts, l, v, hl, h => by
  simp only [List.all_cons, Bool.and_eq_true] at h
  have hi : i < 7 := by simpa using h.1
  rw [List.map_cons, List.cons_append, Instr.fill, ztt i (by omega)]
  simp only
  have hc : (Value.int .i64 n).cells = #[.int .i64 n] := rfl
  rw [hc, if_neg (by simp [zjc, hl]; omega)]
  have e : (((#[Value.int .i64 n] : Array Value).zipIdx.foldl (fun cs x => cs.setIfInBounds (i + x.2) x.1) (zjc l v).toArray)) = (zjc (l.set i n) v).toArray := by
   have : (#[Value.int .i64 n] : Array Value).zipIdx = #[(Value.int .i64 n, 0)] := rfl
   rw [this]
   simp only [List.foldl_toArray', List.foldl_cons, List.foldl_nil, Nat.add_zero, zjc, List.setIfInBounds_toArray]
   congr 1
   rw [List.set_append_left _ _ (by simp [hl]; exact hi), List.map_set]
  rw [e, List.foldl_cons]
  exact zvj rest parts (l.set i n) v (by simp [hl]) h.2
theorem zqw : ∀ (parts : List (Nat × Int)) (l : List Int), (parts.foldl (fun l p => l.set p.1 p.2) l).length = l.length
 | [], l => rfl
 | p :: parts, l => by rw [List.foldl_cons, zqw]; simp
section
variable {P : Program} {N : Nums} {M : zcd}
theorem zua {w : World} {l : List Int} (hl : l.length = 7) {v : Value} {sub : List Fld} (h : zfs w v sub) : RepF w (mkF l sub) (zjc l v) := by
 match l, hl with
 | [a, b, c, d, e, f, g], _ => exact RepF.mk' (f := mkF [a, b, c, d, e, f, g] sub) h
theorem build_num (S : SpT P N M) {w : World} {parts : List (Nat × Int)} (h : (parts.all fun p => Nat.blt p.1 7) = true) :
  (Instr.build M.zf ((parts.map fun (p : Nat × Int) => (p.1, Value.int .i64 p.2)).toArray)).run P w = .ok (.agg (zjc (zwl parts) (.slice none 0 0)).toArray) w :=
 S.fld.run_build (by
  have := zvj [] parts [0, 0, 0, 0, 0, 0, 0] (.slice none 0 0) rfl h
  rw [List.append_nil] at this
  exact this)
theorem build_sub (S : SpT P N M) {w : World} {parts : List (Nat × Int)} (h : (parts.all fun p => Nat.blt p.1 7) = true) {v : Value} (hv : v.oneCell' = true) :
  (Instr.build M.zf ((parts.map (fun (p : Nat × Int) => (p.1, Value.int .i64 p.2)) ++ [(7, v)]).toArray)).run P w = .ok (.agg (zjc (zwl parts) v).toArray) w :=
 S.fld.run_build (by
  have := zvj [(7, v)] parts [0, 0, 0, 0, 0, 0, 0] (.slice none 0 0) rfl h
  refine this.trans ?_
  have hl := zqw parts [0, 0, 0, 0, 0, 0, 0]
  show Instr.fill (zvd[·]?) (zjc (zwl parts) (.slice none 0 0)).toArray [(7, v)] = _
  have hl : (zwl parts).length = 7 := hl
  rw [Instr.fill, ztt 7 (by decide)]
  simp only
  rw [zcs hv, if_neg (by simp [zjc, hl])]
  have e : (#[v] : Array Value).zipIdx = #[(v, 0)] := rfl
  rw [e]
  simp only [List.foldl_toArray', List.foldl_cons, List.foldl_nil, Nat.add_zero, zjc, List.setIfInBounds_toArray, Instr.fill]
  congr 2
  rw [List.set_append_right _ _ (by simp [hl])]
  simp [hl])
def MkOk (P : Program) (f : FuncId) (l : List Fld) : Prop := ∀ w, Call P f #[] w fun r w' => zfs w' r l ∧ Mod w w' zq
def scOk (P : Program) : List SC → Prop
 | [] => True
 | .mk parts none fs :: l => fs = [] ∧ scOk P l
 | .mk parts (some f) fs :: l => (MkOk P f (SC.flds fs) ∧ zdc P f) ∧ scOk P l
theorem step_callZ {f : FuncId} {d : Option Nat} {ty : TypeId} {af : List Nat} {ρ : Env} {w : World} {K : Env → World → Prop} (hf : zdc P f) : zbk P ⟨d, .call ⟨.value (.func f), #[], #[]⟩, ty, none, af⟩ ρ w K = Call P f #[] w fun v w' => K (put ρ d v) w' := zpj hf
theorem zon (S : SpT P N M) {K : Env → World → Prop} : ∀ (l : List SC) (k : Nat) (ρ : Env) (w w0 : World), (l.all SC.partsB) = true → scOk P l → Mod w0 w zq →
  (∀ (ρ' : Env) (w' : World) (css : List (List Value)), (∀ t, t < k ∨ 100 ≤ t → ρ' t = ρ t) → zga w' (SC.flds l) css → (∀ (j s : Nat), (scSl l k)[j]? = some s → ∃ c : List Value, css[j]? = some c ∧ ρ' s = .agg c.toArray) → Mod w0 w' zq → K ρ' w') → znm l k < 90 →
  runR P (zyb M l k) ρ w K
 | [], k, ρ, w, w0, _, _, m, hK, _ => hK ρ w [] (fun _ _ => rfl) rfl (fun j s h => by simp [scSl] at h) m
 | .mk parts none fs :: l, k, ρ, w, w0, hp, ⟨hfs, hok⟩, m, hK, he => by
  subst hfs
  simp only [List.all_cons, Bool.and_eq_true] at hp
  have he2 := zqu l (k + 1)
  rw [zyb, runR]
  have e1 : ((parts.map partO).toArray.map fun (p : Nat × Operand) => (p.1, ev ρ p.2)) = (parts.map fun (p : Nat × Int) => (p.1, Value.int .i64 p.2)).toArray := by
   simp [partO, Function.comp_def]
  rw [zeq, e1, build_num S (parts := parts) hp.1]
  simp only [stepV_ok]
  have hrep : ∀ w', RepF w' (SC.fld (.mk parts none [])) (zjc (zwl parts) (.slice none 0 0)) := fun w' => zua (zqw _ _) (.inl ⟨_, _, rfl, rfl⟩)
  refine zon S l (k + 1) _ w w0 hp.2 hok m (fun ρ' w' css h1 h2 h3 h4 => ?_) he
  refine hK ρ' w' (zjc (zwl parts) (.slice none 0 0) :: css) (fun t ht => ?_) ⟨_, _, rfl, hrep w', h2⟩ (fun j s hs => ?_) h4
  ·rw [h1 t (by omega), ziu]
   have : (t == k) = false := beq_eq_false_iff_ne.2 (by have : znm l (k + 1) < 90 := he; omega)
   rw [this]; rfl
  ·cases j with
   | zero =>
    simp [scSl] at hs
    subst hs
    exact ⟨_, rfl, by rw [h1 k (by omega), ziu]; simp [sel]⟩
   | succ j => exact h3 j s (by simpa [scSl] using hs)
 | .mk parts (some f) fs :: l, k, ρ, w, w0, hp, ⟨⟨hmk, hbody⟩, hok⟩, m, hK, he => by
  simp only [List.all_cons, Bool.and_eq_true] at hp
  have he2 := zqu l (k + 2)
  have he3 : znm l (k + 2) < 90 := he
  rw [zyb, runR, step_callZ hbody]
  refine (hmk w).mono ?_
  rintro r w1 ⟨hr, m1⟩
  rw [runR]
  have e1 : (((parts.map partO ++ [((7 : Nat), T k)]).toArray : Array (Nat × Operand)).map fun (p : Nat × Operand) => (p.1, ev (put ρ (some k) r) p.2)) = (parts.map (fun (p : Nat × Int) => (p.1, Value.int .i64 p.2)) ++ [(7, r)]).toArray := by
   simp [partO, Function.comp_def, ziu, sel]
  rw [zeq, e1, build_sub S (parts := parts) hp.1 hr.one]
  simp only [stepV_ok]
  have m01 := m.trans' m1
  refine zon S l (k + 2) _ w1 w1 hp.2 hok (.refl _ _) (fun ρ' w' css h1 h2 h3 h4 => ?_) he
  refine hK ρ' w' (zjc (zwl parts) r :: css) (fun t ht => ?_) ⟨_, _, rfl, zua (zqw _ _) (hr.stay h4), h2⟩ (fun j s hs => ?_) (m01.trans' h4)
  ·rw [h1 t (by omega), ziu, ziu]
   have : (t == k + 1) = false := beq_eq_false_iff_ne.2 (by omega)
   have h2 : (t == k) = false := beq_eq_false_iff_ne.2 (by omega)
   rw [this, h2]; rfl
  ·cases j with
   | zero =>
    simp [scSl] at hs
    subst hs
    exact ⟨_, rfl, by rw [h1 (k + 1) (by omega), ziu]; simp [sel]⟩
   | succ j => exact h3 j s (by simpa [scSl] using hs)
end
end Go.Kf
