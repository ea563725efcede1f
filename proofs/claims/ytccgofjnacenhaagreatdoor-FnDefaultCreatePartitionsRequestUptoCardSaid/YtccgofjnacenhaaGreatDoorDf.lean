/- A part of the calculus by which the claim's proof goes: over any program and any numbering of its functions; no condition beyond those that each theorem names. -/
import Derived.ChangeArms
import Derived.Test.YtccgofjnacenhaaGreatDoorDe
set_option linter.unusedSimpArgs false
set_option linter.unusedVariables false
namespace Go.Kf
open Go Go.RowKit
theorem zpd (flex : Bool) (v : Int) (f : Fld) (t : Tr) : ∀ (l : List Fld) (i : Nat), zct flex v (l ++ [f]) i t = zct flex v l i t ++ (if f.has v then zeo flex v f (atT t (i + l.length)) else [])
 | [], i => by simp [zct]
 | g :: l, i => by
  rw [List.cons_append, zct, zct, zpd flex v f t l (i + 1), List.append_assoc, List.length_cons, show i + 1 + l.length = i + (l.length + 1) by omega]
theorem zkv (flex : Bool) (v : Int) (t : Tr) {fs : List Fld} {j : Nat} (hj : j < fs.length) : zct flex v (fs.take (j + 1)) 0 t = zct flex v (fs.take j) 0 t ++ (if fs[j].has v then zeo flex v fs[j] (atT t j) else []) := by
 rw [← List.take_append_getElem hj, zpd]
 simp [Nat.min_eq_left (Nat.le_of_lt hj)]
theorem zku (flex : Bool) (v : Int) (t : Tr) (fs : List Fld) : ∀ (n j : Nat), j + n = fs.length → (zct flex v (fs.take j) 0 t).length ≤ (zct flex v fs 0 t).length
 | 0, j, h => by rw [List.take_of_length_le (by omega)]; exact Nat.le_refl _
 | n + 1, j, h => by
  have h1 := zku flex v t fs n (j + 1) (by omega)
  rw [zkv flex v t (show j < fs.length by omega), List.length_append] at h1
  omega
def OkF (P : Program) (M : zcl) (flex : Bool) (v : Int) (f : Fld) : Prop := f.tag < 0 ∧ f.kind ≠ 10 ∧ (f.kind = 11 → f.of = 10 → ztd P M flex v f.sub)
section
variable {P : Program} {N : Nums} {M : zcl}
structure PSt (w1 : World) (σ : Env) (w : World) (fv : Value) (v : Int) (flex : Bool) (b n j : Nat) (acc : List UInt8) : Prop where
 h0 : σ 0 = fv
 h1 : σ 1 = .int .i64 v
 h2 : σ 2 = .bool flex
 h4 : σ 4 = .pointer (some ⟨b, 0, none⟩)
 h6 : OwnB w w1.heap.size (σ 6) acc
 h7 : σ 7 = .slice none 0 0
 h8 : σ 8 = .int .i64 0
 h9 : σ 9 = fv
 h10 : σ 10 = .int .i64 n
 h11 : σ 11 = .int .i64 j
 le : j ≤ n
 mod : Mod w1 w zp
theorem PSt.upd {w1 w : World} {σ : Env} {fv : Value} {v : Int} {flex : Bool} {b n j : Nat} {acc : List UInt8} (h : PSt w1 σ w fv v flex b n j acc) {i : Nat} (hi : 12 ≤ i) (x : Value) : PSt w1 (upd σ i x) w fv v flex b n j acc := by
 obtain ⟨h0, h1, h2, h4, h6, h7, h8, h9, h10, h11, le, mod⟩ := h
 refine ⟨?_, ?_, ?_, ?_, ?_, ?_, ?_, ?_, ?_, ?_, le, mod⟩ <;> (rw [zg (by omega)]; assumption)
theorem PSt.next {w1 w : World} {σ : Env} {fv : Value} {v : Int} {flex : Bool} {b n j : Nat} {acc : List UInt8} (h : PSt w1 σ w fv v flex b n j acc) (hj : j < n) : PSt w1 (Go.Kf.upd σ 11 (.int .i64 ((j + 1 : Nat) : Int))) w fv v flex b n (j + 1) acc := by
 obtain ⟨h0, h1, h2, h4, h6, h7, h8, h9, h10, h11, le, mod⟩ := h
 refine ⟨?_, ?_, ?_, ?_, ?_, ?_, ?_, ?_, ?_, upd_same _ _ _, hj, mod⟩ <;> (rw [zg (by omega)]; assumption)
def dPart (N : Nums) (M : zcl) : C := .draw [
 ⟨some 0, .move (V 6), 0, none, []⟩,
 ⟨some 1, .load M.zh (V 13), 0, none, []⟩,
 ⟨some 2, .move (V 1), 0, none, []⟩,
 ⟨some 3, .move (V 2), 0, none, []⟩,
 ⟨some 4, .load N.ze (V 4), 0, none, []⟩,
 ⟨some 5, .move (V 14), 0, none, []⟩,
 ⟨some 6, .call ⟨.value (.func M.zgd), #[T 4, T 5], #[N.ze, N.zf]⟩, N.ze, none, [4, 5]⟩,
 ⟨some 7, .call ⟨.value (.func M.zhf), #[T 1, T 2, T 3, T 6], #[M.zh, N.zf, N.zar, N.ze]⟩, N.za, none, [1, 2, 3, 6, 6]⟩,
 ⟨some 8, .call ⟨.builtin .append, #[T 0, T 7], #[N.za, N.za]⟩, N.za, none, [0, 7, 7]⟩,
 ⟨some 106, .assign (T 8), 0, none, [8, 8, 0, 1, 2, 3, 4, 5, 6, 7, 8]⟩]
theorem W_dPart (B : Base P N) (S : SpT P N M) (hW : SW P N M) {loc : List Nat} {N' : Nat} {σ : Env} {w1 w : World} {fv : Value} {v : Int} {flex : Bool} {b b13 n j : Nat} {acc : List UInt8} {f : Fld} {t : Tr} {ct cf : List Value}
  (h : PSt w1 σ w fv v flex b n j acc) (hb : w1.rangeAt b 0 ct) (ht : RepA w1 t ct) (hwt : wfT t) (h13 : σ 13 = .pointer (some ⟨b13, 0, none⟩)) (h14 : σ 14 = .int .i64 j) (hb13 : w.rangeAt b13 0 cf) (hbl : b13 < w.heap.size) (hn13 : zan (σ 6) b13) (hf : RepF w f cf) (ok : OkF P M flex v f) (hbig : acc.length + (zeo flex v f (atT t j)).length < 549755813888) {Q : Exit → Env → World → Prop}
  (hQ : ∀ (σ' : Env) (w' : World), PSt w1 σ' w' fv v flex b n j (acc ++ zeo flex v f (atT t j)) → Q .normal σ' w') :
  W P loc N' (dPart N M) Q σ w := by
 obtain ⟨h0, h1, h2, h4, h6, h7, h8, h9, h10, h11, hle, m1w⟩ := h
 unfold dPart
 have cw : ∀ {w' : World}, Mod w w' (fun i _ => ¬ zan (σ 6) i) → Mod w1 w' zp := fun h => Mod.ofOwn h6 m1w h
 refine zxo B.mixed [true, true, true, true, true, true, false, false, false, false] (by kernel_rfl) (fun w' => Mod w w' (fun i _ => ¬ zan (σ 6) i)) (Mod.drew _ _) fun τ => ?_
 refine zb (σ 6) (fun w' _ => by
  rw [zaz, ev_tmp]
  simp +decide only [bE, Nat.reduceAdd]) rfl ?_
 refine zb (.agg cf.toArray) (fun w' hw => zn (by
  simp +decide only [bE, Nat.reduceBeqDiff, Nat.reduceAdd, ev_tmp, h13]
  exact fld_load S (hw.rangeAt hbl (fun _ _ _ h => h hn13) hb13) hf.len)) rfl ?_
 refine zb (.int .i64 v) (fun w' _ => by
  rw [zaz, ev_tmp]
  simp +decide only [bE, Nat.reduceBeqDiff, Nat.reduceAdd, h1]) rfl ?_
 refine zb (.bool flex) (fun w' _ => by
  rw [zaz, ev_tmp]
  simp +decide only [bE, Nat.reduceBeqDiff, Nat.reduceAdd, h2]) rfl ?_
 refine zb (.agg ct.toArray) (fun w' hw => zn (by
  simp +decide only [bE, Nat.reduceBeqDiff, Nat.reduceAdd, ev_tmp, h4]
  exact zes S.tr (zv (cw hw) hb) ht.len)) rfl ?_
 refine zb (.int .i64 j) (fun w' _ => by
  rw [zaz, ev_tmp]
  simp +decide only [bE, Nat.reduceBeqDiff, Nat.reduceAdd, h14]) rfl ?_
 simp only [zdi, zdc, List.zip_cons_cons, List.zip_nil_right, List.zipWith_cons_cons, List.zipWith_nil_right, List.filter, Bool.not_true, Bool.not_false, List.map, zdr]
 have md : Mod w w.drew zp := Mod.drew _ _
 have m1d := m1w.trans' md
 rw [zce hW.at_.has]
 simp +decide only [bK, bE, Nat.reduceBeqDiff, BEq.rfl]
 refine (call_at B S hW.at_ (RepA.stay m1d _ ht) j).mono ?_
 rintro _ w2 ⟨ct', rfl, ht', m2⟩
 have mw2 : Mod w w2 zp := md.trans' m2
 refine ⟨mw2.mono fun _ _ _ h => h.elim, ?_⟩
 rw [zhr hW.field.has]
 simp +decide only [bK, bE, Nat.reduceBeqDiff, BEq.rfl]
 refine (sp_field B S hW ok.2.2 ok.2.1 (RepF.stay mw2 _ hf) ht' (hwt.at j) (by omega)).mono ?_
 rintro r w3 ⟨ho3, m3⟩
 have mw3 : Mod w w3 zp := mw2.trans' m3
 refine ⟨mw3.mono fun _ _ _ h => h.elim, ?_⟩
 obtain ⟨v4, w4, hap, ho4, m4, _⟩ := zfz (ty := N.za) B (h6.stay mw3 fun _ _ _ h => h) (ho3.octA) (Nat.le_trans m1w.size mw3.size) (by omega)
 have m04 : Mod w1 w4 zp := Mod.ofOwn (h6.stay mw3 fun _ _ _ h => h) (m1w.trans' mw3) m4
 simp +decide only [bK, hap]
 refine ⟨(mw3.mono fun _ _ _ h => h.elim).trans m4 fun k o hk h => h.elim id id, ?_⟩
 refine zd fun σ2 hσ => hQ σ2 w4 ?_
 have b0 := hσ 0
 have b1 := hσ 1
 have b2 := hσ 2
 have b4 := hσ 4
 have b6 := hσ 6
 have b7 := hσ 7
 have b8 := hσ 8
 have b9 := hσ 9
 have b10 := hσ 10
 have b11 := hσ 11
 simp +decide only [bE, Nat.reduceBeqDiff, BEq.rfl, Nat.reduceAdd, Nat.zero_add, h0, h1, h2, h4, h7, h8, h9, h10, h11] at b0 b1 b2 b4 b6 b7 b8 b9 b10 b11
 exact ⟨b0, b1, b2, b4, by rw [b6]; exact ho4, b7, b8, b9, b10, b11, hle, m04⟩
end
section
variable {P : Program} {N : Nums} {M : zcl}
def bPart (N : Nums) (M : zcl) : C :=
 .seq (.ops [
  ⟨some 0, .move (V 11), 0, none, []⟩,
  ⟨some 1, .indexAddr M.zah (V 9) (V 11), 0, none, []⟩,
  ⟨some 2, .load M.zh (T 1), 0, none, []⟩,
  ⟨some 113, .alloc M.zh, 0, none, []⟩,
  ⟨some 114, .assign (T 0), 0, none, []⟩,
  ⟨none, .store M.zh (V 13) (T 2), 0, none, []⟩])
 (.seq (.ops [
  ⟨some 0, .fieldAddr M.zh (V 13) 4, 0, none, []⟩,
  ⟨some 1, .load N.zf (T 0), 0, none, []⟩,
  ⟨some 2, .binOp .lss N.zf (T 1) (.const (.int .i64 0)) N.zf, 0, none, []⟩,
  ⟨some 3, .move (T 2), 0, none, []⟩,
  ⟨some 4, .load M.zh (V 13), 0, some (some 3, true), []⟩,
  ⟨some 5, .move (V 1), 0, some (some 3, true), []⟩,
  ⟨some 6, .call ⟨.value (.func M.zep), #[T 4, T 5], #[M.zh, N.zf]⟩, N.zar, some (some 3, true), []⟩,
  ⟨some 115, .pick (T 3) (T 6) (.const (.bool false)), 0, none, []⟩])
 (.cond 15 (dPart N M) .skip))
theorem W_fields (B : Base P N) (S : SpT P N M) (hW : SW P N M) {loc : List Nat} {N' : Nat} (hlo : zfk loc N') {σ : Env} {w1 w : World} {fv : Value} {v : Int} {flex : Bool} {b : Nat} {fs : List Fld} {t : Tr} {ct : List Value}
  (h : PSt w1 σ w fv v flex b fs.length 0 []) (hb : w1.rangeAt b 0 ct) (ht : RepA w1 t ct) (hwt : wfT t) (hf : zfw w1 fv fs) (hl : fs.length < 4611686018427387904) (ok : ∀ f ∈ fs, OkF P M flex v f) (hbig : (zct flex v fs 0 t).length < 549755813888) {Q : Exit → Env → World → Prop}
  (hQ : ∀ (σ' : Env) (w' : World), PSt w1 σ' w' fv v flex b fs.length fs.length (zct flex v fs 0 t) → Q .normal σ' w') :
  W P loc N' (zpm N 11 10 12 0 (bPart N M)) Q σ w := by
 refine zhg (i := 11) (l := 10) (c := 12) (k := 0) hlo (L := fs.length) hl (fun j σ w' => PSt w1 σ w' fv v flex b fs.length j (zct flex v (fs.take j) 0 t)) (fun j σ w h => ⟨h.h11, h.h10, h.le⟩) (fun j σ w b h => h.upd (by decide) _) (by simpa [zct] using h) (fun σ' w' h => hQ σ' w' (by simpa using h)) (fun j σ' w' hj h => ?_)
 obtain ⟨bb, oo, cc, cs, w2, w3, hv, hr, hix, hld, hal, hst, m03, s3, r3⟩ := zxf S (hf.stay h.mod) hj
 have okj := ok _ (List.getElem_mem hj)
 have hbj : (zct flex v (fs.take (j + 1)) 0 t).length < 549755813888 := Nat.lt_of_le_of_lt (zku flex v t fs (fs.length - (j + 1)) (j + 1) (by omega)) hbig
 rw [zkv flex v t hj] at hbj
 have n13 : zan (σ' 6) w'.heap.size := Classical.byContradiction fun hh => by have := (h.h6.blk hh).2; omega
 unfold bPart
 refine zc fun K hK => zw fun τ => ?_
 simp +decide only [bK, bE, Nat.reduceBeqDiff, BEq.rfl, Nat.reduceAdd, Nat.zero_add, h.h9, h.h11, hix, hld, hal, hst]
 refine hK _ _ (zd fun σ3 hσ => ?_)
 have p0 := hσ 0
 have p1 := hσ 1
 have p2 := hσ 2
 have p4 := hσ 4
 have p6 := hσ 6
 have p7 := hσ 7
 have p8 := hσ 8
 have p9 := hσ 9
 have p10 := hσ 10
 have p11 := hσ 11
 have p13 := hσ 13
 have p14 := hσ 14
 simp +decide only [bE, Nat.reduceBeqDiff, BEq.rfl, Nat.reduceAdd, Nat.zero_add, h.h0, h.h1, h.h2, h.h4, h.h7, h.h8, h.h9, h.h10, h.h11] at p0 p1 p2 p4 p6 p7 p8 p9 p10 p11 p13 p14
 have q : PSt w1 σ3 w3 fv v flex b fs.length j (zct flex v (fs.take j) 0 t) := ⟨p0, p1, p2, p4, by rw [p6]; exact h.h6.stay m03 fun _ _ _ h => h, p7, p8, p9, p10, p11, h.le, h.mod.trans' m03⟩
 have n13' : zan (σ3 6) w'.heap.size := by rw [p6]; exact n13
 clear hσ hK K n13
 have hr3 := RepF.stay m03 _ hr
 obtain ⟨gv, hcs, hgv⟩ := hr3.out
 have h4c : w3.cell? ⟨w'.heap.size, 4, none⟩ = some (.int .i64 (fs[j]).tag) := r3 4 _ (by rw [hcs]; rfl)
 have hneg : (fs[j]).tag < 0 := okj.1
 refine zc fun K hK => zw fun τ => ?_
 simp +decide only [bK, bE, Nat.reduceBeqDiff, decide_true, BEq.rfl, Nat.reduceAdd, Nat.zero_add, p13, p1, S.f4.run, B.int.run_load1 rfl, h4c, hneg, zap, fld_load S r3 hr.len]
 rw [zce hW.Field_has.has]
 simp +decide only [bK, bE, Nat.reduceBeqDiff, BEq.rfl]
 refine (call_has B S hW.Field_has hr3 v).mono ?_
 rintro _ w4 ⟨rfl, m4⟩
 refine hK _ _ (zd fun σ4 hσ => ?_)
 have k0 := hσ 0
 have k1 := hσ 1
 have k2 := hσ 2
 have k4 := hσ 4
 have k6 := hσ 6
 have k7 := hσ 7
 have k8 := hσ 8
 have k9 := hσ 9
 have k10 := hσ 10
 have k11 := hσ 11
 have k13 := hσ 13
 have k14 := hσ 14
 have k15 := hσ 15
 simp +decide only [bE, Nat.reduceBeqDiff, BEq.rfl, Nat.reduceAdd, Nat.zero_add, p0, p1, p2, p4, p7, p8, p9, p10, p11, p13, p14] at k0 k1 k2 k4 k6 k7 k8 k9 k10 k11 k13 k14 k15
 have q4 : PSt w1 σ4 w4 fv v flex b fs.length j (zct flex v (fs.take j) 0 t) := ⟨k0, k1, k2, k4, by rw [k6]; exact q.h6.stay m4 fun _ _ _ h => h, k7, k8, k9, k10, k11, h.le, q.mod.trans' m4⟩
 have n13 : zan (σ4 6) w'.heap.size := by rw [k6]; exact n13'
 have hb13 : w4.rangeAt w'.heap.size 0 cs := zv m4 r3
 have hlt : w'.heap.size < w4.heap.size := by have := m4.size; omega
 clear hσ hK K
 refine W_if hlo k15 ?_
 have hnext : ∀ {σ5 : Env} {w5 : World}, PSt w1 σ5 w5 fv v flex b fs.length j (zct flex v (fs.take j) 0 t ++ (if fs[j].has v then zeo flex v fs[j] (atT t j) else [])) → σ5 11 = .int .i64 j ∧ PSt w1 (upd σ5 11 (.int .i64 ((j + 1 : Nat) : Int))) w5 fv v flex b fs.length (j + 1) (zct flex v (fs.take (j + 1)) 0 t) := fun h5 => ⟨h5.h11, by rw [zkv flex v t hj]; exact h5.next hj⟩
 cases hh : fs[j].has v with
 | false =>
  simp only [Bool.false_eq_true, if_false]
  refine zbn (hnext ?_)
  rw [hh]; simpa using q4
 | true =>
  rw [hh] at hbj
  simp only [if_true] at hbj ⊢
  rw [List.length_append] at hbj
  refine W_dPart B S hW q4 hb ht hwt k13 k14 hb13 hlt n13 (RepF.stay m4 _ hr3) okj hbj fun σ5 w5 h5 => hnext ?_
  rw [hh]; simpa using h5
end
theorem ztz {k : Nat} {x : List UInt8} : ∀ {a : List (Nat × List UInt8)} {y : Nat × List UInt8}, y ∈ insT k x a → y = (k, x) ∨ y ∈ a
 | [], y, h => by simp [insT] at h; exact .inl h
 | (k', l) :: a, y, h => by
  rw [insT] at h
  split at h
  ·rcases List.mem_cons.1 h with rfl | h
   ·exact .inr (by simp)
   ·exact (ztz h).imp id fun h => List.mem_cons_of_mem _ h
  ·split at h
   ·exact .inr h
   ·rcases List.mem_cons.1 h with rfl | h
    ·exact .inl rfl
    ·exact .inr h
theorem fold_mem : ∀ (u a : List (Nat × List UInt8)) (y : Nat × List UInt8), y ∈ u.foldl (fun a x => insT x.1 x.2 a) a → y ∈ u ∨ y ∈ a
 | [], a, y, h => .inr h
 | x :: u, a, y, h => by
  rcases fold_mem u _ y h with h | h
  ·exact .inl (List.mem_cons_of_mem _ h)
  ·rcases ztz h with rfl | h
   ·exact .inl (by simp)
   ·exact .inr h
theorem ztg {u : List (Nat × List UInt8)} {y : Nat × List UInt8} (h : y ∈ unkT u) : y ∈ u := by
 rcases fold_mem _ _ _ h with h | h
 ·exact List.mem_of_mem_take h
 ·cases h
theorem zth (u : List (Nat × List UInt8)) : (unkT u).length ≤ 32767 := by
 have := zua (u.take most) []
 simp only [List.length_nil, List.length_take] at this
 unfold unkT
 have : most = 32767 := rfl
 omega
theorem OwnT.tagsA {w : World} {lo : Nat} {v : Value} {a : List (Nat × List UInt8)} (h : OwnT w lo v a) : zim w v a := by
 obtain ⟨cs, ho, hu⟩ := h
 rcases ho with ⟨rfl, e, _⟩ | ⟨b, c, e, _, _, h1, _, hr, _⟩
 ·exact .inl ⟨_, _, rfl, List.length_eq_zero_iff.1 e⟩
 ·exact .inr ⟨b, 0, c, cs, e, h1, hu, hr⟩
section
variable {P : Program} {N : Nums} {M : zcl}
structure TSt (w2 : World) (v6 : Value) (vu : Value) (σ : Env) (w : World) (n j : Nat) (acc : List UInt8) : Prop where
 h6 : σ 6 = v6
 h7 : OwnB w w2.heap.size (σ 7) acc
 h8 : σ 8 = .int .i64 j
 h29 : σ 29 = vu
 h30 : σ 30 = .int .i64 n
 h31 : σ 31 = .int .i64 j
 le : j ≤ n
 mod : Mod w2 w zp
theorem TSt.upd {w2 w : World} {v6 vu : Value} {σ : Env} {n j : Nat} {acc : List UInt8} (h : TSt w2 v6 vu σ w n j acc) {i : Nat} (hi : 32 ≤ i) (x : Value) : TSt w2 v6 vu (upd σ i x) w n j acc := by
 obtain ⟨h6, h7, h8, h29, h30, h31, le, mod⟩ := h
 refine ⟨?_, ?_, ?_, ?_, ?_, ?_, le, mod⟩ <;> (rw [zg (by omega)]; assumption)
def bTags (N : Nums) (M : zcl) : C :=
 .seq (.ops [
  ⟨some 0, .indexAddr N.zj (V 29) (V 31), 0, none, []⟩,
  ⟨some 1, .load N.zaa (T 0), 0, none, []⟩,
  ⟨some 133, .alloc N.zaa, 0, none, []⟩,
  ⟨none, .store N.zaa (V 33) (T 1), 0, none, []⟩])
 (.seq (.ops [
  ⟨some 0, .fieldAddr N.zaa (V 33) 1, 0, none, []⟩,
  ⟨some 1, .load N.za (T 0), 0, none, []⟩,
  ⟨some 2, .call ⟨.value (.func M.zej), #[T 1], #[N.za]⟩, N.za, none, []⟩,
  ⟨some 134, .assign (T 2), 0, none, []⟩])
 (.seq (.ops [
  ⟨some 0, .move (V 7), 0, none, []⟩,
  ⟨some 1, .fieldAddr N.zaa (V 33) 0, 0, none, []⟩,
  ⟨some 2, .load N.zi (T 1), 0, none, []⟩,
  ⟨some 3, .convert N.zi N.zam (T 2), 0, none, []⟩,
  ⟨some 4, .call ⟨.value (.func M.zco), #[T 3], #[N.zam]⟩, N.za, none, []⟩,
  ⟨some 5, .call ⟨.builtin .append, #[T 0, T 4], #[N.za, N.za]⟩, N.za, none, []⟩,
  ⟨some 6, .move (V 34), 0, none, []⟩,
  ⟨some 7, .call ⟨.builtin .len, #[T 6], #[N.za]⟩, N.zf, none, []⟩,
  ⟨some 8, .convert N.zf N.zam (T 7), 0, none, []⟩,
  ⟨some 9, .call ⟨.value (.func M.zco), #[T 8], #[N.zam]⟩, N.za, none, []⟩,
  ⟨some 10, .call ⟨.builtin .append, #[T 5, T 9], #[N.za, N.za]⟩, N.za, none, []⟩,
  ⟨some 11, .move (V 34), 0, none, []⟩,
  ⟨some 12, .call ⟨.builtin .append, #[T 10, T 11], #[N.za, N.za]⟩, N.za, none, []⟩,
  ⟨some 107, .assign (T 12), 0, none, []⟩])
 (.ops [
  ⟨some 0, .move (V 8), 0, none, []⟩,
  ⟨some 1, .binOp .add N.zf (T 0) (.const (.int .i64 1)) N.zf, 0, none, []⟩,
  ⟨some 108, .assign (T 1), 0, none, []⟩])))
theorem W_tag (B : Base P N) (S : SpT P N M) (hW : SW P N M) {loc : List Nat} {N' : Nat} {σ : Env} {w2 w : World} {v6 vu : Value} {u : List (Nat × List UInt8)} {j : Nat} {acc : List UInt8} (hU : zim w2 vu u) (hj : j < u.length) (hk : (u[j]).1 < 4294967296) (hul : u.length < 4611686018427387904)
  (h : TSt w2 v6 vu σ w u.length j acc) (hbig : acc.length < 549755813888) {Q : Exit → Env → World → Prop}
  (hQ : ∀ (σ' : Env) (w' : World), σ' 31 = .int .i64 j → TSt w2 v6 vu (Go.Kf.upd σ' 31 (.int .i64 ((j + 1 : Nat) : Int))) w' u.length (j + 1) (acc ++ tagB u[j]) → Q .normal σ' w') :
  W P loc N' (bTags N M) Q σ w := by
 obtain ⟨fsT, hT⟩ := S.tr.tu
 obtain ⟨bb, oo, cc, s, hvb, hs, hr⟩ := hU.get (List.getElem?_eq_getElem hj)
 obtain ⟨key, hkey⟩ : ∃ key, key = (u[j]).1 := ⟨_, rfl⟩
 rw [← hkey] at hr hk
 have hr' := zv h.mod hr
 have hix := fun {w : World} => zac (P := P) (w := w) S.tr.lg hT (bl := bb) (o := oo) (n := u.length) (c := cc) (i := j) (k := .i64) hj
 have hld := hT.run_load (w := w) (b := bb) (o := oo + j * 2) hr' rfl (fun h => by cases h)
 have hlv : ldv (.struct fsT) [.int .u32 key, s] = .agg [.int .u32 key, s].toArray := rfl
 rw [hlv] at hld
 obtain ⟨wa, wb, hal, hst, _, mb, sb, rb, _⟩ := zrl (cs := [.int .u32 key, s]) hT (by decide) rfl rfl (by
  intro c hc; simp at hc; rcases hc with rfl | rfl
  ·rfl
  ·exact hs.one) w
 unfold bTags
 refine zc fun K hK => zw fun τ => ?_
 simp +decide only [bK, bE, Nat.reduceBeqDiff, BEq.rfl, Nat.reduceAdd, h.h29, h.h31]
 rw [hvb]
 simp +decide only [bK, hix, hld, hal, hst]
 refine hK _ _ (zd fun σ1 hσ => ?_)
 have a6 := hσ 6
 have a7 := hσ 7
 have a8 := hσ 8
 have a29 := hσ 29
 have a30 := hσ 30
 have a31 := hσ 31
 have a33 := hσ 33
 simp +decide only [bE, Nat.reduceBeqDiff, BEq.rfl, Nat.reduceAdd, h.h6, h.h8, h.h29, h.h30, h.h31] at a6 a7 a8 a29 a30 a31 a33
 clear hσ hK K
 have o7 : OwnB wb w2.heap.size (σ1 7) acc := by rw [a7]; exact h.h7.stay mb fun _ _ _ h => h
 have m2b := h.mod.trans' mb
 have c0 : wb.cell? ⟨w.heap.size, 0, none⟩ = some (.int .u32 key) := rb 0 _ rfl
 have c1 : wb.cell? ⟨w.heap.size, 1, none⟩ = some s := rb 1 _ rfl
 have n33 : zan (σ1 7) w.heap.size := by rw [a7]; exact Classical.byContradiction fun hh => by have := (h.h7.blk hh).2; omega
 have hlt33 : w.heap.size < wb.heap.size := by omega
 obtain ⟨b33, hb33⟩ : ∃ b, b = w.heap.size := ⟨_, rfl⟩
 rw [← hb33] at a33 c0 c1 n33 hlt33
 clear h hix hld hlv hal hst
 refine zc fun K hK => zw fun τ => ?_
 simp +decide only [bK, bE, BEq.rfl, Nat.reduceAdd, Nat.zero_add, a33, S.tr.g1.run, B.Lu8.run_load1 rfl, c1]
 rw [zai hW.whole.has]
 simp +decide only [bK, bE, BEq.rfl]
 refine (zsw B hW.whole hs).mono ?_
 rintro x _ ⟨rfl, hx⟩
 refine hK _ _ (zd fun σ2 hσ => ?_)
 have b6 := hσ 6
 have b7 := hσ 7
 have b8 := hσ 8
 have b29 := hσ 29
 have b30 := hσ 30
 have b31 := hσ 31
 have b33' := hσ 33
 have b34 := hσ 34
 simp +decide only [bE, Nat.reduceBeqDiff, BEq.rfl, Nat.reduceAdd, a6, a8, a29, a30, a31, a33] at b6 b7 b8 b29 b30 b31 b33' b34
 clear hσ hK K
 rw [← b7] at o7 n33
 have hwl : (zbx (u[j]).2).length ≤ 32767 := by simp [zbx, most]; omega
 refine zc fun K hK => zw fun τ => ?_
 have hc1 := fun {w : World} => zbj (P := P) (w := w) (k' := .u32) B.uint32 B.uint64 (n := key) ⟨_, rfl⟩
 have hc2 := fun {w : World} => zbj (P := P) (w := w) (k' := .i64) B.int B.uint64 (n := (zbx (u[j]).2).length) ⟨_, rfl⟩
 simp +decide only [bK, bE, Nat.reduceBeqDiff, BEq.rfl, Nat.reduceAdd, Nat.add_zero, b33', S.tr.g0.run, B.uint32.run_load1 rfl, c0, hc1]
 rw [zeg key (by omega), zai hW.Uvarint.has]
 simp +decide only [bK, bE, Nat.reduceBeqDiff, BEq.rfl]
 refine (zln B hW.Uvarint wb key (by omega)).mono ?_
 rintro r3 w3 ⟨ho3, m3⟩
 have hs3 : w2.heap.size ≤ w3.heap.size := Nat.le_trans m2b.size m3.size
 have hu3 : (uvB key).length ≤ 10 := zhv (by omega)
 have o73 := o7.stay m3 fun _ _ _ h => h
 obtain ⟨v4, w4, hap4, ho4, m4, _⟩ := zfz (ty := N.za) B o73 ho3.octA hs3 (by omega)
 have m24 : Mod w2 w4 zp := Mod.ofOwn o73 (m2b.trans' m3) m4
 simp +decide only [bK, hap4, b34, hx.run_len B, hc2]
 rw [zeg _ (by omega), zai hW.Uvarint.has]
 simp +decide only [bK, bE, Nat.reduceBeqDiff, BEq.rfl]
 refine (zln B hW.Uvarint w4 _ (by omega)).mono ?_
 rintro r5 w5 ⟨ho5, m5⟩
 have hs5 : w2.heap.size ≤ w5.heap.size := Nat.le_trans m24.size m5.size
 have hu5 : (uvB (zbx (u[j]).2).length).length ≤ 10 := zhv (by omega)
 have o75 := ho4.stay m5 fun _ _ _ h => h
 obtain ⟨v6', w6, hap6, ho6, m6, _⟩ := zfz (ty := N.za) B o75 ho5.octA hs5 (by simp only [List.length_append]; omega)
 have m26 : Mod w2 w6 zp := Mod.ofOwn o75 (m24.trans' m5) m6
 simp +decide only [bK, hap6, b34]
 have hs6 : w2.heap.size ≤ w6.heap.size := m26.size
 have hx6 : OctA w6 x (zbx (u[j]).2) := hx.stay m26
 obtain ⟨v7, w7, hap7, ho7, m7, _⟩ := zfz (ty := N.za) B ho6 hx6 hs6 (by simp only [List.length_append]; omega)
 have m27 : Mod w2 w7 zp := Mod.ofOwn ho6 m26 m7
 simp +decide only [bK, hap7]
 refine hK _ _ (zd fun σ3 hσ => ?_)
 have d6 := hσ 6
 have d7 := hσ 7
 have d8 := hσ 8
 have d29 := hσ 29
 have d30 := hσ 30
 have d31 := hσ 31
 simp +decide only [bE, Nat.reduceBeqDiff, BEq.rfl, Nat.reduceAdd, b6, b8, b29, b30, b31] at d6 d7 d8 d29 d30 d31
 clear hσ hK K
 have hadd : IntKind.i64.wrap ((j : Int) + 1) = ((j + 1 : Nat) : Int) := by
  rw [show ((j : Int) + 1) = ((j + 1 : Nat) : Int) by omega]
  exact wrap_i64 (by omega) (by omega)
 refine zw fun τ => ?_
 simp +decide only [bK, bE, BEq.rfl, Nat.reduceAdd, d8, hadd]
 refine zd fun σ4 hσ => hQ σ4 w7 ?_ ?_
 ·have := hσ 31; simp +decide only [bE, Nat.reduceBeqDiff, Nat.reduceAdd, d31] at this; exact this
 ·have e6 := hσ 6
  have e7 := hσ 7
  have e8 := hσ 8
  have e29 := hσ 29
  have e30 := hσ 30
  simp +decide only [bE, Nat.reduceBeqDiff, BEq.rfl, Nat.reduceAdd, d6, d7, d29, d30] at e6 e7 e8 e29 e30
  refine ⟨?_, ?_, ?_, ?_, ?_, upd_same _ _ _, hj, m27⟩
  ·rw [zg (by decide)]; exact e6
  ·rw [zg (by decide), e7]
   have : tagB u[j] = uvB key ++ (uvB (zbx (u[j]).2).length ++ zbx (u[j]).2) := by rw [hkey]; rfl
   rw [this, ← List.append_assoc, ← List.append_assoc]
   exact ho7
  ·rw [zg (by decide)]; exact e8
  ·rw [zg (by decide)]; exact e29
  ·rw [zg (by decide)]; exact e30
end
section
variable {P : Program} {N : Nums} {M : zcl}
theorem W_tags (B : Base P N) (S : SpT P N M) (hW : SW P N M) {loc : List Nat} {N' : Nat} (hlo : zfk loc N') {σ : Env} {w2 w : World} {v6 vu : Value} {u : List (Nat × List UInt8)} (hU : zim w2 vu u) (hk : ∀ x ∈ u, x.1 < 4294967296) (hul : u.length < 4611686018427387904)
  (h : TSt w2 v6 vu σ w u.length 0 []) (hbig : (u.flatMap tagB).length < 549755813888) {Q : Exit → Env → World → Prop}
  (hQ : ∀ (σ' : Env) (w' : World), TSt w2 v6 vu σ' w' u.length u.length (u.flatMap tagB) → Q .normal σ' w') :
  W P loc N' (zpm N 31 30 32 6 (bTags N M)) Q σ w := by
 refine zhg (i := 31) (l := 30) (c := 32) (k := 6) hlo (L := u.length) hul (fun j σ w' => TSt w2 v6 vu σ w' u.length j ((u.take j).flatMap tagB)) (fun j σ w h => ⟨h.h31, h.h30, h.le⟩) (fun j σ w b h => h.upd (by decide) _) (by simpa using h) (fun σ' w' h => hQ σ' w' (by simpa using h)) (fun j σ' w' hj h => ?_)
 refine W_tag B S hW hU hj (hk _ (List.getElem_mem hj)) hul h (Nat.lt_of_le_of_lt (zie tagB u j) hbig) fun σ5 w5 h1 h5 => ⟨h1, ?_⟩
 rw [zgr tagB hj]
 exact h5
theorem sp_part (B : Base P N) (S : SpT P N M) (hW : SW P N M) {flex : Bool} {v : Int} {fs : List Fld} (hl : fs.length < 4611686018427387904) (ok : ∀ f ∈ fs, OkF P M flex v f) : ztd P M flex v fs := by
 intro w fv t cs hf ht hwf hbig
 unfold zdn endB at hbig
 rw [List.length_append] at hbig
 refine hW.part.call rfl fun loc N' hlo => ?_
 unfold zrd
 refine zc fun K hK => zw fun τ => ?_
 simp +decide only [bK, bE, Nat.reduceAdd]
 obtain ⟨w1, hw1⟩ : ∃ w1, w1 = w.alloc (.cells (Value.agg cs.toArray).cells N.ze) := ⟨_, rfl⟩
 have m1 : Mod w w1 zp := by rw [hw1]; exact Mod.alloc _ _ _
 have hb : w1.rangeAt w.heap.size 0 cs := by
  rw [hw1]; exact zu w _ _ _
 have hs1 : w1.heap.size = w.heap.size + 1 := by rw [hw1]; exact zak _ _
 rw [← hw1]
 clear hw1
 refine hK _ _ (zd fun σ1 hσ => ?_)
 have a0 := hσ 0
 have a1 := hσ 1
 have a2 := hσ 2
 have a4 := hσ 4
 simp +decide only [bE, Nat.reduceBeqDiff, BEq.rfl, Nat.reduceAdd, Nat.zero_add, zro, zoc, zob] at a0 a1 a2 a4
 clear hσ hK K
 refine zc fun K hK => zw fun τ => ?_
 simp +decide only [bK, Nat.reduceAdd]
 refine hK _ _ (zd fun σ2 hσ => ?_)
 have b0 := hσ 0
 have b1 := hσ 1
 have b2 := hσ 2
 have b4 := hσ 4
 have b6 := hσ 6
 have b7 := hσ 7
 simp +decide only [bE, Nat.reduceBeqDiff, BEq.rfl, Nat.reduceAdd, Nat.zero_add, a0, a1, a2, a4] at b0 b1 b2 b4 b6 b7
 clear hσ hK K
 refine zc fun K hK => zw fun τ => ?_
 simp +decide only [bK, Nat.reduceAdd]
 refine hK _ _ (zd fun σ3 hσ => ?_)
 have c0 := hσ 0
 have c1 := hσ 1
 have c2 := hσ 2
 have c4 := hσ 4
 have c6 := hσ 6
 have c7 := hσ 7
 have c8 := hσ 8
 simp +decide only [bE, Nat.reduceBeqDiff, BEq.rfl, Nat.reduceAdd, Nat.zero_add, b0, b1, b2, b4, b6, b7] at c0 c1 c2 c4 c6 c7 c8
 clear hσ hK K
 have hf1 := hf.stay m1
 have ht1 := RepA.stay m1 _ ht
 refine zc fun K hK => zc fun K1 hK1 => zw fun τ => ?_
 simp +decide only [bK, bE, BEq.rfl, Nat.reduceAdd, Nat.zero_add, c0, hf.run_len S]
 refine hK1 _ _ (zd fun σ4 hσ => ?_)
 have d0 := hσ 0
 have d1 := hσ 1
 have d2 := hσ 2
 have d4 := hσ 4
 have d6 := hσ 6
 have d7 := hσ 7
 have d8 := hσ 8
 have d9 := hσ 9
 have d10 := hσ 10
 have d11 := hσ 11
 simp +decide only [bE, Nat.reduceBeqDiff, BEq.rfl, Nat.reduceAdd, Nat.zero_add, c0, c1, c2, c4, c6, c7, c8] at d0 d1 d2 d4 d6 d7 d8 d9 d10 d11
 clear hσ hK1 K1
 refine W_fields B S hW hlo ⟨d0, d1, d2, d4, by rw [d6]; exact zns, d7, d8, d9, d10, d11, Nat.zero_le _, .refl _ _⟩ hb ht1 hwf hf1 hl ok (by omega) fun σ5 w5 st => hK _ _ ?_
 clear hK K d0 d1 d2 d4 d6 d7 d8 d9 d10 d11 c0 c1 c2 c4 c6 c7 c8 b0 b1 b2 b4 b6 b7 a0 a1 a2 a4
 refine zc fun K hK => zc fun K1 hK1 => zw fun τ => ?_
 simp +decide only [bK, bE, BEq.rfl, Nat.reduceAdd, st.h2]
 refine hK1 _ _ (zd fun σ6 hσ => ?_)
 have a0 := hσ 0
 have a4 := hσ 4
 have a6 := hσ 6
 have a7 := hσ 7
 have a8 := hσ 8
 have a16 := hσ 16
 simp +decide only [bE, Nat.reduceBeqDiff, BEq.rfl, Nat.reduceAdd, Nat.zero_add, st.h0, st.h4, st.h7, st.h8] at a0 a4 a6 a7 a8 a16
 clear hσ hK1 K1
 refine W_if hlo a16 ?_
 cases flex with
 | false =>
  simp only [Bool.not_false, if_true]
  refine zc fun K1 hK1 => zw fun τ => ?_
  simp +decide only [bK, bE, BEq.rfl, Nat.reduceAdd]
  refine hK1 _ _ (zd fun σ7 hσ => zbk ⟨.inr rfl, _, rfl, ?_⟩)
  have q := hσ 5
  simp +decide only [bE, BEq.rfl, Nat.reduceAdd] at q
  rw [q, a6]
  unfold zdn endB
  simp only [Bool.false_eq_true, if_false, List.append_nil]
  exact ⟨st.h6.mono_lo (by omega), m1.trans' st.mod⟩
 | true =>
  simp only [Bool.not_true, Bool.false_eq_true, if_false]
  refine zbn (hK _ _ ?_)
  clear hK K a16
  simp only [if_true] at hbig
  rw [List.length_append] at hbig
  have h6 := st.h6
  rw [← a6] at h6
  refine zc fun K hK => zc fun K1 hK1 => zw fun τ => ?_
  simp +decide only [bK, bE, Nat.reduceAdd, Nat.zero_add, a0]
  rw [zai hW.known.has]
  simp +decide only [bK, bE, BEq.rfl]
  refine (sp_known B S hW.known (hf1.stay st.mod) hl fun f hf => (ok f hf).1).mono ?_
  rintro _ w6 ⟨rfl, m6⟩
  have hcv := fun {w : World} => zbj (P := P) (w := w) (k' := .u32) B.uint32 B.int (n := 0) ⟨_, rfl⟩
  have hw0 : IntKind.i64.wrap 0 = 0 := by decide
  simp +decide only [bK, hcv, hw0]
  refine hK1 _ _ (zd fun σ7 hσ => ?_)
  have b0 := hσ 0
  have b4 := hσ 4
  have b6 := hσ 6
  have b7 := hσ 7
  have b8 := hσ 8
  have b17 := hσ 17
  have b18 := hσ 18
  simp +decide only [bE, Nat.reduceBeqDiff, BEq.rfl, Nat.reduceAdd, Nat.zero_add, a0, a4, a7, a8] at b0 b4 b6 b7 b8 b17 b18
  clear hσ hK1 K1
  obtain ⟨v6, hv6⟩ : ∃ v6, v6 = σ6 6 := ⟨_, rfl⟩
  rw [← hv6] at h6 b6
  refine zhg (i := 18) (l := 17) (c := 19) (k := 2) hlo (L := 0) (by omega) (fun j σ w' => σ 0 = fv ∧ σ 4 = .pointer (some ⟨w.heap.size, 0, none⟩) ∧ σ 6 = v6 ∧ σ 7 = .slice none 0 0 ∧ σ 8 = .int .i64 0 ∧ σ 17 = .int .i64 0 ∧ σ 18 = .int .i64 j ∧ j ≤ 0 ∧ w' = w6) (fun j σ w h => ⟨h.2.2.2.2.2.2.1, h.2.2.2.2.2.1, h.2.2.2.2.2.2.2.1⟩) (fun j σ w b h => ?_) ⟨b0, b4, b6, b7, b8, b17, b18, Nat.le_refl _, rfl⟩ (fun σ8 w8 h => hK _ _ ?_) (fun j σ' w' hj h => absurd hj (by omega))
  ·obtain ⟨x0, x4, x6, x7, x8, x17, x18, xl, rfl⟩ := h
   refine ⟨?_, ?_, ?_, ?_, ?_, ?_, ?_, xl, rfl⟩ <;> (rw [zg (by decide)]; assumption)
  obtain ⟨x0, x4, x6, x7, x8, _, _, _, rfl⟩ := h
  clear hK K b0 b4 b6 b7 b8 b17 b18 a0 a4 a6 a7 a8 hv6
  have m18 : Mod w1 w8 zp := st.mod.trans' m6
  have h68 := h6.stay m6 fun _ _ _ h => h
  have hb8 := zv m18 hb
  obtain ⟨vs, vl, vu, hcs, _, _, htu⟩ := ht1.out
  have hc4 : w8.cell? ⟨w.heap.size, 4, none⟩ = some vu := hb8 4 _ (by rw [hcs]; rfl)
  refine zc fun K hK => zc fun K1 hK1 => zw fun τ => ?_
  simp +decide only [bK, bE, Nat.reduceBeqDiff, BEq.rfl, Nat.reduceAdd, Nat.zero_add, x0, x4, S.tr.h4.run, S.tr.lg.run_load1 rfl, hc4]
  rw [zce hW.unknown.has]
  simp +decide only [bK, bE, Nat.reduceBeqDiff, BEq.rfl]
  refine (sp_unknown B S hW (hf1.stay m18) hl (fun f hf => (ok f hf).1) (htu.stay m18)).mono ?_
  rintro r w9 ⟨hr, m9⟩
  simp +decide only [bK, hr.run_len S]
  refine hK1 _ _ (zd fun σ9 hσ => ?_)
  have e6 := hσ 6
  have e7 := hσ 7
  have e8 := hσ 8
  have e29 := hσ 29
  have e30 := hσ 30
  have e31 := hσ 31
  simp +decide only [bE, Nat.reduceBeqDiff, BEq.rfl, Nat.reduceAdd, x6, x7, x8] at e6 e7 e8 e29 e30 e31
  clear hσ hK1 K1
  have hul := zth t.u
  refine W_tags B S hW hlo (w2 := w9) (v6 := v6) (vu := r) (u := unkT t.u) hr.tagsA (fun x hx => hwf.u x (ztg hx)) (by omega) ⟨e6, by rw [e7]; exact zns, e8, e29, e30, e31, Nat.zero_le _, .refl _ _⟩ (by omega) fun σ10 w10 tt => hK _ _ ?_
  clear hK K
  have m19 := m18.trans' m9
  have h610 := (h68.stay m9 fun _ _ _ h => h).stay tt.mod fun _ _ _ h => h
  have m110 := m19.trans' tt.mod
  have hcv := fun {w : World} => zbj (P := P) (w := w) (k' := .i64) B.int B.uint64 (n := (unkT t.u).length) ⟨_, rfl⟩
  refine zc fun K hK => zw fun τ => ?_
  simp +decide only [bK, bE, Nat.reduceBeqDiff, BEq.rfl, Nat.reduceAdd, tt.h6, tt.h8, hcv]
  rw [zeg _ (by omega), zai hW.Uvarint.has]
  simp +decide only [bK, bE, Nat.reduceBeqDiff, BEq.rfl]
  refine (zln B hW.Uvarint w10 _ (by omega)).mono ?_
  rintro r3 w11 ⟨ho3, m11⟩
  have hu3 : (uvB (unkT t.u).length).length ≤ 10 := zhv (by omega)
  have h611 := h610.stay m11 fun _ _ _ h => h
  have m111 := m110.trans' m11
  obtain ⟨v4, w12, hap4, ho4, m12, _⟩ := zfz (ty := N.za) B h611 ho3.octA m111.size (by omega)
  have m112 : Mod w1 w12 zp := Mod.ofOwn h611 m111 m12
  have h7 : OctA w12 (σ10 7) ((unkT t.u).flatMap tagB) := by
   have h711 := tt.h7.stay m11 fun _ _ _ h => h
   exact (h711.stay m12 fun b _ hb hv => by have x1 := (tt.h7.blk hb).1; have x2 := (h68.blk hv).2; have x3 := m9.size; omega).octA
  simp +decide only [bK, hap4]
  obtain ⟨v5, w13, hap5, ho5, m13, _⟩ := zfz (ty := N.za) B ho4 h7 m112.size (by simp only [List.length_append]; omega)
  have m113 : Mod w1 w13 zp := Mod.ofOwn ho4 m112 m13
  simp +decide only [bK, hap5]
  refine hK _ _ (zd fun σ11 hσ => zbk ⟨.inr rfl, _, rfl, ?_⟩)
  have q := hσ 5
  simp +decide only [bE, BEq.rfl, Nat.reduceAdd] at q
  rw [q]
  unfold zdn endB
  simp only [if_true]
  rw [← List.append_assoc]
  exact ⟨ho5.mono_lo (by omega), m1.trans' m113⟩
end
mutual
def okFB : Fld → Bool
 | .mk k _ _ _ g _ o sub => decide (g < 0) && decide (k ≠ 10) && (decide (k ≠ 11) || decide (o ≠ 10) || (Nat.blt sub.length 1000 && zrz sub))
def zrz : List Fld → Bool
 | [] => true
 | f :: r => okFB f && zrz r
end
section
variable {P : Program} {N : Nums} {M : zcl}
mutual
theorem okF_of (B : Base P N) (S : SpT P N M) (hW : SW P N M) {flex : Bool} {v : Int} : ∀ (f : Fld), okFB f = true → OkF P M flex v f
 | .mk k _ _ _ g _ o sub, h => by
  simp only [okFB, Bool.and_eq_true, decide_eq_true_eq, Bool.or_eq_true] at h
  obtain ⟨⟨h1, h2⟩, h3⟩ := h
  refine ⟨h1, h2, fun hk ho => ?_⟩
  rcases h3 with (h3 | h3) | ⟨h3, h4⟩
  ·exact absurd hk h3
  ·exact absurd ho h3
  ·have : sub.length < 1000 := by simpa using h3
   exact sp_part B S hW (Nat.lt_trans this (by decide)) (zxc B S hW sub h4)
theorem zxc (B : Base P N) (S : SpT P N M) (hW : SW P N M) {flex : Bool} {v : Int} : ∀ (l : List Fld), zrz l = true → ∀ f ∈ l, OkF P M flex v f
 | [], _, f, hf => by cases hf
 | g :: r, h, f, hf => by
  simp only [zrz, Bool.and_eq_true] at h
  rcases List.mem_cons.1 hf with e | hf
  ·rw [e]; exact okF_of B S hW g h.1
  ·exact zxc B S hW r h.2 f hf
end
theorem partOk_of (B : Base P N) (S : SpT P N M) (hW : SW P N M) {flex : Bool} {v : Int} {l : List Fld} (h1 : l.length < 1000) (h : zrz l = true) : ztd P M flex v l :=
 sp_part B S hW (Nat.lt_trans h1 (by decide)) (zxc B S hW l h)
def zon (fl v : Int) : Bool := decide (0 ≤ fl) && decide (fl ≤ v)
theorem sp_Write (B : Base P N) (S : SpT P N M) (hW : SW P N M) {w : World} {fv : Value} {fl v : Int} {fs : List Fld} {t : Tr} {cs : List Value} (h1 : fs.length < 1000) (hok : zrz fs = true) (hf : zfw w fv fs) (ht : RepA w t cs) (hwf : wfT t)
  (hbig : (zdn (zon fl v) v fs t).length < 549755813888) :
  Call P M.zkw #[.agg [fv, .int .i64 fl].toArray, .int .i64 v, .agg cs.toArray] w (Gave w (zdn (zon fl v) v fs t)) := by
 refine hW.Write.call rfl fun loc N' hlo => ?_
 unfold zpi
 refine zc fun K hK => zw fun τ => ?_
 simp +decide only [bK, bE, Nat.reduceBeqDiff, Nat.reduceAdd, Nat.zero_add]
 obtain ⟨w1, hw1⟩ : ∃ w1, w1 = w.alloc (.cells (Value.cells (.agg [fv, .int .i64 fl].toArray)) M.zas) := ⟨_, rfl⟩
 have m1 : Mod w w1 zp := by rw [hw1]; exact Mod.alloc _ _ _
 have r1 : w1.rangeAt w.heap.size 0 [fv, .int .i64 fl] := by rw [hw1]; exact zu w _ _ _
 rw [← hw1]
 clear hw1
 obtain ⟨w2, hw2⟩ : ∃ w2, w2 = w1.alloc (.cells (Value.cells (.agg cs.toArray)) N.ze) := ⟨_, rfl⟩
 have m2 : Mod w1 w2 zp := by rw [hw2]; exact Mod.alloc _ _ _
 have r2 : w2.rangeAt w1.heap.size 0 cs := by rw [hw2]; exact zu w1 _ _ _
 rw [← hw2]
 clear hw2
 have m02 := m1.trans' m2
 have r1' := zv m2 r1
 refine hK _ _ (zd fun σ hσ => ?_)
 have f1 := hσ 1
 have f3 := hσ 3
 have f4 := hσ 4
 simp +decide only [bE, Nat.reduceBeqDiff, BEq.rfl, Nat.reduceAdd, zod] at f1 f3 f4
 clear hσ hK K
 have x0 := r1' 0 _ rfl
 have x1 := r1' 1 _ rfl
 have hld := zes S.tr r2 ht.len
 have hpart := partOk_of B S hW (flex := zon fl v) (v := v) h1 hok w2 fv t cs (hf.stay m02) (RepA.stay m02 _ ht) hwf hbig
 refine zc fun K hK => zw fun τ => ?_
 have fin : ∀ {r : Value} {w3 : World} {ρ : Env}, Gave w2 (zdn (zon fl v) v fs t) r w3 → ρ 105 = r → K (locs ρ) w3 := fun {r w3 ρ} h hq => hK _ _ (zbk ⟨.inr rfl, _, rfl, by
  show Gave w _ (locs ρ 5) w3
  rw [show locs ρ 5 = r from hq]
  exact ⟨h.1.mono_lo m02.size, m02.trans' h.2⟩⟩)
 by_cases a : fl ≥ 0
 ·have hfx : zon fl v = decide (v ≥ fl) := by unfold zon; simp [show 0 ≤ fl from a]
  simp +decide only [bK, bE, Nat.reduceBeqDiff, decide_true, BEq.rfl, Nat.reduceAdd, Nat.add_zero, Nat.zero_add, if_true, f1, f3, f4, S.m0.run, S.m1.run, S.lf.run_load1 rfl, B.int.run_load1 rfl, x0, x1, a, zap, zcj, hld]
  rw [zhr hW.part.has]
  simp +decide only [bK, bE, Nat.reduceBeqDiff, BEq.rfl]
  rw [← hfx]
  refine hpart.mono ?_
  rintro r w3 hg
  exact fin hg (by simp +decide only [bE, BEq.rfl])
 ·have hfx : zon fl v = false := by unfold zon; simp [show ¬ 0 ≤ fl from a]
  simp +decide only [bK, bE, Nat.reduceBeqDiff, decide_false, BEq.rfl, Nat.reduceAdd, Nat.add_zero, Nat.zero_add, if_false, f1, f3, f4, S.m0.run, S.m1.run, S.lf.run_load1 rfl, B.int.run_load1 rfl, x0, x1, a, zby, Bool.not_true, zcj, hld]
  rw [zhr hW.part.has]
  simp +decide only [bK, bE, Nat.reduceBeqDiff, BEq.rfl]
  rw [← hfx]
  refine hpart.mono ?_
  rintro r w3 hg
  exact fin hg (by simp +decide only [bE, BEq.rfl])
end
def zkg (f : Fld) (x : Tr) : Prop :=
 if f.kind = 8 then x.nl = decide (0 ≤ f.null) ∧ x.s = []
 else if f.kind = 7 then x.s = List.replicate 16 0
 else if f.kind = 9 ∨ f.kind = 11 then x.s = [] ∧ x.l = []
 else x.n = numK f.kind f.dflt
def zlx (kind : Int) (pt : Tr → Tr → Prop) (t g : Tr) : Prop :=
 if kind = 8 ∨ kind = 9 then g.s = zbx t.s
 else if kind = 7 then g.s = idB t.s
 else if kind = 10 then pt t g
 else g.n = numK kind t.n
def Fld.may (f : Fld) (v : Int) : Bool := decide (0 ≤ f.null) && decide (f.null ≤ v)
def zup (flex : Bool) (u : List (Nat × List UInt8)) : List (Nat × List UInt8) := if flex then (unkT u).map fun x => (x.1, zbx x.2) else []
mutual
def zuq (flex : Bool) (v : Int) : Fld → Tr → Tr → Prop
 | .mk k f t' n g d o sub, t, y =>
  (k = 8 ∨ k = 10 ∨ Fld.may (.mk k f t' n g d o []) v = true → y.nl = Fld.nullB (.mk k f t' n g d o []) v t) ∧
  (Fld.nullB (.mk k f t' n g d o []) v t = false →
   if k = 11 then y.l.length = (zeb t.l).length ∧ ∀ (i : Nat) (x z : Tr), (zeb t.l)[i]? = some x → y.l[i]? = some z →
    (o = 8 ∨ o = 10 → z.nl = false) ∧ zlx o (fun t g => g.l.length = sub.length ∧ zqf flex v sub 0 t g ∧ g.u = zup flex t.u) x z
   else zlx k (fun t g => g.l.length = sub.length ∧ zqf flex v sub 0 t g ∧ g.u = zup flex t.u) t y)
def zqf (flex : Bool) (v : Int) : List Fld → Nat → Tr → Tr → Prop
 | [], _, _, _ => True
 | f :: r, i, t, g => (∀ y, g.l[i]? = some y → if f.has v then zuq flex v f (atT t i) y else zkg f y) ∧ zqf flex v r (i + 1) t g
end
def zwm (flex : Bool) (v : Int) (fs : List Fld) (t g : Tr) : Prop := g.l.length = fs.length ∧ zqf flex v fs 0 t g ∧ g.u = zup flex t.u
theorem zlk {flex : Bool} {v : Int} {f : Fld} {t y : Tr} : zuq flex v f t y ↔ (f.kind = 8 ∨ f.kind = 10 ∨ f.may v = true → y.nl = f.nullB v t) ∧ (f.nullB v t = false →
   if f.kind = 11 then y.l.length = (zeb t.l).length ∧ ∀ (i : Nat) (x z : Tr), (zeb t.l)[i]? = some x → y.l[i]? = some z → (f.of = 8 ∨ f.of = 10 → z.nl = false) ∧ zlx f.of (zwm flex v f.sub) x z
   else zlx f.kind (zwm flex v f.sub) t y) := by
 obtain ⟨k, fr, t', n, g, d, o, sub⟩ := f
 rw [zuq]
 exact Iff.rfl
section
variable {P : Program} {N : Nums} {M : zcl}
end
section
variable {P : Program} {N : Nums} {M : zcl}
def Yes (w : World) (r : Value) (w' : World) : Prop := r = .bool true ∧ Mod w w' zp
end
section
variable {a b c d e : Value}
end
section
variable {P : Program} {N : Nums} {M : zcl}
end
section
variable {P : Program} {N : Nums} {M : zcl}
end
section
variable {P : Program} {N : Nums} {M : zcl}
end
section
variable {P : Program} {N : Nums} {M : zcl}
end
section
variable {P : Program} {N : Nums} {M : zcl}
end
section
variable {P : Program} {N : Nums} {M : zcl}
end
section
variable {P : Program} {N : Nums} {M : zcl}
end
def rs (l : List UInt8) : RS := ⟨l, false, false⟩
theorem be_foldl (l : List UInt8) (a : Nat) : l.foldl (fun a x => a * 256 + x.toNat) a = a * 256 ^ l.length + be l := by
 unfold be
 induction l generalizing a with
 | nil => simp
 | cons x l ih =>
  rw [List.foldl_cons, List.foldl_cons, ih, ih (0 * 256 + x.toNat), List.length_cons, Nat.pow_succ, Nat.add_mul, Nat.zero_mul, Nat.zero_add, Nat.mul_assoc, Nat.mul_comm 256, Nat.add_assoc]
theorem be_cons (x : UInt8) (l : List UInt8) : be (x :: l) = x.toNat * 256 ^ l.length + be l := by
 rw [be, List.foldl_cons, be_foldl, Nat.zero_mul, Nat.zero_add]
theorem wrap_u8i (n : Int) : IntKind.u8.wrap n = n % 256 := by simp [IntKind.wrap, IntKind.bits, IntKind.signed]
theorem zmz (n : Int) : ∀ k : Nat, (be (fixB n k) : Int) = n % (256 ^ k : Nat)
 | 0 => by simp [fixB, be]
 | k + 1 => by
  rw [fixB, be_cons, zdw, Int.natCast_add, zmz n k, wrap_u8i]
  have hp : (2 : Int) ^ (8 * k) = ((256 ^ k : Nat) : Int) := by
   rw [show (256 : Nat) = 2 ^ 8 from rfl, ← Nat.pow_mul, Int.natCast_pow]; rfl
  rw [hp]
  obtain ⟨p, hpk⟩ : ∃ p : Nat, p = 256 ^ k := ⟨_, rfl⟩
  have hp0 : 0 < p := by rw [hpk]; exact Nat.pow_pos (by decide)
  rw [← hpk, Nat.pow_succ, ← hpk]
  rw [Int.fdiv_eq_ediv_of_nonneg _ (by omega)]
  have hd : (UInt8.ofNat ((n / (p : Int)) % 256).toNat).toNat = ((n / (p : Int)) % 256).toNat := by
   rw [UInt8.toNat_ofNat']; omega
  rw [hd]
  have h1 : ((((n / (p : Int)) % 256).toNat : Nat) : Int) = (n / (p : Int)) % 256 := by omega
  rw [Int.natCast_mul, h1]
  have e1 := Int.emod_add_mul_ediv n (p : Int)
  have e2 := Int.emod_add_mul_ediv (n / (p : Int)) 256
  have l1 := Int.emod_nonneg n (show (p : Int) ≠ 0 by omega)
  have l2 := Int.emod_lt_of_pos n (show (0 : Int) < p by omega)
  have l3 := Int.emod_nonneg (n / (p : Int)) (show (256 : Int) ≠ 0 by decide)
  have l4 := Int.emod_lt_of_pos (n / (p : Int)) (show (0 : Int) < 256 by decide)
  generalize n % (p : Int) = m at *
  generalize (n / (p : Int)) % 256 = d at *
  generalize (n / (p : Int)) / 256 = q at *
  generalize n / (p : Int) = z at *
  subst e2
  have hn : n = (d * p + m) + ((p * 256 : Nat) : Int) * q := by
   rw [← e1, Int.natCast_mul, Int.mul_add, Int.mul_comm d, Int.mul_assoc]
   have : ((256 : Nat) : Int) = 256 := rfl
   rw [this]
   omega
  rw [hn, Int.add_mul_emod_self_left, Int.emod_eq_of_lt]
  ·have := Int.mul_nonneg l3 (show (0 : Int) ≤ p by omega); omega
  ·have : d * p ≤ 255 * p := Int.mul_le_mul_of_nonneg_right (by omega) (by omega)
   rw [Int.natCast_mul]; omega
theorem zli (k : IntKind) (n : Int) : k.wrap (n % (2 ^ k.bits : Int)) = k.wrap n := by
 unfold IntKind.wrap
 simp only [Int.emod_emod_of_dvd n (Int.dvd_refl _)]
theorem take_app {α : Type} (x r : List α) {k : Nat} (h : x.length = k) : (x ++ r).take k = x := by subst h; simp
theorem drop_app {α : Type} (x r : List α) {k : Nat} (h : x.length = k) : (x ++ r).drop k = r := by subst h; simp
theorem zvg {c : Nat} {g : List UInt8 → Int} {x r : List UInt8} (h : x.length = c) : znt c g (rs (x ++ r)) = (g x, rs r) := by
 unfold znt rs
 simp only [List.length_append]
 rw [if_neg (by omega), take_app x r h, drop_app x r h]
theorem zno {c : Nat} {g : List UInt8 → Value} {z : Value} {x r : List UInt8} (h : x.length = c) : zet c g z (rs (x ++ r)) = (g x, rs r) := by
 unfold zet rs
 simp only [List.length_append]
 rw [if_neg (by omega), take_app x r h, drop_app x r h]
theorem zxe (n : Int) (r : List UInt8) : i16N (rs (fixB n 2 ++ r)) = (IntKind.i16.wrap n, rs r) := by
 rw [i16N, zvg (zdw n 2), zmz]
 congr 1
 exact zli .i16 n
theorem zqu (n : Int) (r : List UInt8) : i32N (rs (fixB n 4 ++ r)) = (IntKind.i32.wrap n, rs r) := by
 rw [i32N, zvg (zdw n 4), zmz]
 congr 1
 exact zli .i32 n
theorem zmd {n : Nat} (hn : n < 4294967296) (r : List UInt8) : uvN (rs (uvB n ++ r)) = (n, rs r) := by
 have t : ∀ m, m < 256 → (UInt8.ofNat m).toNat = m := fun m hm => by rw [UInt8.toNat_ofNat']; omega
 by_cases h1 : n < 128
 ·have e : uvB n = [UInt8.ofNat n] := zew h1
  have d : uvD ([UInt8.ofNat n] ++ r) = (n, 1) := by simp only [List.cons_append, List.nil_append, uvD, t n (by omega)]; rw [if_pos h1]
  unfold uvN rs; rw [e]; simp only [d]; rfl
 rw [zmk h1]
 by_cases h2 : n / 128 < 128
 ·rw [zew h2]
  have d : uvD ((UInt8.ofNat (n % 128 + 128) :: [UInt8.ofNat (n / 128)]) ++ r) = (n, 2) := by
   simp only [List.cons_append, List.nil_append, uvD, t (n % 128 + 128) (by omega), t (n / 128) (by omega)]
   rw [if_neg (by omega), if_pos h2]
   congr 1; omega
  unfold uvN rs; simp only [d]; rfl
 rw [zmk h2]
 by_cases h3 : n / 128 / 128 < 128
 ·rw [zew h3]
  have d : uvD ((UInt8.ofNat (n % 128 + 128) :: UInt8.ofNat (n / 128 % 128 + 128) :: [UInt8.ofNat (n / 128 / 128)]) ++ r) = (n, 3) := by
   simp only [List.cons_append, List.nil_append, uvD, t (n % 128 + 128) (by omega), t (n / 128 % 128 + 128) (by omega), t (n / 128 / 128) (by omega)]
   rw [if_neg (by omega), if_neg (by omega), if_pos h3]
   congr 1; omega
  unfold uvN rs; simp only [d]; rfl
 rw [zmk h3]
 by_cases h4 : n / 128 / 128 / 128 < 128
 ·rw [zew h4]
  have d : uvD ((UInt8.ofNat (n % 128 + 128) :: UInt8.ofNat (n / 128 % 128 + 128) :: UInt8.ofNat (n / 128 / 128 % 128 + 128) :: [UInt8.ofNat (n / 128 / 128 / 128)]) ++ r) = (n, 4) := by
   simp only [List.cons_append, List.nil_append, uvD, t (n % 128 + 128) (by omega), t (n / 128 % 128 + 128) (by omega), t (n / 128 / 128 % 128 + 128) (by omega), t (n / 128 / 128 / 128) (by omega)]
   rw [if_neg (by omega), if_neg (by omega), if_neg (by omega), if_pos h4]
   congr 1; omega
  unfold uvN rs; simp only [d]; rfl
 rw [zmk h4, zew (by omega)]
 have d : uvD ((UInt8.ofNat (n % 128 + 128) :: UInt8.ofNat (n / 128 % 128 + 128) :: UInt8.ofNat (n / 128 / 128 % 128 + 128) :: UInt8.ofNat (n / 128 / 128 / 128 % 128 + 128) :: [UInt8.ofNat (n / 128 / 128 / 128 / 128)]) ++ r) = (n, 5) := by
  simp only [List.cons_append, List.nil_append, uvD, t (n % 128 + 128) (by omega), t (n / 128 % 128 + 128) (by omega), t (n / 128 / 128 % 128 + 128) (by omega), t (n / 128 / 128 / 128 % 128 + 128) (by omega), t (n / 128 / 128 / 128 / 128) (by omega)]
  rw [if_neg (by omega), if_neg (by omega), if_neg (by omega), if_neg (by omega), if_pos (by omega)]
  congr 1; omega
 unfold uvN rs; simp only [d]; rfl
theorem zwl (n : Nat) : 0 < (uvB n).length := by
 by_cases h : n < 128
 ·rw [zew h]; simp
 ·rw [zmk h]; simp
theorem zto (x r : List UInt8) : zpn (x.length : Int) (rs (x ++ r)) = false := by
 unfold zpn rs; simp; omega
theorem zng (x r : List UInt8) : zdu (x.length : Int) (rs (x ++ r)) = x := by
 unfold zdu; rw [zto, if_neg (by simp)]; simp [rs]
theorem ziq (x r : List UInt8) : zhx (x.length : Int) (rs (x ++ r)) = rs r := by
 unfold zhx; rw [zto, if_neg (by simp)]; simp [rs]
theorem zpu (x r : List UInt8) : znj (x.length : Int) (rs (x ++ r)) = some x := by
 unfold znj ztm; rw [zto, zng]; simp [rs]
theorem zqa {n : Nat} (h : n ≤ 32767) : IntKind.i16.wrap (n : Int) = n := by
 show (let m := (n : Int) % 65536; if (true && decide (m ≥ 32768)) = true then m - 65536 else m) = n
 have : (n : Int) % 65536 = n := by omega
 simp only [this]
 rw [if_neg (by simp; omega)]
theorem zkm {n : Nat} (h : n < 2147483648) : IntKind.i32.wrap (n : Int) = n := by
 show (let m := (n : Int) % 4294967296; if (true && decide (m ≥ 2147483648)) = true then m - 4294967296 else m) = n
 have : (n : Int) % 4294967296 = n := by omega
 simp only [this]
 rw [if_neg (by simp; omega)]
theorem str_rs {s : List UInt8} (h : s.length ≤ 32767) (r : List UInt8) : strR (rs (fixB s.length 2 ++ (s ++ r))) = (s, rs r) := by
 unfold strR; rw [zxe, zqa h, zng, ziq]
theorem cstr_rs {s : List UInt8} (h : s.length ≤ 32767) (r : List UInt8) : zpq (rs (uvB (s.length + 1) ++ (s ++ r))) = (s, rs r) := by
 unfold zpq; rw [zmd (by omega)]
 have : (((s.length + 1 : Nat) : Int) - 1) = (s.length : Int) := by omega
 simp only [this]
 rw [zng, ziq]
theorem nstr_rs {s : List UInt8} (h : s.length ≤ 32767) (r : List UInt8) : zlz (rs (fixB s.length 2 ++ (s ++ r))) = (some s, rs r) := by
 unfold zlz; rw [str_rs h, zxe, zqa h, if_neg (by simp)]
theorem nstr_rs0 (r : List UInt8) : zlz (rs (fixB (-1) 2 ++ r)) = (none, rs r) := by
 unfold zlz; rw [zxe, if_pos (by show IntKind.i16.wrap (-1) < 0; decide)]
theorem cnstr_rs {s : List UInt8} (h : s.length ≤ 32767) (r : List UInt8) : zhj (rs (uvB (s.length + 1) ++ (s ++ r))) = (some s, rs r) := by
 unfold zhj; rw [cstr_rs h, zmd (by omega), if_neg (by simp only; omega)]
theorem uv0_rs (r : List UInt8) : uvN (rs ([0] ++ r)) = (0, rs r) := by
 have := zmd (n := 0) (by decide) r
 rwa [zew (by decide)] at this
theorem cnstr_rs0 (r : List UInt8) : zhj (rs ([0] ++ r)) = (none, rs r) := by
 unfold zhj; rw [uv0_rs, if_pos (by show (((0 : Nat) : Int) - 1) < 0; decide)]
theorem byt_rs {s : List UInt8} (h : s.length ≤ 32767) (r : List UInt8) : bytR (rs (fixB s.length 4 ++ (s ++ r))) = (some s, rs r) := by
 unfold bytR; rw [zqu, zkm (by omega), if_neg (by simp only; omega), zpu, ziq]
theorem cbyt_rs {s : List UInt8} (h : s.length ≤ 32767) (r : List UInt8) : zuf (rs (uvB (s.length + 1) ++ (s ++ r))) = (some s, rs r) := by
 unfold zuf; rw [zmd (by omega)]
 have : (((s.length + 1 : Nat) : Int) - 1) = (s.length : Int) := by omega
 simp only [this]
 rw [if_neg (by omega), zpu, ziq]
theorem nbyt_rs {s : List UInt8} (h : s.length ≤ 32767) (r : List UInt8) : zqs (rs (fixB s.length 4 ++ (s ++ r))) = (some s, rs r) := by
 unfold zqs; rw [zqu, zkm (by omega), if_neg (by simp only; omega), zpu, ziq]
theorem nbyt_rs0 (r : List UInt8) : zqs (rs (fixB (-1) 4 ++ r)) = (none, rs r) := by
 unfold zqs; rw [zqu, if_pos (by show IntKind.i32.wrap (-1) < 0; decide)]
theorem cnbyt_rs {s : List UInt8} (h : s.length ≤ 32767) (r : List UInt8) : zkz (rs (uvB (s.length + 1) ++ (s ++ r))) = (some s, rs r) := by
 unfold zkz; rw [zmd (by omega)]
 have : (((s.length + 1 : Nat) : Int) - 1) = (s.length : Int) := by omega
 simp only [this]
 rw [if_neg (by omega), zpu, ziq]
theorem cnbyt_rs0 (r : List UInt8) : zkz (rs ([0] ++ r)) = (none, rs r) := by
 unfold zkz; rw [uv0_rs, if_pos (by show (((0 : Nat) : Int) - 1) < 0; decide)]
theorem arr_rs {n : Nat} (h : n ≤ 32767) {x : List UInt8} (hx : n ≤ x.length) : arrR (rs (fixB n 4 ++ x)) = ((n : Int), rs x) := by
 unfold arrR; rw [zqu, zkm (by omega)]
 rw [if_neg (by show ¬ ((x.length : Int) < (n : Int)); omega)]
theorem arr_rs0 (x : List UInt8) : arrR (rs (fixB (-1) 4 ++ x)) = (-1, rs x) := by
 unfold arrR; rw [zqu]
 rw [if_neg (by show ¬ ((x.length : Int) < (-1 : Int)); omega)]
 rfl
theorem carr_rs {n : Nat} (h : n ≤ 32767) {x : List UInt8} (hx : n ≤ x.length) : zmx (rs (uvB (n + 1) ++ x)) = ((n : Int), rs x) := by
 have e : zmb (rs (uvB (n + 1) ++ x)) = (n : Int) := by
  unfold zmb; rw [zmd (by omega)]
  simp only
  rw [zkm (n := n + 1) (by omega), show (((n + 1 : Nat) : Int) - 1) = (n : Int) by omega, zkm (by omega)]
 unfold zmx; rw [e, zmd (by omega)]
 rw [if_neg (by show ¬ ((x.length : Int) < (n : Int)); omega)]
theorem carr_rs0 (x : List UInt8) : zmx (rs ([0] ++ x)) = (-1, rs x) := by
 have e : zmb (rs ([0] ++ x)) = (-1 : Int) := by
  unfold zmb; rw [uv0_rs]; show IntKind.i32.wrap (IntKind.i32.wrap ((0 : Nat) : Int) - 1) = -1; decide
 unfold zmx; rw [e, uv0_rs]
 rw [if_neg (by show ¬ ((x.length : Int) < (-1 : Int)); omega)]
def zkc : PK → Int → Bool
 | .bool, k => decide (k = 0) | .i8, k => decide (k = 1) | .i16, k => decide (k = 2) | .i32, k => decide (k = 3) | .i64, k => decide (k = 4) | .uuid, k => decide (k = 7)
theorem zhu {n : Int} (h1 : -9223372036854775808 ≤ n) (h2 : n < 9223372036854775808) : IntKind.i64.wrap n = n := by
 rw [IntKind.wrap_i64]; omega
theorem wrap_i8_r (n : Int) : -128 ≤ IntKind.i8.wrap n ∧ IntKind.i8.wrap n < 128 := by
 have e : IntKind.i8.wrap n = (let m := n % 256; if (true && decide (m ≥ 128)) = true then m - 256 else m) := rfl
 rw [e]; simp only [Bool.true_and, decide_eq_true_eq]; split <;> omega
theorem wrap_i16_r (n : Int) : -32768 ≤ IntKind.i16.wrap n ∧ IntKind.i16.wrap n < 32768 := by
 have e : IntKind.i16.wrap n = (let m := n % 65536; if (true && decide (m ≥ 32768)) = true then m - 65536 else m) := rfl
 rw [e]; simp only [Bool.true_and, decide_eq_true_eq]; split <;> omega
theorem wrap_i32_r (n : Int) : -2147483648 ≤ IntKind.i32.wrap n ∧ IntKind.i32.wrap n < 2147483648 := by
 rw [IntKind.wrap_i32]; omega
theorem octs_map (l : List UInt8) : (l.map zbg).map (fun v => match v with | .int _ n => UInt8.ofNat n.toNat | _ => 0) = l := by
 rw [List.map_map]
 conv => rhs; rw [← List.map_id l]
 refine List.map_congr_left fun x _ => ?_
 simp [zbg]
theorem idB_len (s : List UInt8) : (idB s).length = 16 := by
 unfold idB; rw [List.length_append, List.length_take, List.length_replicate]; omega
theorem pr_rd {k : PK} {kind : Int} (h : zkc k kind = true) (fl : Bool) (pt : Tr → List UInt8) (pt' : Tr → Tr → Prop) (null : Bool) {t : Tr} (hw : wfT t) (r : List UInt8) :
  ∃ v, k.rd (rs (valB fl kind pt null t ++ r)) = (v, rs r) ∧ zlx kind pt' t (k.tr v) ∧ (k.tr v).nl = false ∧ 0 < (valB fl kind pt null t).length := by
 cases k with
 | bool =>
  have h : kind = 0 := by simpa [zkc] using h
  subst h
  have hm : t.n % 2 = 0 ∨ t.n % 2 = 1 := by omega
  refine ⟨.bool (be [UInt8.ofNat (t.n % 2).toNat] != 0), by rw [valB, if_pos rfl]; show zet 1 (fun l => .bool (be l != 0)) (.bool false) _ = _; rw [zno (c := 1) (x := [UInt8.ofNat (t.n % 2).toNat]) rfl], ?_, rfl, by rw [valB, if_pos rfl]; simp⟩
  rw [zlx, if_neg (by decide), if_neg (by decide), if_neg (by decide), numK, if_pos rfl, band1]
  rcases hm with hm | hm <;> rw [hm] <;> rfl
 | i8 =>
  have h : kind = 1 := by simpa [zkc] using h
  subst h
  have e : valB fl 1 pt null t = fixB t.n 1 := by simp [valB, zgk]
  refine ⟨.int .i8 (IntKind.i8.wrap (be (fixB t.n 1))), by rw [e]; show zet 1 (fun l => .int .i8 (IntKind.i8.wrap (be l))) (.int .i8 0) _ = _; rw [zno (zdw t.n 1)], ?_, rfl, by rw [e, zdw]; decide⟩
  rw [zlx, if_neg (by decide), if_neg (by decide), if_neg (by decide), numK, if_neg (by decide), if_pos rfl, zmz]
  have := wrap_i8_r t.n
  rw [zhu (by omega) (by omega)]
  exact zli .i8 t.n
 | i16 =>
  have h : kind = 2 := by simpa [zkc] using h
  subst h
  have e : valB fl 2 pt null t = fixB t.n 2 := by simp [valB, zgk]
  refine ⟨.int .i16 (IntKind.i16.wrap (be (fixB t.n 2))), by rw [e]; show zet 2 (fun l => .int .i16 (IntKind.i16.wrap (be l))) (.int .i16 0) _ = _; rw [zno (zdw t.n 2)], ?_, rfl, by rw [e, zdw]; decide⟩
  rw [zlx, if_neg (by decide), if_neg (by decide), if_neg (by decide), numK, if_neg (by decide), if_neg (by decide), if_pos rfl, zmz]
  have := wrap_i16_r t.n
  rw [zhu (by omega) (by omega)]
  exact zli .i16 t.n
 | i32 =>
  have h : kind = 3 := by simpa [zkc] using h
  subst h
  have e : valB fl 3 pt null t = fixB t.n 4 := by simp [valB, zgk]
  refine ⟨.int .i32 (IntKind.i32.wrap (be (fixB t.n 4))), by rw [e]; show zet 4 (fun l => .int .i32 (IntKind.i32.wrap (be l))) (.int .i32 0) _ = _; rw [zno (zdw t.n 4)], ?_, rfl, by rw [e, zdw]; decide⟩
  rw [zlx, if_neg (by decide), if_neg (by decide), if_neg (by decide), numK, if_neg (by decide), if_neg (by decide), if_neg (by decide), if_pos rfl, zmz]
  have := wrap_i32_r t.n
  rw [zhu (by omega) (by omega)]
  exact zli .i32 t.n
 | i64 =>
  have h : kind = 4 := by simpa [zkc] using h
  subst h
  have e : valB fl 4 pt null t = fixB t.n 8 := by simp [valB, zgk]
  refine ⟨.int .i64 (IntKind.i64.wrap (be (fixB t.n 8))), by rw [e]; show zet 8 (fun l => .int .i64 (IntKind.i64.wrap (be l))) (.int .i64 0) _ = _; rw [zno (zdw t.n 8)], ?_, rfl, by rw [e, zdw]; decide⟩
  rw [zlx, if_neg (by decide), if_neg (by decide), if_neg (by decide), numK, if_neg (by decide), if_neg (by decide), if_neg (by decide), if_neg (by decide), if_neg (by decide), zmz]
  have h1 := zli .i64 t.n
  have h2 := zhu hw.n.1 hw.n.2
  show IntKind.i64.wrap (t.n % (256 ^ 8 : Nat)) = t.n
  rw [← h2]
  rw [h2]
  exact h1.trans h2
 | uuid =>
  have h : kind = 7 := by simpa [zkc] using h
  subst h
  have e : valB fl 7 pt null t = idB t.s := by simp [valB, idB]
  have hl := idB_len t.s
  have h1 : zdu 16 (rs (idB t.s ++ r)) = idB t.s := by have := zng (idB t.s) r; rwa [hl] at this
  have h2 : zhx 16 (rs (idB t.s ++ r)) = rs r := by have := ziq (idB t.s) r; rwa [hl] at this
  refine ⟨uuidV (idB t.s), by rw [e]; show (uuidV (zdu 16 _), zhx 16 _) = _; rw [h1, h2], ?_, rfl, by rw [e, hl]; decide⟩
  rw [zlx, if_neg (by decide), if_pos rfl]
  show zks (uuidV (idB t.s)) = idB t.s
  unfold uuidV zks
  rw [hl, Nat.sub_self, List.replicate_zero, List.append_nil, List.take_of_length_le (by omega)]
  exact octs_map _
theorem zlj (s : List UInt8) : (zbx s).length ≤ 32767 := by simp [zbx, most]; omega
theorem valB_txt {fl : Bool} {pt : Tr → List UInt8} {null : Bool} {t : Tr} : valB fl 8 pt null t = zbv fl null (if null then [] else zbx t.s).length 2 ++ (if null then [] else zbx t.s) := by simp [valB]
theorem valB_byt {fl : Bool} {pt : Tr → List UInt8} {null : Bool} {t : Tr} : valB fl 9 pt null t = zbv fl null (if null then [] else zbx t.s).length 4 ++ (if null then [] else zbx t.s) := by simp [valB]
theorem zdz (fl null : Bool) (n size : Nat) (h : 0 < size) : 0 < (zbv fl null n size).length := by
 unfold zbv
 split
 ·simp
 ·split
  ·exact zwl _
  ·split <;> rw [zdw] <;> exact h
def Txt.kind : Txt → Int | .str => 8 | .nstr => 8 | .byt => 9 | .nbyt => 9
theorem txt_rs (k : Txt) (fl null : Bool) (hn : k = .str ∨ k = .byt → null = false) (pt : Tr → List UInt8) (t : Tr) (r : List UInt8) (kind : Int) (hk : kind = k.kind) :
  ∃ v, k.rd fl (rs (valB fl kind pt null t ++ r)) = (v, rs r) ∧ ((Ty.txt k).tr v).nl = null ∧ (null = false → ((Ty.txt k).tr v).s = zbx t.s) ∧ (El.txt k).tr v = (Ty.txt k).tr v ∧ 0 < (valB fl kind pt null t).length := by
 have hw := zlj t.s
 cases k with
 | str =>
  have hk : kind = 8 := hk
  subst hk
  have hn := hn (.inl rfl)
  subst hn
  rw [valB_txt]
  simp only [Bool.false_eq_true, if_false, List.append_assoc]
  have hp := zdz fl false (zbx t.s).length 2 (by decide)
  refine ⟨.num (strV (zbx t.s)), ?_, rfl, fun _ => by show zks (strV _) = _; simp [zks, strV], rfl, by rw [List.length_append]; omega⟩
  unfold Txt.rd zbv
  cases fl with
  | true => simp only [Bool.and_false, Bool.false_eq_true, if_false, if_true]; rw [cstr_rs hw]
  | false => simp only [Bool.and_false, Bool.false_eq_true, if_false]; rw [str_rs hw]
 | nstr =>
  have hk : kind = 8 := hk
  subst hk
  rw [valB_txt]
  cases null with
  | true =>
   have hp := zdz fl true (zbx t.s).length 2 (by decide)
   simp only [if_true, List.append_nil, List.length_nil]
   refine ⟨.nstr none, ?_, rfl, (fun h => by cases h), rfl, zdz _ _ _ _ (by decide)⟩
   unfold Txt.rd zbv
   cases fl with
   | true => simp only [Bool.and_true, if_true]; rw [cnstr_rs0]
   | false => simp only [Bool.false_and, Bool.false_eq_true, if_false, if_true]; rw [nstr_rs0]
  | false =>
   have hp := zdz fl false (zbx t.s).length 2 (by decide)
   simp only [Bool.false_eq_true, if_false, List.append_assoc]
   refine ⟨.nstr (some (zbx t.s)), ?_, rfl, fun _ => rfl, rfl, by rw [List.length_append]; omega⟩
   unfold Txt.rd zbv
   cases fl with
   | true => simp only [Bool.and_false, Bool.false_eq_true, if_false, if_true]; rw [cnstr_rs hw]
   | false => simp only [Bool.and_false, Bool.false_eq_true, if_false]; rw [nstr_rs hw]
 | byt =>
  have hk : kind = 9 := hk
  subst hk
  have hn := hn (.inr rfl)
  subst hn
  rw [valB_byt]
  simp only [Bool.false_eq_true, if_false, List.append_assoc]
  have hp := zdz fl false (zbx t.s).length 4 (by decide)
  refine ⟨.oct (some (zbx t.s)), ?_, rfl, fun _ => rfl, rfl, by rw [List.length_append]; omega⟩
  unfold Txt.rd zbv
  cases fl with
  | true => simp only [Bool.and_false, Bool.false_eq_true, if_false, if_true]; rw [cbyt_rs hw]
  | false => simp only [Bool.and_false, Bool.false_eq_true, if_false]; rw [byt_rs hw]
 | nbyt =>
  have hk : kind = 9 := hk
  subst hk
  rw [valB_byt]
  cases null with
  | true =>
   simp only [if_true, List.append_nil, List.length_nil]
   refine ⟨.oct none, ?_, rfl, (fun h => by cases h), rfl, zdz _ _ _ _ (by decide)⟩
   unfold Txt.rd zbv
   cases fl with
   | true => simp only [Bool.and_true, if_true]; rw [cnbyt_rs0]
   | false => simp only [Bool.false_and, Bool.false_eq_true, if_false, if_true]; rw [nbyt_rs0]
  | false =>
   have hp := zdz fl false (zbx t.s).length 4 (by decide)
   simp only [Bool.false_eq_true, if_false, List.append_assoc]
   refine ⟨.oct (some (zbx t.s)), ?_, rfl, fun _ => rfl, rfl, by rw [List.length_append]; omega⟩
   unfold Txt.rd zbv
   cases fl with
   | true => simp only [Bool.and_false, Bool.false_eq_true, if_false, if_true]; rw [cnbyt_rs hw]
   | false => simp only [Bool.and_false, Bool.false_eq_true, if_false]; rw [nbyt_rs hw]
theorem zqt {k : Nat} {x : List UInt8} : ∀ {a : List (Nat × List UInt8)}, (a.map Prod.fst).Pairwise (· < ·) → ((insT k x a).map Prod.fst).Pairwise (· < ·)
 | [], _ => by simp [insT]
 | (k', y) :: a, h => by
  rw [List.map_cons, List.pairwise_cons] at h
  rw [insT]
  split
  ·rw [List.map_cons, List.pairwise_cons]
   refine ⟨fun z hz => ?_, zqt h.2⟩
   obtain ⟨p, hp, rfl⟩ := List.mem_map.1 hz
   rcases ztz hp with rfl | hp
   ·assumption
   ·exact h.1 _ (List.mem_map.2 ⟨p, hp, rfl⟩)
  ·split
   ·rw [List.map_cons, List.pairwise_cons]; exact h
   ·rw [List.map_cons, List.map_cons, List.pairwise_cons, List.pairwise_cons]
    refine ⟨fun z hz => ?_, h⟩
    rcases List.mem_cons.1 hz with e | hz
    ·rw [e]; show k < k'; omega
    ·have := h.1 z hz
     show k < z
     have h2 : k' < z := this
     omega
theorem zqw : ∀ (u a : List (Nat × List UInt8)), (a.map Prod.fst).Pairwise (· < ·) → ((u.foldl (fun a x => insT x.1 x.2 a) a).map Prod.fst).Pairwise (· < ·)
 | [], a, h => h
 | x :: u, a, h => zqw u _ (zqt h)
theorem zqd (u : List (Nat × List UInt8)) : ((unkT u).map Prod.fst).Pairwise (· < ·) := zqw _ _ (by simp)
theorem tagsN_rs (r : List UInt8) : ∀ (l acc : List (Nat × List UInt8)), (∀ x ∈ l, x.1 < 4294967296) → ((acc ++ l).map Prod.fst).Nodup →
  zrv l.length acc (rs (l.flatMap tagB ++ r)) = (acc ++ l.map (fun x => (x.1, zbx x.2)), rs r)
 | [], acc, _, _ => by simp [zrv]
 | x :: l, acc, hk, hn => by
  rw [List.length_cons, zrv, List.flatMap_cons, tagB]
  simp only [List.append_assoc]
  rw [zmd (hk x (by simp))]
  have hw := zlj x.2
  rw [zmd (n := (zbx x.2).length) (by omega)]
  simp only []
  rw [zng, ziq]
  have hne : (acc.map Prod.fst).contains x.1 = false := by
   rw [List.map_append, List.nodup_append] at hn
   have := hn.2.2
   simp only [List.contains_eq_mem, decide_eq_false_iff_not]
   intro hc
   exact this _ hc x.1 (by simp) rfl
  have hp : tput acc x.1 (zbx x.2) = acc ++ [(x.1, zbx x.2)] := by unfold tput; rw [hne]; simp
  rw [hp, tagsN_rs r l _ (fun y hy => hk y (by simp [hy])) (by simpa using hn)]
  simp
theorem tagsR_rs (u : List (Nat × List UInt8)) (hk : ∀ x ∈ u, x.1 < 4294967296) (r : List UInt8) : zru (rs ((uvB (unkT u).length ++ (unkT u).flatMap tagB) ++ r)) = ((unkT u).map (fun x => (x.1, zbx x.2)), rs r) := by
 have hl := zth u
 unfold zru
 rw [List.append_assoc, zmd (by omega)]
 simp only []
 rw [tagsN_rs r (unkT u) [] (fun x hx => hk x (ztg hx)) (by
  rw [List.nil_append]
  exact (zqd u).imp (fun h => Nat.ne_of_lt h))]
 simp
theorem zwr {l : List (Nat × List UInt8)} (h : (l.map Prod.fst).Pairwise (· < ·)) : zdh l = l := by
 unfold zdh
 refine List.mergeSort_of_pairwise ?_
 rw [List.pairwise_map] at h
 exact h.imp fun h => by simpa using Nat.le_of_lt h
def Ty.dflB : Ty → Fld → Bool
 | .pr k d, f => zkc k f.kind && (if k = .uuid then decide (((Ty.pr k d).tr (Ty.iniV (.pr k d))).s = List.replicate 16 0) else decide (((Ty.pr k d).tr (Ty.iniV (.pr k d))).n = numK f.kind f.dflt))
 | .txt .str, f => decide (f.kind = 8) && decide (f.null < 0)
 | .txt .nstr, f => decide (f.kind = 8) && decide (0 ≤ f.null)
 | .txt _, f => decide (f.kind = 9)
 | .arr .., f => decide (f.kind = 11)
 | .row .., _ => false
mutual
def Ty.matB (fl : Bool) (ver : Int) : Ty → Fld → Bool
 | .pr k _, f => zkc k f.kind && !f.may ver
 | .txt .str, f => decide (f.kind = 8) && !f.may ver
 | .txt .nstr, f => decide (f.kind = 8)
 | .txt .byt, f => decide (f.kind = 9) && !f.may ver
 | .txt .nbyt, f => decide (f.kind = 9)
 | .arr _ nul e, f => decide (f.kind = 11) && (match nul with | none => !f.may ver | some k => !f.may ver || decide (k ≤ ver)) && e.matB fl ver f.of f.sub
 | .row .., _ => false
def El.matB (fl : Bool) (ver : Int) : El → Int → List Fld → Bool
 | .pr k, o, _ => zkc k o
 | .txt .str, o, _ => decide (o = 8)
 | .txt .nstr, o, _ => decide (o = 8)
 | .txt _, o, _ => decide (o = 9)
 | .row _ _ _ fs, o, sub => decide (o = 10) && fs.matB fl ver sub && (fl || sub.any fun f => f.has ver)
def Fds.matB (fl : Bool) (ver : Int) : Fds → List Fld → Bool
 | .nil, [] => !fl
 | .tags, [] => true
 | .cons g ty r, f :: fs => (g.on ver == f.has ver) && (if f.has ver then ty.matB fl ver f else ty.dflB f) && r.matB fl ver fs
 | _, _ => false
end
theorem dfl_usual : ∀ {ty : Ty} {f : Fld}, ty.dflB f = true → zkg f (ty.tr ty.iniV)
 | .pr k d, f, h => by
  simp only [Ty.dflB, Bool.and_eq_true] at h
  obtain ⟨h1, h2⟩ := h
  unfold zkg
  cases k with
  | uuid =>
   have hk : f.kind = 7 := by simpa [zkc] using h1
   rw [if_neg (by omega), if_pos hk]
   simpa using h2
  | bool =>
   have hk : f.kind = 0 := by simpa [zkc] using h1
   rw [if_neg (by omega), if_neg (by omega), if_neg (by omega)]
   simpa using h2
  | i8 =>
   have hk : f.kind = 1 := by simpa [zkc] using h1
   rw [if_neg (by omega), if_neg (by omega), if_neg (by omega)]
   simpa using h2
  | i16 =>
   have hk : f.kind = 2 := by simpa [zkc] using h1
   rw [if_neg (by omega), if_neg (by omega), if_neg (by omega)]
   simpa using h2
  | i32 =>
   have hk : f.kind = 3 := by simpa [zkc] using h1
   rw [if_neg (by omega), if_neg (by omega), if_neg (by omega)]
   simpa using h2
  | i64 =>
   have hk : f.kind = 4 := by simpa [zkc] using h1
   rw [if_neg (by omega), if_neg (by omega), if_neg (by omega)]
   simpa using h2
 | .txt .str, f, h => by
  simp only [Ty.dflB, Bool.and_eq_true, decide_eq_true_eq] at h
  unfold zkg
  rw [if_pos h.1]
  exact ⟨by show false = _; rw [decide_eq_false (by omega)], rfl⟩
 | .txt .nstr, f, h => by
  simp only [Ty.dflB, Bool.and_eq_true, decide_eq_true_eq] at h
  unfold zkg
  rw [if_pos h.1]
  exact ⟨by show true = _; rw [decide_eq_true h.2], rfl⟩
 | .txt .byt, f, h => by
  simp only [Ty.dflB, decide_eq_true_eq] at h
  unfold zkg
  rw [if_neg (by omega), if_neg (by omega), if_pos (.inl h)]
  exact ⟨rfl, rfl⟩
 | .txt .nbyt, f, h => by
  simp only [Ty.dflB, decide_eq_true_eq] at h
  unfold zkg
  rw [if_neg (by omega), if_neg (by omega), if_pos (.inl h)]
  exact ⟨rfl, rfl⟩
 | .arr .., f, h => by
  simp only [Ty.dflB, decide_eq_true_eq] at h
  unfold zkg
  rw [if_neg (by omega), if_neg (by omega), if_pos (.inr h)]
  exact ⟨rfl, rfl⟩
 | .row .., f, h => by simp [Ty.dflB] at h
theorem zqe {flex : Bool} {v : Int} : ∀ {fs : List Fld} {i : Nat} {t g : Tr}, (∀ (j : Nat) (f : Fld) (y : Tr), fs[j]? = some f → g.l[i + j]? = some y → if f.has v then zuq flex v f (atT t (i + j)) y else zkg f y) → zqf flex v fs i t g
 | [], _, _, _, _ => by rw [zqf]; trivial
 | f :: r, i, t, g, h => by
  rw [zqf]
  refine ⟨fun y hy => by have := h 0 f y rfl (by simpa using hy); simpa using this, zqe fun j f' y hf hy => ?_⟩
  have := h (j + 1) f' y (by simpa using hf) (by rwa [show i + (j + 1) = i + 1 + j by omega])
  rwa [show i + (j + 1) = i + 1 + j by omega] at this
def zik (flex : Bool) (v : Int) (fs : List Fld) (i : Nat) (t : Tr) : List UInt8 := zct flex v fs i t ++ if flex then uvB (unkT t.u).length ++ (unkT t.u).flatMap tagB else []
def TyRd (fl : Bool) (ver : Int) (ty : Ty) (f : Fld) : Prop := ∀ (t : Tr) (r : List UInt8), wfT t →
 ∃ v, ty.rd ver fl (rs (zeo fl ver f t ++ r)) = some (v, rs r) ∧ zuq fl ver f t (ty.tr v) ∧ 0 < (zeo fl ver f t).length
def ElRd (fl : Bool) (ver : Int) (e : El) (o : Int) (sub : List Fld) : Prop := ∀ (t : Tr) (r : List UInt8), wfT t →
 ∃ v, e.rd ver fl (rs (valB fl o (zdn fl ver sub) false t ++ r)) = some (v, rs r) ∧ ((o = 8 ∨ o = 10 → (e.tr v).nl = false) ∧ zlx o (zwm fl ver sub) t (e.tr v)) ∧ 0 < (valB fl o (zdn fl ver sub) false t).length
def FdsRd (fl : Bool) (ver : Int) (fs : Fds) (sf : List Fld) : Prop := ∀ (i : Nat) (t : Tr) (r : List UInt8), wfT t →
 ∃ l, fs.rd ver fl (rs (zik fl ver sf i t ++ r)) = some (l, rs r) ∧ (fs.trs l).length = sf.length ∧ fs.tgs l = zup fl t.u ∧
  ∀ (j : Nat) (f : Fld) (y : Tr), sf[j]? = some f → (fs.trs l)[j]? = some y → if f.has ver then zuq fl ver f (atT t (i + j)) y else zkg f y
theorem rdN_rs {e : El} {fl : Bool} {ver o : Int} {sub : List Fld} (he : ElRd fl ver e o sub) : ∀ (l : List Tr) (r : List UInt8), (∀ x ∈ l, wfT x) →
  ∃ vs, rdN (e.rd ver fl) l.length (rs (l.flatMap (valB fl o (zdn fl ver sub) false) ++ r)) = some (vs, rs r) ∧ vs.length = l.length ∧ l.length ≤ (l.flatMap (valB fl o (zdn fl ver sub) false)).length ∧
   ∀ (i : Nat) (x z : Tr), l[i]? = some x → (vs.map e.tr)[i]? = some z → (o = 8 ∨ o = 10 → z.nl = false) ∧ zlx o (zwm fl ver sub) x z
 | [], r, _ => ⟨[], rfl, rfl, Nat.zero_le _, fun i x z hx => by simp at hx⟩
 | x :: l, r, hw => by
  obtain ⟨v, h1, h2, h3⟩ := he x (l.flatMap (valB fl o (zdn fl ver sub) false) ++ r) (hw x (by simp))
  obtain ⟨vs, g1, g2, g3, g4⟩ := rdN_rs he l r fun y hy => hw y (by simp [hy])
  refine ⟨v :: vs, ?_, by simp [g2], ?_, fun i y z hy hz => ?_⟩
  ·rw [List.length_cons, rdN, List.flatMap_cons, List.append_assoc, h1]
   simp only [g1]
  ·rw [List.flatMap_cons, List.length_append, List.length_cons]; omega
  ·cases i with
   | zero => simp at hy hz; subst hy hz; exact h2
   | succ i => exact g4 i y z (by simpa using hy) (by simpa using hz)
theorem zvn {fl : Bool} {ver : Int} {f : Fld} {t : Tr} (h : f.kind ≠ 11) : zeo fl ver f t = valB fl f.kind (zdn fl ver f.sub) (f.nullB ver t) t := zop h
theorem znu {f : Fld} {ver : Int} {t : Tr} (h : f.may ver = false) : f.nullB ver t = false := by
 unfold Fld.may at h; unfold Fld.nullB; rw [Bool.and_assoc, h]; simp
theorem kind_of {k : PK} {n : Int} (h : zkc k n = true) : n ≠ 11 ∧ n ≠ 8 ∧ n ≠ 10 ∧ n ≠ 9 := by
 cases k <;> simp [zkc] at h <;> omega
theorem pr_told {k : PK} {f : Fld} {fl : Bool} {ver : Int} (h : zkc k f.kind = true) (hm : f.may ver = false) (d : Option Value) : TyRd fl ver (.pr k d) f := by
 intro t r hw
 obtain ⟨h11, h8, h10, _⟩ := kind_of h
 rw [zvn h11, znu hm]
 obtain ⟨v, h1, h2, h3, h4⟩ := pr_rd h fl (zdn fl ver f.sub) (zwm fl ver f.sub) false hw r
 refine ⟨.num v, by rw [Ty.rd, h1], ?_, h4⟩
 rw [zlk, znu hm]
 refine ⟨fun hc => ?_, fun _ => by rw [if_neg h11]; exact h2⟩
 rcases hc with hc | hc | hc
 ·exact absurd hc h8
 ·exact absurd hc h10
 ·rw [hm] at hc; cases hc
theorem zps {k : Txt} {f : Fld} {fl : Bool} {ver : Int} (hk : f.kind = k.kind) (hm : k = .str ∨ k = .byt → f.may ver = false) : TyRd fl ver (.txt k) f := by
 intro t r hw
 have h89 : f.kind = 8 ∨ f.kind = 9 := by rw [hk]; cases k <;> simp [Txt.kind]
 have h11 : f.kind ≠ 11 := by omega
 rw [zvn h11]
 obtain ⟨v, h1, h2, h3, _, h4⟩ := txt_rs k fl (f.nullB ver t) (fun h => znu (hm h)) (zdn fl ver f.sub) t r f.kind hk
 refine ⟨v, by rw [Ty.rd, h1], ?_, h4⟩
 rw [zlk]
 refine ⟨fun _ => h2, fun hn => ?_⟩
 rw [if_neg h11, zlx, if_pos h89]
 exact h3 hn
mutual
theorem Ty.rd_of {fl : Bool} {ver : Int} : ∀ (ty : Ty) (f : Fld), ty.matB fl ver f = true → TyRd fl ver ty f
 | .pr k d, f, h => by
  simp only [Ty.matB, Bool.and_eq_true, Bool.not_eq_true'] at h
  exact pr_told h.1 h.2 d
 | .txt .str, f, h => by
  simp only [Ty.matB, Bool.and_eq_true, Bool.not_eq_true', decide_eq_true_eq] at h
  exact zps h.1 fun _ => h.2
 | .txt .nstr, f, h => by
  simp only [Ty.matB, decide_eq_true_eq] at h
  exact zps h fun hc => by rcases hc with hc | hc <;> cases hc
 | .txt .byt, f, h => by
  simp only [Ty.matB, Bool.and_eq_true, Bool.not_eq_true', decide_eq_true_eq] at h
  exact zps h.1 fun _ => h.2
 | .txt .nbyt, f, h => by
  simp only [Ty.matB, decide_eq_true_eq] at h
  exact zps h fun hc => by rcases hc with hc | hc <;> cases hc
 | .arr st nul e, f, h => by
  simp only [Ty.matB, Bool.and_eq_true, decide_eq_true_eq] at h
  obtain ⟨⟨h11, hnul⟩, he⟩ := h
  have he := El.rd_of e f.of f.sub he
  intro t r hw
  rw [zmv h11]
  have hlz : (zeb t.l).length ≤ 32767 := by simp [zeb, most]; omega
  cases hnb : f.nullB ver t with
  | true =>
   have hmay : f.may ver = true := by
    cases hm : f.may ver with
    | true => rfl
    | false => rw [znu hm] at hnb; cases hnb
   have hk : ∃ k, nul = some k ∧ k ≤ ver := by
    cases nul with
    | none => simp [hmay] at hnul
    | some k => exact ⟨k, rfl, by simpa [hmay] using hnul⟩
   obtain ⟨k, rfl, hk⟩ := hk
   simp only [if_true, List.length_nil, List.flatMap_nil, List.append_nil]
   have hx : (if fl then zmx (rs (zbv fl true 0 4 ++ r)) else arrR (rs (zbv fl true 0 4 ++ r))) = (-1, rs r) := by
    unfold zbv
    cases fl with
    | true => simp only [Bool.and_true, if_true]; exact carr_rs0 r
    | false => simp only [Bool.false_and, Bool.false_eq_true, if_false, if_true]; exact arr_rs0 r
   refine ⟨.nilA, ?_, ?_, zdz _ _ _ _ (by decide)⟩
   ·unfold Ty.rd; rw [hx]
    simp only [rs, Bool.false_eq_true, if_false]
    rw [if_neg (by decide)]
    try simp only
    rw [if_neg (by omega)]
   ·rw [zlk, hnb]
    exact ⟨fun _ => rfl, fun hc => by cases hc⟩
  | false =>
   simp only [Bool.false_eq_true, if_false]
   obtain ⟨l, hl⟩ : ∃ l, l = zeb t.l := ⟨_, rfl⟩
   rw [← hl] at hlz ⊢
   have hwl : ∀ x ∈ l, wfT x := fun x hx => hw.l x (by rw [hl] at hx; exact List.mem_of_mem_take hx)
   obtain ⟨vs, g1, g2, g3, g4⟩ := rdN_rs he l r hwl
   rw [List.append_assoc]
   have hx : (if fl then zmx (rs (zbv fl false l.length 4 ++ (l.flatMap (valB fl f.of (zdn fl ver f.sub) false) ++ r))) else arrR (rs (zbv fl false l.length 4 ++ (l.flatMap (valB fl f.of (zdn fl ver f.sub) false) ++ r)))) = ((l.length : Int), rs (l.flatMap (valB fl f.of (zdn fl ver f.sub) false) ++ r)) := by
    unfold zbv
    cases fl with
    | true => simp only [Bool.and_false, Bool.false_eq_true, if_false, if_true]; exact carr_rs hlz (by rw [List.length_append]; omega)
    | false => simp only [Bool.and_false, Bool.false_eq_true, if_false]; exact arr_rs hlz (by rw [List.length_append]; omega)
   have hpos : 0 < (zbv fl false l.length 4 ++ l.flatMap (valB fl f.of (zdn fl ver f.sub) false)).length := by
    have := zdz fl false l.length 4 (by decide)
    rw [List.length_append]; omega
   by_cases h0 : l.length = 0
   ·have hl0 : l = [] := List.length_eq_zero_iff.1 h0
    rw [hl0] at hx g1 hpos ⊢
    simp only [List.length_nil, List.flatMap_nil, List.nil_append] at hx g1 hpos ⊢
    cases nul with
    | none =>
     have hm : f.may ver = false := by simpa using hnul
     refine ⟨.nilA, ?_, ?_, by simpa using hpos⟩
     ·unfold Ty.rd; rw [hx]
      simp only [rs, Bool.false_eq_true, if_false]
      rw [if_neg (by decide)]
     ·rw [zlk, hnb]
      refine ⟨fun hc => ?_, fun _ => ?_⟩
      ·rcases hc with hc | hc | hc
       ·omega
       ·omega
       ·rw [hm] at hc; cases hc
      ·rw [if_pos h11, ← hl, hl0]
       exact ⟨rfl, fun i x z hx => by simp at hx⟩
    | some k =>
     refine ⟨.arr e.sz [], ?_, ?_, by simpa using hpos⟩
     ·unfold Ty.rd; rw [hx]
      simp only [rs, Bool.false_eq_true, if_false]
      rw [if_neg (by decide)]
      simp
     ·rw [zlk, hnb]
      refine ⟨fun hc => rfl, fun _ => ?_⟩
      rw [if_pos h11, ← hl, hl0]
      exact ⟨rfl, fun i x z hx => by simp at hx⟩
   ·refine ⟨.arr e.sz vs, ?_, ?_, hpos⟩
    ·unfold Ty.rd; rw [hx]
     simp only [rs, Bool.false_eq_true, if_false]
     rw [if_pos (by omega)]
     have : ((l.length : Nat) : Int).toNat = l.length := by omega
     simp only [rs] at g1
     rw [this, g1]
    ·rw [zlk, hnb]
     refine ⟨fun _ => rfl, fun _ => ?_⟩
     rw [if_pos h11, ← hl]
     refine ⟨by show (vs.map e.tr).length = _; rw [List.length_map, g2], fun i x z hx hz => g4 i x z hx hz⟩
 | .row .., f, h => by simp [Ty.matB] at h
theorem El.rd_of {fl : Bool} {ver : Int} : ∀ (e : El) (o : Int) (sub : List Fld), e.matB fl ver o sub = true → ElRd fl ver e o sub
 | .pr k, o, sub, h => by
  simp only [El.matB] at h
  intro t r hw
  obtain ⟨h11, h8, h10, _⟩ := kind_of h
  obtain ⟨v, h1, h2, h3, h4⟩ := pr_rd h fl (zdn fl ver sub) (zwm fl ver sub) false hw r
  exact ⟨.num v, by rw [El.rd, h1], ⟨fun hc => h3, h2⟩, h4⟩
 | .txt k, o, sub, h => by
  have hk : o = k.kind := by cases k <;> simpa [El.matB, Txt.kind] using h
  intro t r hw
  have h89 : o = 8 ∨ o = 9 := by rw [hk]; cases k <;> simp [Txt.kind]
  obtain ⟨v, h1, h2, h3, h5, h4⟩ := txt_rs k fl false (fun _ => rfl) (zdn fl ver sub) t r o hk
  refine ⟨v, by rw [El.rd, h1], ⟨fun _ => by rw [h5]; exact h2, ?_⟩, h4⟩
  rw [h5, zlx, if_pos h89]
  exact h3 rfl
 | .row T pT d fs, o, sub, h => by
  simp only [El.matB, Bool.and_eq_true, decide_eq_true_eq] at h
  obtain ⟨⟨h10, hfs⟩, hne⟩ := h
  have hfs' := Fds.rd_of fs sub hfs
  intro t r hw
  have hv : valB fl o (zdn fl ver sub) false t = zik fl ver sub 0 t := by rw [h10]; simp [valB, zdn, endB, zik]
  rw [hv]
  obtain ⟨l, h1, h2, h3, h4⟩ := hfs' 0 t r hw
  refine ⟨.row l, by rw [El.rd, h1], ⟨fun _ => rfl, ?_⟩, ?_⟩
  ·rw [zlx, if_neg (by omega), if_neg (by omega), if_pos h10]
   refine ⟨h2, zqe fun j f y hf hy => ?_, h3⟩
   have := h4 j f y hf (by rw [Nat.zero_add] at hy; exact hy)
   exact this
  ·unfold zik
   rw [List.length_append]
   cases fl with
   | true => have := zwl (unkT t.u).length; simp only [if_true, List.length_append]; omega
   | false =>
    simp only [Bool.false_or, List.any_eq_true] at hne
    obtain ⟨f, hf, hhas⟩ := hne
    have := Fds.pos_of fs sub hfs 0 t hw f hf hhas
    omega
theorem Fds.pos_of {fl : Bool} {ver : Int} : ∀ (fs : Fds) (sf : List Fld), fs.matB fl ver sf = true → ∀ (i : Nat) (t : Tr), wfT t → ∀ f ∈ sf, f.has ver = true → 0 < (zct fl ver sf i t).length
 | .nil, [], _, _, _, _, f, hf, _ => by cases hf
 | .tags, [], _, _, _, _, f, hf, _ => by cases hf
 | .cons g ty r, f' :: sf, h, i, t, hw, f, hf, hh => by
  simp only [Fds.matB, Bool.and_eq_true, beq_iff_eq] at h
  obtain ⟨⟨hg, hty⟩, hr⟩ := h
  rw [zct, List.length_append]
  rcases List.mem_cons.1 hf with e | hf
  ·subst e
   rw [hh] at hty
   simp only [if_true] at hty
   rw [hh, if_pos rfl]
   obtain ⟨v, _, _, h4⟩ := Ty.rd_of ty f hty (atT t i) [] (hw.at i)
   omega
  ·have := Fds.pos_of r sf hr (i + 1) t hw f hf hh
   omega
 | .nil, _ :: _, h, _, _, _, _, _, _ => by simp [Fds.matB] at h
 | .tags, _ :: _, h, _, _, _, _, _, _ => by simp [Fds.matB] at h
 | .cons .., [], h, _, _, _, _, _, _ => by simp [Fds.matB] at h
theorem Fds.rd_of {fl : Bool} {ver : Int} : ∀ (fs : Fds) (sf : List Fld), fs.matB fl ver sf = true → FdsRd fl ver fs sf
 | .nil, [], h => by
  have h : fl = false := by simpa [Fds.matB] using h
  subst h
  intro i t r hw
  refine ⟨[], ?_, rfl, ?_, fun j f y hf => by simp at hf⟩
  ·simp [zik, zct, Fds.rd]
  ·simp [Fds.tgs, zup]
 | .tags, [], _ => by
  intro i t r hw
  cases fl with
  | true =>
   refine ⟨[.tags ((unkT t.u).map fun x => (x.1, zbx x.2))], ?_, rfl, ?_, fun j f y hf => by simp at hf⟩
   ·simp only [zik, zct, Fds.rd, if_true, List.nil_append]
    rw [tagsR_rs t.u hw.u r]
   ·simp only [Fds.tgs, zup, if_true]
    refine zwr ?_
    have := zqd t.u
    rw [List.map_map]
    exact this
  | false =>
   refine ⟨[.tags []], ?_, rfl, ?_, fun j f y hf => by simp at hf⟩
   ·simp [zik, zct, Fds.rd]
   ·simp [Fds.tgs, zup, zdh]
 | .cons g ty r', f :: sf, h => by
  simp only [Fds.matB, Bool.and_eq_true, beq_iff_eq] at h
  obtain ⟨⟨hg, hty⟩, hr⟩ := h
  have hr' := Fds.rd_of r' sf hr
  intro i t r hw
  obtain ⟨l, h1, h2, h3, h4⟩ := hr' (i + 1) t r hw
  have key : ∀ v, (if g.on ver then ty.rd ver fl (rs (zik fl ver (f :: sf) i t ++ r)) else some (ty.iniV, rs (zik fl ver (f :: sf) i t ++ r))) = some (v, rs (zik fl ver sf (i + 1) t ++ r)) → (if f.has ver then zuq fl ver f (atT t i) (ty.tr v) else zkg f (ty.tr v)) →
    ∃ l, (Fds.cons g ty r').rd ver fl (rs (zik fl ver (f :: sf) i t ++ r)) = some (l, rs r) ∧ ((Fds.cons g ty r').trs l).length = (f :: sf).length ∧ (Fds.cons g ty r').tgs l = zup fl t.u ∧
     ∀ (j : Nat) (f' : Fld) (y : Tr), (f :: sf)[j]? = some f' → ((Fds.cons g ty r').trs l)[j]? = some y → if f'.has ver then zuq fl ver f' (atT t (i + j)) y else zkg f' y := by
   intro v hv ht
   refine ⟨v :: l, ?_, ?_, h3, fun j f' y hf' hy => ?_⟩
   ·rw [Fds.rd, hv]
    simp only [h1]
   ·show (ty.tr v :: r'.trs l).length = _
    simp [h2]
   ·cases j with
    | zero =>
     simp at hf'
     have hy : some (ty.tr v) = some y := hy
     injection hy with hy
     subst hf' hy
     exact ht
    | succ j =>
     have := h4 j f' y (by simpa using hf') hy
     rwa [show i + 1 + j = i + (j + 1) by omega] at this
  cases hh : f.has ver with
  | true =>
   rw [hh] at hty hg
   simp only [if_true] at hty
   obtain ⟨v, g1, g2, _⟩ := Ty.rd_of ty f hty (atT t i) (zik fl ver sf (i + 1) t ++ r) (hw.at i)
   refine key v ?_ (by rw [hh]; exact g2)
   rw [hg, if_pos rfl]
   have : zik fl ver (f :: sf) i t ++ r = zeo fl ver f (atT t i) ++ (zik fl ver sf (i + 1) t ++ r) := by
    unfold zik; rw [zct, hh]; simp only [if_true, List.append_assoc]
   rw [this]; exact g1
  | false =>
   rw [hh] at hty hg
   simp only [Bool.false_eq_true, if_false] at hty
   refine key ty.iniV ?_ (by rw [hh]; simpa using dfl_usual hty)
   rw [hg]
   simp only [Bool.false_eq_true, if_false]
   have : zik fl ver (f :: sf) i t = zik fl ver sf (i + 1) t := by
    unfold zik; rw [zct, hh]; simp
   rw [this]
 | .nil, _ :: _, h => by simp [Fds.matB] at h
 | .tags, _ :: _, h => by simp [Fds.matB] at h
 | .cons .., [], h => by simp [Fds.matB] at h
end
def Fds.offB (fl : Bool) (ver : Int) : Fds → Bool
 | .nil => true
 | .tags => !fl
 | .cons g _ r => !g.on ver && r.offB fl ver
theorem Fds.off_rd {fl : Bool} {ver : Int} : ∀ {l : Fds}, l.offB fl ver = true → ∃ x, ∀ s, l.rd ver fl s = some (x, s)
 | .nil, _ => ⟨_, fun _ => by rw [Fds.rd]⟩
 | .tags, h => by simp only [Fds.offB, Bool.not_eq_true'] at h; exact ⟨[.tags []], fun s => by rw [Fds.rd, h]; rfl⟩
 | .cons g ty r, h => by
  simp only [Fds.offB, Bool.and_eq_true, Bool.not_eq_true'] at h
  obtain ⟨x, hx⟩ := Fds.off_rd h.2
  exact ⟨ty.iniV :: x, fun s => by rw [Fds.rd, h.1]; simp [hx]⟩
theorem msg_rd {m : Msg} {fx : Bool} {ver : Int} {sf : List Fld} {t : Tr} (hw : wfT t) (hm : m.fs.matB (fx && decide (ver ≥ m.fl)) ver sf = true) :
  ((fx && decide (ver ≥ m.fl)) = true ∨ (sf.any fun f => f.has ver) = true → zdn (fx && decide (ver ≥ m.fl)) ver sf t ≠ []) ∧ ∃ l, m.rd fx ver (rs (zdn (fx && decide (ver ≥ m.fl)) ver sf t)) = some l ∧ zwm (fx && decide (ver ≥ m.fl)) ver sf t (m.fs.tr l) := by
 obtain ⟨fl, hfl⟩ : ∃ fl, fl = (fx && decide (ver ≥ m.fl)) := ⟨_, rfl⟩
 rw [← hfl] at hm ⊢
 have hp : zdn fl ver sf t = zik fl ver sf 0 t := by simp [zdn, endB, zik]
 obtain ⟨l, h1, h2, h3, h4⟩ := Fds.rd_of m.fs sf hm 0 t [] hw
 rw [List.append_nil] at h1
 rw [hp]
 refine ⟨fun hne he => ?_, l, ?_, ?_⟩
 ·have hl : 0 < (zik fl ver sf 0 t).length := by
   unfold zik
   rw [List.length_append]
   rcases hne with hne | hne
   ·have := zwl (unkT t.u).length; rw [hne]; simp only [if_true, List.length_append]; omega
   ·rw [List.any_eq_true] at hne
    obtain ⟨f, hf, hh⟩ := hne
    have := Fds.pos_of m.fs sf hm 0 t hw f hf hh
    omega
  rw [he] at hl; simp at hl
 ·unfold Msg.rd
  rw [← hfl, h1]
  simp [rs]
 ·refine ⟨h2, zqe fun j f y hf hy => ?_, h3⟩
  exact h4 j f y hf (by rw [Nat.zero_add] at hy; exact hy)
def szU (u : List (Nat × List UInt8)) : Nat := (u.map fun x => 1 + x.2.length).sum
mutual
def szT : Tr → Nat
 | .mk _ s _ l u => 1 + s.length + szTs l + szU u
def szTs : List Tr → Nat
 | [] => 0
 | t :: l => szT t + szTs l
end
theorem zsf (t : Tr) : szT t = 1 + t.s.length + szTs t.l + szU t.u := by cases t; rfl
theorem zwo (t : Tr) : 1 ≤ szT t := by rw [zsf]; omega
theorem szU_ins (k : Nat) (x : List UInt8) : ∀ a : List (Nat × List UInt8), szU (insT k x a) ≤ szU a + (1 + x.length)
 | [] => by simp [insT, szU]
 | (k', y) :: a => by
  have ih := szU_ins k x a
  rw [insT]
  split
  ·simp only [szU, List.map_cons, List.sum_cons] at ih ⊢; omega
  ·split
   ·omega
   ·simp only [szU, List.map_cons, List.sum_cons]; omega
theorem szU_fold : ∀ u a : List (Nat × List UInt8), szU (u.foldl (fun a x => insT x.1 x.2 a) a) ≤ szU a + szU u
 | [], a => by simp [szU]
 | x :: u, a => by
  have h1 := szU_ins x.1 x.2 a
  have h2 := szU_fold u (insT x.1 x.2 a)
  have e : szU (x :: u) = 1 + x.2.length + szU u := by simp [szU]
  rw [List.foldl_cons]; omega
theorem szU_take (n : Nat) : ∀ u : List (Nat × List UInt8), szU (u.take n) ≤ szU u := by
 induction n with
 | zero => intro u; simp [szU]
 | succ n ih =>
  intro u
  cases u with
  | nil => simp
  | cons x u => have := ih u; simp only [szU, List.take_succ_cons, List.map_cons, List.sum_cons] at this ⊢; omega
theorem szU_unk (u : List (Nat × List UInt8)) : szU (unkT u) ≤ szU u := by
 have h1 := szU_fold (u.take most) []
 have h2 := szU_take most u
 have : szU ([] : List (Nat × List UInt8)) = 0 := rfl
 unfold unkT; omega
theorem uvB_le {n : Nat} (h : n < 2 ^ 64) : (uvB n).length ≤ 10 := zhv h
theorem tags_len : ∀ (u : List (Nat × List UInt8)), (∀ x ∈ u, x.1 < 4294967296) → (u.flatMap tagB).length ≤ 20 * szU u
 | [], _ => by simp [szU]
 | x :: u, h => by
  have ih := tags_len u fun y hy => h y (by simp [hy])
  have h1 := uvB_le (n := x.1) (by have := h x (by simp); omega)
  have hw := zlj x.2
  have h2 := uvB_le (n := (zbx x.2).length) (by omega)
  have h3 : (zbx x.2).length ≤ x.2.length := by simp [zbx]; omega
  have e : szU (x :: u) = 1 + x.2.length + szU u := by simp [szU]
  rw [List.flatMap_cons, List.length_append, e, tagB]
  simp only [List.length_append]; omega
theorem end_len {flex : Bool} {u : List (Nat × List UInt8)} (h : ∀ x ∈ u, x.1 < 4294967296) : (if flex then uvB (unkT u).length ++ (unkT u).flatMap tagB else []).length ≤ 10 + 20 * szU u := by
 cases flex with
 | false => simp
 | true =>
  have h1 := zth u
  have h2 := uvB_le (n := (unkT u).length) (by omega)
  have h3 := tags_len (unkT u) fun x hx => h x (ztg hx)
  have h4 := szU_unk u
  simp only [if_true, List.length_append]; omega
def K0 : Nat := 40000
theorem zqz (fl null : Bool) (n size : Nat) (hn : n ≤ 32767) (hs : size ≤ 8) : (zbv fl null n size).length ≤ 10 := zpe fl null n size hn hs
theorem valB_len {fl : Bool} {kind : Int} {pt : Tr → List UInt8} {null : Bool} {t : Tr} (hp : kind = 10 → (pt t).length ≤ K0 * szT t) : (valB fl kind pt null t).length ≤ K0 * szT t ∧ (kind ≠ 10 → (valB fl kind pt null t).length ≤ 20 + t.s.length) := by
 have h1 := zwo t
 have hs : t.s.length ≤ szT t := by rw [zsf]; omega
 have hw : (zbx t.s).length ≤ t.s.length := by simp [zbx]; omega
 have hw2 := zlj t.s
 have key : (valB fl kind pt null t).length ≤ 20 + t.s.length → (valB fl kind pt null t).length ≤ K0 * szT t ∧ (kind ≠ 10 → (valB fl kind pt null t).length ≤ 20 + t.s.length) := fun h => ⟨by unfold K0; omega, fun _ => h⟩
 have hc : ∀ size, size ≤ 8 → (zbv fl null (if null then [] else zbx t.s).length size ++ (if null then [] else zbx t.s)).length ≤ 20 + t.s.length := by
  intro size hsz
  have hl : (if null then [] else zbx t.s).length ≤ t.s.length ∧ (if null then [] else zbx t.s).length ≤ 32767 := by cases null <;> simp <;> omega
  have := zqz fl null _ size hl.2 hsz
  rw [List.length_append]; omega
 by_cases e0 : kind = 0
 ·exact key (by rw [valB, if_pos e0]; simp; omega)
 by_cases e7 : kind = 7
 ·exact key (by rw [valB, if_neg e0, if_pos e7]; have := idB_len t.s; unfold idB at this; omega)
 by_cases e8 : kind = 8
 ·exact key (by rw [valB, if_neg e0, if_neg e7, if_pos e8]; exact hc 2 (by decide))
 by_cases e9 : kind = 9
 ·exact key (by rw [valB, if_neg e0, if_neg e7, if_neg e8, if_pos e9]; exact hc 4 (by decide))
 by_cases e10 : kind = 10
 ·rw [valB, if_neg e0, if_neg e7, if_neg e8, if_neg e9, if_pos e10]
  exact ⟨hp e10, fun h => absurd e10 h⟩
 ·refine key ?_
  rw [valB, if_neg e0, if_neg e7, if_neg e8, if_neg e9, if_neg e10, zdw]
  have : zgk kind ≤ 8 := by unfold zgk; (repeat' split) <;> omega
  omega
theorem flat_len {f : Tr → List UInt8} : ∀ {l : List Tr}, (∀ x ∈ l, (f x).length ≤ K0 * szT x) → (l.flatMap f).length ≤ K0 * szTs l
 | [], _ => by simp
 | x :: l, h => by
  have h1 := h x (by simp)
  have h2 := flat_len fun y hy => h y (List.mem_cons_of_mem _ hy)
  rw [List.flatMap_cons, List.length_append, szTs, Nat.mul_add]; omega
theorem szTs_take (n : Nat) : ∀ l : List Tr, szTs (l.take n) ≤ szTs l := by
 induction n with
 | zero => intro l; simp [szTs]
 | succ n ih =>
  intro l
  cases l with
  | nil => simp
  | cons x l => have := ih l; simp only [szTs, List.take_succ_cons]; omega
def zry (t : Tr) (i : Nat) : Nat := szTs (t.l.drop i)
theorem restS_at (t : Tr) (i : Nat) : (i < t.l.length → zry t i = szT (atT t i) + zry t (i + 1)) ∧ (¬ i < t.l.length → atT t i = tr0 ∧ zry t (i + 1) = 0) := by
 refine ⟨fun h => ?_, fun h => ?_⟩
 ·unfold zry atT
  rw [List.drop_eq_getElem_cons h, szTs, List.getD, List.getElem?_eq_getElem h]; rfl
 ·unfold zry atT
  rw [List.getD, List.getElem?_eq_none (by omega), List.drop_of_length_le (by omega)]
  exact ⟨rfl, rfl⟩
mutual
theorem fieldB_len {fl : Bool} {v : Int} : ∀ (f : Fld), okFB f = true → ∀ t, wfT t → (zeo fl v f t).length ≤ K0 * szT t ∧ (t.l = [] → (zeo fl v f t).length ≤ 20 + t.s.length)
 | .mk k fr to n g d o sub, h, t, hw => by
  simp only [okFB, Bool.and_eq_true, decide_eq_true_eq, Bool.or_eq_true] at h
  obtain ⟨⟨h1, h2⟩, h3⟩ := h
  have h1 := zwo t
  by_cases e11 : k = 11
  ·have hp : o = 10 → ∀ x, wfT x → (zdn fl v sub x).length ≤ K0 * szT x := by
    intro ho x hx
    rcases h3 with (h3 | h3) | ⟨h3, h4⟩
    ·exact absurd e11 h3
    ·exact absurd ho h3
    ·have hs : sub.length < 1000 := by simpa using h3
     have hf := zmu (fl := fl) (v := v) sub h4 0 x hx
     have he := end_len (flex := fl) (u := x.u) hx.u
     have hx0 : zry x 0 = szTs x.l := by simp [zry]
     unfold zdn endB
     rw [List.length_append]
     rw [hx0] at hf
     rw [zsf x]
     have : K0 * (1 + x.s.length + szTs x.l + szU x.u) = K0 + K0 * x.s.length + K0 * szTs x.l + K0 * szU x.u := by simp only [Nat.mul_add, Nat.mul_one]
     rw [this]
     have : 20 * szU x.u ≤ K0 * szU x.u := Nat.mul_le_mul_right _ (by decide)
     have : 20 * sub.length + 10 ≤ K0 := by unfold K0; omega
     omega
   have e : zeo fl v (.mk k fr to n g d o sub) t = _ := zmv (f := .mk k fr to n g d o sub) e11
   rw [e]
   obtain ⟨l, hl⟩ : ∃ l, l = (if (Fld.mk k fr to n g d o sub).nullB v t then [] else zeb t.l) := ⟨_, rfl⟩
   rw [← hl]
   have hsub : szTs l ≤ szTs t.l ∧ l.length ≤ 32767 ∧ (∀ x ∈ l, wfT x) ∧ (t.l = [] → l = []) := by
    rw [hl]
    cases (Fld.mk k fr to n g d o sub).nullB v t with
    | true => exact ⟨by simp [szTs], by simp, (fun x hx => by cases hx), fun _ => rfl⟩
    | false => exact ⟨szTs_take most t.l, by simp [zeb, most]; omega, fun x hx => hw.l x (List.mem_of_mem_take hx), fun h => by simp [zeb, h]⟩
   obtain ⟨s1, s2, s3, s4⟩ := hsub
   have hc := zqz fl ((Fld.mk k fr to n g d o sub).nullB v t) l.length 4 s2 (by decide)
   have hfl : (l.flatMap (valB fl o (zdn fl v sub) false)).length ≤ K0 * szTs l := flat_len fun x hx => (valB_len (fun ho => hp ho x (s3 x hx))).1
   have hm : K0 * szTs l ≤ K0 * szTs t.l := Nat.mul_le_mul_left _ s1
   refine ⟨?_, fun h0 => ?_⟩
   ·rw [List.length_append]
    show _ + (l.flatMap (valB fl o (zdn fl v sub) false)).length ≤ _
    rw [zsf t]
    have : K0 * (1 + t.s.length + szTs t.l + szU t.u) = K0 + K0 * t.s.length + K0 * szTs t.l + K0 * szU t.u := by simp only [Nat.mul_add, Nat.mul_one]
    rw [this]
    have : 10 ≤ K0 := by decide
    omega
   ·rw [List.length_append]
    have := s4 h0
    rw [this] at hc ⊢
    simp only [List.flatMap_nil, List.length_nil] at hc ⊢
    omega
  ·have e : zeo fl v (.mk k fr to n g d o sub) t = _ := zop (f := .mk k fr to n g d o sub) e11
   rw [e]
   have := valB_len (fl := fl) (kind := k) (pt := zdn fl v sub) (null := (Fld.mk k fr to n g d o sub).nullB v t) (t := t) (fun hc => absurd hc h2)
   exact ⟨this.1, fun _ => this.2 h2⟩
theorem zmu {fl : Bool} {v : Int} : ∀ (fs : List Fld), zrz fs = true → ∀ (i : Nat) (t : Tr), wfT t → (zct fl v fs i t).length ≤ 20 * fs.length + K0 * zry t i
 | [], _, i, t, _ => by simp [zct]
 | f :: r, h, i, t, hw => by
  simp only [zrz, Bool.and_eq_true] at h
  have h1 := fieldB_len (fl := fl) (v := v) f h.1 (atT t i) (hw.at i)
  have h2 := zmu (fl := fl) (v := v) r h.2 (i + 1) t hw
  rw [zct, List.length_append, List.length_cons]
  have h3 : (if f.has v then zeo fl v f (atT t i) else []).length ≤ (zeo fl v f (atT t i)).length := by split <;> simp
  have hm : 20 * (r.length + 1) = 20 * r.length + 20 := by omega
  rw [hm]
  obtain ⟨r1, r2⟩ := restS_at t i
  by_cases hi : i < t.l.length
  ·rw [r1 hi, Nat.mul_add]
   have h5 := h1.1
   omega
  ·obtain ⟨e1, e2⟩ := r2 hi
   have h4 := h1.2 (by rw [e1]; rfl)
   have e3 : (atT t i).s.length = 0 := by rw [e1]; rfl
   rw [e2] at h2
   have : K0 * 0 = 0 := rfl
   omega
end
theorem partB_len {fl : Bool} {v : Int} {fs : List Fld} (h : zrz fs = true) (hl : fs.length < 1000) {t : Tr} (hw : wfT t) : (zdn fl v fs t).length ≤ K0 * szT t := by
 have hf := zmu (fl := fl) (v := v) fs h 0 t hw
 have he := end_len (flex := fl) (u := t.u) hw.u
 have hx0 : zry t 0 = szTs t.l := by simp [zry]
 unfold zdn endB
 rw [List.length_append]
 rw [hx0] at hf
 rw [zsf t]
 have : K0 * (1 + t.s.length + szTs t.l + szU t.u) = K0 + K0 * t.s.length + K0 * szTs t.l + K0 * szU t.u := by simp only [Nat.mul_add, Nat.mul_one]
 rw [this]
 have : 20 * szU t.u ≤ K0 * szU t.u := Nat.mul_le_mul_right _ (by decide)
 have : 20 * fs.length + 10 ≤ K0 := by unfold K0; omega
 omega
section
open Go Go.RowKit Go.ChangeShapes Go.WideShapes
structure BulkF {H : Type} (B : DataW H → Nat) (BA : List (DataW H) → Nat) : Prop where
 lit : ∀ l, 1 ≤ B (.lit l)
 slice : ∀ e s, B (.slice e s) = BA e + BA s + 1
 agg : ∀ l, B (.agg l) = BA l + 1
 nil : B .nil = 1
 anil : BA [] = 0
 acons : ∀ d l, BA (d :: l) = B d + BA l
structure TreeO (P : Program) (N : Nums) : Prop where
 tree : ∃ fs, P.underlying N.ze = some (.struct fs) ∧ fs.toList.map (fun f => (f.offset, f.type)) = [(0, N.zbd), (1, N.za), (2, N.zar), (3, N.zy), (4, N.zj)]
 tag : ∃ fs, P.underlying N.zaa = some (.struct fs) ∧ fs.toList.map (fun f => (f.offset, f.type)) = [(0, N.zi), (1, N.za)]
 cTree : P.cellsOf N.ze = 5
 cTag : P.cellsOf N.zaa = 2
 c1 : P.cellsOf N.zbd = 1 ∧ P.cellsOf N.za = 1 ∧ P.cellsOf N.zar = 1 ∧ P.cellsOf N.zy = 1 ∧ P.cellsOf N.zj = 1 ∧ P.cellsOf N.zi = 1 ∧ P.cellsOf N.zq = 1
theorem zsq {w : World} {a : Addr} : ∀ {n k : Nat} {cs : List Value}, ((List.range' k n).mapM fun i => w.cell? (a.add i)) = some cs → cs.length = n ∧ ∀ j, j < n → w.cell? (a.add (k + j)) = cs[j]?
 | 0, k, cs, h => by simp at h; subst h; exact ⟨rfl, fun j hj => by omega⟩
 | n + 1, k, cs, h => by
  rw [List.range'_succ, List.mapM_cons] at h
  simp only [Option.bind_eq_bind, Option.bind_eq_some_iff, Option.pure_def, Option.some.injEq] at h
  obtain ⟨c, hc, r, hr, rfl⟩ := h
  obtain ⟨g1, g2⟩ := zsq hr
  refine ⟨by simp [g1], fun j hj => ?_⟩
  cases j with
  | zero => simpa using hc
  | succ j => have := g2 j (by omega); rw [show k + (j + 1) = k + 1 + j by omega, this]; simp
theorem zxh {w : World} {base : Nat} {a : Addr} {n : Nat} {cs : List Value} (h : w.cells? base a n = some cs) (hn : 0 < n) : ∃ b o, a = ⟨b, o, none⟩ ∧ cs.length = n ∧ w.rangeAt b o cs := by
 unfold World.cells? at h
 split at h
 case isFalse => cases h
 rw [List.range_eq_range'] at h
 obtain ⟨h1, h2⟩ := zsq h
 have h0 := h2 0 hn
 have e0 : a.add (0 + 0) = a := by simp [Addr.add]
 rw [e0, List.getElem?_eq_getElem (by omega)] at h0
 obtain ⟨b, o, s⟩ := a
 have hs : s = none := by
  cases s with
  | none => rfl
  | some x =>
   unfold World.cell? at h0
   split at h0
   ·simp at h0
   ·cases h0
 subst hs
 refine ⟨b, o, rfl, h1, fun j v hj => ?_⟩
 have hl := (List.getElem?_eq_some_iff.1 hj).1
 have := h2 j (by omega)
 rw [hj, Nat.zero_add] at this
 rwa [Addr.add_mid] at this
theorem add_next {a : Addr} {m b o n : Nat} (h : a.add m = ⟨b, o, none⟩) : a.add (m + n) = ⟨b, o + n, none⟩ := by
 unfold Addr.add at h ⊢
 split at h
 ·rename_i hm
  subst hm h
  split
  ·rename_i h2; have : n = 0 := by omega
   subst this; rfl
  ·simp
 ·rename_i hm
  rw [if_neg (by omega)]
  simp only [Addr.mk.injEq, and_true] at h ⊢
  omega
inductive RelL {α : Type} (R : α → List Value → Prop) : List α → List (List Value) → Prop
 | nil : RelL R [] []
 | cons {x l c r} : R x c → RelL R l r → RelL R (x :: l) (c :: r)
theorem zlo {H α : Type} {w : World} {a : Addr} {sz : Nat} (hsz : 0 < sz) (R : α → List Value → Prop) (S : α → Nat) {B : DataW H → Nat} {BA : List (DataW H) → Nat} (hB : BulkF B BA) : ∀ (elems : List (DataW H × List MemPlace)) (k : Nat),
  (∀ i (h : i < elems.length), ∃ cs x, w.cells? 0 (a.add ((k + i) * sz)) sz = some cs ∧ R x cs ∧ S x ≤ B (elems[i]).1) →
  ∃ l css, l.length = elems.length ∧ RelL R l css ∧ (l.map S).sum ≤ BA (elems.map (·.1)) ∧ (elems ≠ [] → ∃ b o, a.add (k * sz) = ⟨b, o, none⟩ ∧ w.rangeAt b o css.flatten)
 | [], k, _ => ⟨[], [], rfl, .nil, by simp, fun h => absurd rfl h⟩
 | e :: elems, k, h => by
  obtain ⟨cs, x, hc, hR, hS⟩ := h 0 (by simp)
  obtain ⟨b, o, ha, hl, hr⟩ := zxh hc hsz
  rw [Nat.add_zero] at ha
  obtain ⟨l, css, g1, g2, g3, g4⟩ := zlo hsz R S hB elems (k + 1) fun i hi => by
   have := h (i + 1) (by simp; omega)
   rw [show k + (i + 1) = k + 1 + i by omega] at this
   simpa using this
  refine ⟨x :: l, cs :: css, by simp [g1], .cons hR g2, ?_, fun _ => ⟨b, o, ha, ?_⟩⟩
  ·rw [List.map_cons, List.sum_cons, List.map_cons, hB.acons]
   have hS : S x ≤ B e.1 := hS
   omega
  ·rw [List.flatten_cons, zk]
   refine ⟨hr, ?_⟩
   cases elems with
   | nil =>
    have : l = [] := List.length_eq_zero_iff.1 (by simpa using g1)
    subst this
    cases g2
    intro j v hj; simp at hj
   | cons e' elems =>
    obtain ⟨b2, o2, ha2, hr2⟩ := g4 (by simp)
    have := add_next (n := sz) ha
    rw [show k * sz + sz = (k + 1) * sz by rw [Nat.add_mul, Nat.one_mul], ha2] at this
    injection this with e1 e2
    subst e1 e2
    rw [hl]; exact hr2
theorem wf_i64 {n : Int} (h : (Lit.int .i64 n).wf = true) : -9223372036854775808 ≤ n ∧ n < 9223372036854775808 := by
 simp [Lit.wf, IntKind.min, IntKind.max, IntKind.signed, IntKind.bits] at h
 omega
theorem wf_u32 {n : Int} (h : (Lit.int .u32 n).wf = true) : 0 ≤ n ∧ n < 4294967296 := by
 simp [Lit.wf, IntKind.min, IntKind.max, IntKind.signed, IntKind.bits] at h
 omega
section
variable {P : Program} {N : Nums} {H : Type} {enc : TypeId × Value → H} {w : World} {B : DataW H → Nat} {BA : List (DataW H) → Nat}
theorem oct_open (T : TreeO P N) (Bs : Base P N) (hB : BulkF B BA) {fuel : Nat} {c : Value} {x : DataW H × List MemPlace} (h : DataW.trod enc P w 0 (fun _ => true) true fuel N.za [c] = some x) : ∃ s, OctA w c s ∧ s.length + 1 ≤ B x.1 := by
 have he : P.underlying N.zq = some (.int .u8) := Bs.uint8.und
 rcases DataW.trod_slice Bs.Lu8.und h with ⟨hc, rfl⟩ | ⟨a, len, cap, elems, rest, n, rfl, hc, rfl, hb, hl, hm, hlen, hel, hsp, _⟩
 ·injection hc with hc
  exact ⟨[], .inl ⟨none, 0, hc, rfl⟩, by rw [hB.nil]; simp⟩
 ·injection hc with hc
  rw [T.c1.2.2.2.2.2.2] at hel
  obtain ⟨l, css, g1, g2, g3, g4⟩ := zlo (a := a) (sz := 1) (by decide) (fun (y : UInt8) cs => cs = [zbg y]) (fun _ => 1) hB elems 0 fun i hi => by
   have h1 := hel i (by omega)
   rw [List.getElem?_eq_getElem hi, Option.bind_eq_some_iff] at h1
   obtain ⟨cs, hcs, hy⟩ := h1
   obtain ⟨m, rfl, hx, hw⟩ := DataW.trod_int he hy
   refine ⟨_, UInt8.ofNat m.toNat, by rw [Nat.zero_add]; exact hcs, by rw [octet_of hw], ?_⟩
   rw [hx]; exact hB.lit _
  have hcs : ∀ {l : List UInt8} {css : List (List Value)}, RelL (fun (y : UInt8) cs => cs = [zbg y]) l css → css.flatten = l.map zbg := by
   intro l css hr
   induction hr with
   | nil => rfl
   | cons h _ ih => subst h; simp [ih]
  have hs : (l.map fun _ => 1).sum = l.length := by
   clear g1 g2 g3 g4
   induction l with
   | nil => rfl
   | cons y l ih => simp [ih]; omega
  refine ⟨l, ?_, ?_⟩
  ·by_cases h0 : len = 0
   ·exact .inl ⟨some a, cap, by rw [hc, h0], List.length_eq_zero_iff.1 (by omega)⟩
   ·obtain ⟨b, o, ha, hr⟩ := g4 (fun e => by rw [e] at hlen; simp at hlen; omega)
    have ha : a = ⟨b, o, none⟩ := by simpa [Addr.add] using ha
    exact .inr ⟨b, o, cap, by rw [hc, ha, g1, hlen], by omega, by rw [← hcs g2]; exact hr⟩
  ·rw [hB.slice]; omega
theorem tags_open (T : TreeO P N) (Bs : Base P N) (hT : zfq P N N.ze N.zaa N.zy N.zj) (hB : BulkF B BA) {fuel : Nat} {c : Value} {x : DataW H × List MemPlace} (h : DataW.trod enc P w 0 (fun _ => true) true fuel N.zj [c] = some x) : ∃ u, zim w c u ∧ (∀ y ∈ u, y.1 < 4294967296) ∧ szU u + 1 ≤ B x.1 := by
 rcases DataW.trod_slice hT.lg.und h with ⟨hc, rfl⟩ | ⟨a, len, cap, elems, rest, n, rfl, hc, rfl, hb, hl, hm, hlen, hel, hsp, _⟩
 ·injection hc with hc
  exact ⟨[], .inl ⟨none, 0, hc, rfl⟩, (fun y hy => by cases hy), by rw [hB.nil]; simp [szU]⟩
 ·injection hc with hc
  rw [T.cTag] at hel
  obtain ⟨fs, hu, hfs⟩ := T.tag
  obtain ⟨l, css, g1, g2, g3, g4⟩ := zlo (a := a) (sz := 2) (by decide) (fun (y : Nat × List UInt8) cs => ∃ s, cs = [.int .u32 y.1, s] ∧ OctA w s y.2 ∧ y.1 < 4294967296) (fun y => 1 + y.2.length) hB elems 0 fun i hi => by
   have h1 := hel i (by omega)
   rw [List.getElem?_eq_getElem hi, Option.bind_eq_some_iff] at h1
   obtain ⟨cs, hcs, hy⟩ := h1
   obtain ⟨xs, n', rfl, hx, hcl, hxl, hfi⟩ := DataW.trod_struct hu hy
   rw [T.cTag] at hcl
   have hfl : fs.toList.length = 2 := by have := congrArg List.length hfs; simpa using this
   match cs, hcl with
   | [c0, c1], _ =>
    have f0 : ∃ f, fs[0]? = some f ∧ f.offset = 0 ∧ f.type = N.zi := by
     have := congrArg (fun l => l[0]?) hfs
     simp only [List.getElem?_map, Array.getElem?_toList] at this
     cases hf : fs[0]? with
     | none => rw [hf] at this; simp at this
     | some f => rw [hf] at this; simp at this; exact ⟨f, rfl, this.1, this.2⟩
    have f1 : ∃ f, fs[1]? = some f ∧ f.offset = 1 ∧ f.type = N.za := by
     have := congrArg (fun l => l[1]?) hfs
     simp only [List.getElem?_map, Array.getElem?_toList] at this
     cases hf : fs[1]? with
     | none => rw [hf] at this; simp at this
     | some f => rw [hf] at this; simp at this; exact ⟨f, rfl, this.1, this.2⟩
    obtain ⟨f0, e0, o0, t0⟩ := f0
    obtain ⟨f1, e1, o1, t1⟩ := f1
    have h0 := hfi 0 f0 e0
    have h1 := hfi 1 f1 e1
    rw [o0, t0, T.c1.2.2.2.2.2.1, List.getElem?_eq_getElem (by rw [hxl, ← Array.length_toList, hfl]; decide)] at h0
    rw [o1, t1, T.c1.2.1, List.getElem?_eq_getElem (by rw [hxl, ← Array.length_toList, hfl]; decide)] at h1
    obtain ⟨m, hm1, hm2, hm3⟩ := DataW.trod_int Bs.uint32.und h0
    obtain ⟨s, hs1, hs2⟩ := oct_open T Bs hB h1
    have hw := wf_u32 hm3
    refine ⟨_, (m.toNat, s), by rw [Nat.zero_add]; exact hcs, ⟨c1, ?_, hs1, by show m.toNat < _; omega⟩, ?_⟩
    ·have : c0 = .int .u32 m := by simpa using hm1
     rw [this, show ((m.toNat : Nat) : Int) = m by omega]
    ·rw [hx, hB.agg]
     have hx2 : xs.length = 2 := by rw [hxl, ← Array.length_toList, hfl]
     match xs, hx2 with
     | [x0, x1], _ =>
      simp only [List.map_cons, hB.acons]
      have hs2 : s.length + 1 ≤ B x1.1 := hs2
      show 1 + s.length ≤ _
      omega
  have hcs : ∀ {l : List (Nat × List UInt8)} {css : List (List Value)}, RelL (fun (y : Nat × List UInt8) cs => ∃ s, cs = [.int .u32 y.1, s] ∧ OctA w s y.2 ∧ y.1 < 4294967296) l css → UsA w l css.flatten ∧ ∀ y ∈ l, y.1 < 4294967296 := by
   intro l css hr
   induction hr with
   | nil => exact ⟨rfl, fun y hy => by cases hy⟩
   | cons h _ ih =>
    obtain ⟨s, rfl, h1, h2⟩ := h
    refine ⟨⟨s, _, rfl, h1, ih.1⟩, fun y hy => ?_⟩
    rcases List.mem_cons.1 hy with e | hy
    ·rw [e]; exact h2
    ·exact ih.2 y hy
  obtain ⟨k1, k2⟩ := hcs g2
  refine ⟨l, ?_, k2, by rw [hB.slice]; unfold szU; omega⟩
  by_cases h0 : len = 0
  ·exact .inl ⟨some a, cap, by rw [hc, h0], List.length_eq_zero_iff.1 (by omega)⟩
  ·obtain ⟨b, o, ha, hr⟩ := g4 (fun e => by rw [e] at hlen; simp at hlen; omega)
   have ha : a = ⟨b, o, none⟩ := by simpa [Addr.add] using ha
   exact .inr ⟨b, o, cap, css.flatten, by rw [hc, ha, g1, hlen], by omega, k1, hr⟩
theorem tree_open (T : TreeO P N) (Bs : Base P N) (hT : zfq P N N.ze N.zaa N.zy N.zj) (hB : BulkF B BA) : ∀ (fuel : Nat) (cs : List Value) (x : DataW H × List MemPlace), DataW.trod enc P w 0 (fun _ => true) true fuel N.ze cs = some x → ∃ t, RepA w t cs ∧ wfT t ∧ szT t ≤ B x.1 := by
 intro fuel
 induction fuel using Nat.strongRecOn with
 | _ fuel ih =>
 intro cs x h
 obtain ⟨fs, hu, hfs⟩ := T.tree
 obtain ⟨xs, n', rfl, hx, hcl, hxl, hfi⟩ := DataW.trod_struct hu h
 rw [T.cTree] at hcl
 have hfl : fs.toList.length = 5 := by have := congrArg List.length hfs; simpa using this
 have hf : ∀ (k : Nat) (o : Nat) (t : TypeId), [(0, N.zbd), (1, N.za), (2, N.zar), (3, N.zy), (4, N.zj)][k]? = some (o, t) → ∃ f, fs[k]? = some f ∧ f.offset = o ∧ f.type = t := by
  intro k o t hk
  have := congrArg (fun l => l[k]?) hfs
  simp only [List.getElem?_map, Array.getElem?_toList] at this
  rw [hk] at this
  cases hf : fs[k]? with
  | none => rw [hf] at this; simp at this
  | some f => rw [hf] at this; simp at this; exact ⟨f, rfl, this.1, this.2⟩
 have hx5 : xs.length = 5 := by rw [hxl, ← Array.length_toList, hfl]
 match cs, hcl, xs, hx5 with
 | [c0, c1, c2, c3, c4], _, [x0, x1, x2, x3, x4], _ =>
  obtain ⟨f0, e0, o0, t0⟩ := hf 0 _ _ rfl
  obtain ⟨f1, e1, o1, t1⟩ := hf 1 _ _ rfl
  obtain ⟨f2, e2, o2, t2⟩ := hf 2 _ _ rfl
  obtain ⟨f3, e3, o3, t3⟩ := hf 3 _ _ rfl
  obtain ⟨f4, e4, o4, t4⟩ := hf 4 _ _ rfl
  have h0 := hfi 0 f0 e0
  have h1 := hfi 1 f1 e1
  have h2 := hfi 2 f2 e2
  have h3 := hfi 3 f3 e3
  have h4 := hfi 4 f4 e4
  rw [o0, t0, T.c1.1] at h0
  rw [o1, t1, T.c1.2.1] at h1
  rw [o2, t2, T.c1.2.2.1] at h2
  rw [o3, t3, T.c1.2.2.2.1] at h3
  rw [o4, t4, T.c1.2.2.2.2.1] at h4
  have h0 : DataW.trod enc P w 0 (fun _ => true) true n' N.zbd [c0] = some x0 := h0
  have h1 : DataW.trod enc P w 0 (fun _ => true) true n' N.za [c1] = some x1 := h1
  have h2 : DataW.trod enc P w 0 (fun _ => true) true n' N.zar [c2] = some x2 := h2
  have h3 : DataW.trod enc P w 0 (fun _ => true) true n' N.zy [c3] = some x3 := h3
  have h4 : DataW.trod enc P w 0 (fun _ => true) true n' N.zj [c4] = some x4 := h4
  obtain ⟨m, hm1, hm2, hm3⟩ := DataW.trod_int Bs.int64.und h0
  obtain ⟨s, hs1, hs2⟩ := oct_open T Bs hB h1
  obtain ⟨nl, hn1, hn2⟩ := DataW.trod_bool Bs.bool.und h2
  obtain ⟨u, hu1, hu2, hu3⟩ := tags_open T Bs hT hB h4
  have hc0 : c0 = .int .i64 m := by simpa using hm1
  have hc2 : c2 = .bool nl := by simpa using hn1
  have hb0 : 1 ≤ B x0.1 := by rw [hm2]; exact hB.lit _
  have trees : ∃ l, zgj w c3 l ∧ (∀ y ∈ l, wfT y) ∧ szTs l + 1 ≤ B x3.1 := by
   rcases DataW.trod_slice hT.lt.und h3 with ⟨hc, hx3⟩ | ⟨a, len, cap, elems, rest, n, hn', hc, hx3, hb, hl, hm, hlen, hel, hsp, _⟩
   ·injection hc with hc
    exact ⟨[], .inl ⟨none, 0, hc, rfl⟩, (fun y hy => by cases hy), by rw [hx3, hB.nil]; simp [szTs]⟩
   ·injection hc with hc
    rw [T.cTree] at hel
    obtain ⟨l, css, g1, g2, g3, g4⟩ := zlo (a := a) (sz := 5) (by decide) (fun (y : Tr) cs => RepA w y cs ∧ wfT y) szT hB elems 0 fun i hi => by
     have h1 := hel i (by omega)
     rw [List.getElem?_eq_getElem hi, Option.bind_eq_some_iff] at h1
     obtain ⟨cs, hcs, hy⟩ := h1
     obtain ⟨y, y1, y2, y3⟩ := ih n (by omega) cs _ hy
     exact ⟨cs, y, by rw [Nat.zero_add]; exact hcs, ⟨y1, y2⟩, y3⟩
    have hcs : ∀ {l : List Tr} {css : List (List Value)}, RelL (fun (y : Tr) cs => RepA w y cs ∧ wfT y) l css → zij w l css ∧ ∀ y ∈ l, wfT y := by
     intro l css hr
     induction hr with
     | nil => exact ⟨rfl, fun y hy => by cases hy⟩
     | cons h _ ih =>
      refine ⟨⟨_, _, rfl, h.1, ih.1⟩, fun y hy => ?_⟩
      rcases List.mem_cons.1 hy with e | hy
      ·rw [e]; exact h.2
      ·exact ih.2 y hy
    obtain ⟨k1, k2⟩ := hcs g2
    have hsum : ∀ l : List Tr, (l.map szT).sum = szTs l := by
     intro l
     induction l with
     | nil => rfl
     | cons y l ih => rw [List.map_cons, List.sum_cons, szTs, ih]
    rw [hsum] at g3
    refine ⟨l, ?_, k2, by rw [hx3, hB.slice]; omega⟩
    by_cases h0 : len = 0
    ·exact .inl ⟨some a, cap, by rw [hc, h0], List.length_eq_zero_iff.1 (by omega)⟩
    ·obtain ⟨b, o, ha, hr⟩ := g4 (fun e => by rw [e] at hlen; simp at hlen; omega)
     have ha : a = ⟨b, o, none⟩ := by simpa [Addr.add] using ha
     exact .inr ⟨b, o, cap, css, by rw [hc, ha, g1, hlen], by omega, k1, hr⟩
  obtain ⟨l, hl1, hl2, hl3⟩ := trees
  have hwfs : ∀ l : List Tr, (∀ y ∈ l, wfT y) → wfTs l := by
   intro l
   induction l with
   | nil => intro _; trivial
   | cons y l ih => intro h; exact ⟨h y (by simp), ih fun z hz => h z (List.mem_cons_of_mem _ hz)⟩
  refine ⟨.mk m s nl l u, ?_, ⟨wf_i64 hm3, hu2, hwfs l hl2⟩, ?_⟩
  ·rw [hc0, hc2]
   exact RepA.mk' (t := .mk m s nl l u) hs1 hl1 hu1
  ·rw [hx, hB.agg]
   simp only [List.map_cons, List.map_nil, hB.acons, hB.anil, szT]
   omega
end
end
inductive SC where
 | mk (parts : List (Nat × Int)) (sub : Option FuncId) (fs : List SC)
def zvf (parts : List (Nat × Int)) : List Int := parts.foldl (fun l p => l.set p.1 p.2) [0, 0, 0, 0, 0, 0, 0]
def mkF (l : List Int) (sub : List Fld) : Fld := .mk (l.getD 0 0) (l.getD 1 0) (l.getD 2 0) (l.getD 3 0) (l.getD 4 0) (l.getD 5 0) (l.getD 6 0) sub
mutual
def SC.fld : SC → Fld
 | .mk parts _ fs => mkF (zvf parts) (SC.flds fs)
def SC.flds : List SC → List Fld
 | [] => []
 | s :: l => s.fld :: SC.flds l
end
def SC.parts : SC → List (Nat × Int) | .mk p _ _ => p
def SC.fs : SC → List SC | .mk _ _ l => l
theorem SC.flds_len : ∀ l : List SC, (SC.flds l).length = l.length
 | [] => rfl
 | _ :: l => by simp [SC.flds, SC.flds_len l]
section
variable (N : Nums) (M : zcl)
def partO (p : Nat × Int) : Nat × Operand := (p.1, .const (.int .i64 p.2))
def zwt : List SC → Nat → List ROp
 | [], _ => []
 | .mk parts none _ :: l, k => ⟨some k, .build M.zh (parts.map partO).toArray, 0, none, []⟩ :: zwt l (k + 1)
 | .mk parts (some f) _ :: l, k => ⟨some k, .call ⟨.value (.func f), #[], #[]⟩, M.zah, none, []⟩ :: ⟨some (k + 1), .build M.zh (parts.map partO ++ [(7, T k)]).toArray, 0, none, []⟩ :: zwt l (k + 2)
def scSl : List SC → Nat → List Nat
 | [], _ => []
 | .mk _ none _ :: l, k => k :: scSl l (k + 1)
 | .mk _ (some _) _ :: l, k => (k + 1) :: scSl l (k + 2)
def zmn : List SC → Nat → Nat
 | [], k => k
 | .mk _ none _ :: l, k => zmn l (k + 1)
 | .mk _ (some _) _ :: l, k => zmn l (k + 2)
def ztq (l : List SC) (k : Nat) : ROp := ⟨some (zmn l k), .buildSlice M.zah l.length ((scSl l k).zipIdx.map fun p => (p.2, T p.1)).toArray, 0, none, []⟩
def c_flds (l : List SC) : C := seqs [.ops [⟨some 100, .assign (.const (.slice none 0 0)), 0, none, []⟩], .ops (zwt M l 0 ++ [ztq M l 0, ⟨some 100, .assign (T (zmn l 0)), 0, none, []⟩]), .ret]
def c_msg (l : List SC) (fl : Int) : C := seqs [.ops [⟨some 100, .alloc M.zas, 0, none, []⟩],
 .ops (zwt M l 0 ++ [ztq M l 0, ⟨some (zmn l 0 + 1), .build M.zas #[(1, .const (.int .i64 fl)), (0, T (zmn l 0))], 0, none, []⟩, ⟨none, .store M.zas (V 0) (T (zmn l 0 + 1)), 0, none, []⟩]), .ret]
end
def SC.partsB (s : SC) : Bool := s.parts.all fun p => Nat.blt p.1 7
def scB (l : List SC) : Bool := l.all SC.partsB && Nat.blt (zmn l 0) 90 && Nat.blt 0 l.length && Nat.blt l.length 1000
theorem zpv : ∀ (l : List SC) (k : Nat), k ≤ zmn l k
 | [], k => Nat.le_refl _
 | .mk _ none _ :: l, k => Nat.le_trans (Nat.le_succ k) (zpv l (k + 1))
 | .mk _ (some _) _ :: l, k => Nat.le_trans (by omega) (zpv l (k + 2))
theorem ztr : ∀ (l : List SC) (k : Nat), (scSl l k).length = l.length
 | [], k => rfl
 | .mk _ none _ :: l, k => by simp [scSl, ztr l]
 | .mk _ (some _) _ :: l, k => by simp [scSl, ztr l]
def zii (l : List Int) (v : Value) : List Value := l.map (fun n => Value.int .i64 n) ++ [v]
def ztx : Array (Nat × Nat) := [(0, 1), (1, 1), (2, 1), (3, 1), (4, 1), (5, 1), (6, 1), (7, 1)].toArray
theorem zsp : ∀ i, i < 8 → ztx[i]? = some (i, 1)
 | 0, _ => rfl | 1, _ => rfl | 2, _ => rfl | 3, _ => rfl | 4, _ => rfl | 5, _ => rfl | 6, _ => rfl | 7, _ => rfl
 | n + 8, h => by omega
theorem zuc (rest : List (Nat × Value)) : ∀ (parts : List (Nat × Int)) (l : List Int) (v : Value), l.length = 7 → (parts.all fun p => Nat.blt p.1 7) = true →
  Instr.fill (ztx[·]?) (zii l v).toArray (parts.map (fun (p : Nat × Int) => (p.1, Value.int .i64 p.2)) ++ rest) = Instr.fill (ztx[·]?) (zii (parts.foldl (fun l p => l.set p.1 p.2) l) v).toArray rest
 | [], l, v, _, _ => rfl
 | (i, n) :: parts, l, v, hl, h => by
  simp only [List.all_cons, Bool.and_eq_true] at h
  have hi : i < 7 := by simpa using h.1
  rw [List.map_cons, List.cons_append, Instr.fill, zsp i (by omega)]
  simp only
  have hc : (Value.int .i64 n).cells = #[.int .i64 n] := rfl
  rw [hc, if_neg (by simp [zii, hl]; omega)]
  have e : (((#[Value.int .i64 n] : Array Value).zipIdx.foldl (fun cs x => cs.setIfInBounds (i + x.2) x.1) (zii l v).toArray)) = (zii (l.set i n) v).toArray := by
   have : (#[Value.int .i64 n] : Array Value).zipIdx = #[(Value.int .i64 n, 0)] := rfl
   rw [this]
   simp only [List.foldl_toArray', List.foldl_cons, List.foldl_nil, Nat.add_zero, zii, List.setIfInBounds_toArray]
   congr 1
   rw [List.set_append_left _ _ (by simp [hl]; exact hi), List.map_set]
  rw [e, List.foldl_cons]
  exact zuc rest parts (l.set i n) v (by simp [hl]) h.2
theorem zpw : ∀ (parts : List (Nat × Int)) (l : List Int), (parts.foldl (fun l p => l.set p.1 p.2) l).length = l.length
 | [], l => rfl
 | p :: parts, l => by rw [List.foldl_cons, zpw]; simp
section
variable {P : Program} {N : Nums} {M : zcl}
theorem zsu {w : World} {l : List Int} (hl : l.length = 7) {v : Value} {sub : List Fld} (h : zfw w v sub) : RepF w (mkF l sub) (zii l v) := by
 match l, hl with
 | [a, b, c, d, e, f, g], _ => exact RepF.mk' (f := mkF [a, b, c, d, e, f, g] sub) h
theorem build_num (S : SpT P N M) {w : World} {parts : List (Nat × Int)} (h : (parts.all fun p => Nat.blt p.1 7) = true) :
  (Instr.build M.zh ((parts.map fun (p : Nat × Int) => (p.1, Value.int .i64 p.2)).toArray)).run P w = .ok (.agg (zii (zvf parts) (.slice none 0 0)).toArray) w :=
 S.fld.run_build (by
  have := zuc [] parts [0, 0, 0, 0, 0, 0, 0] (.slice none 0 0) rfl h
  rw [List.append_nil] at this
  exact this)
theorem build_sub (S : SpT P N M) {w : World} {parts : List (Nat × Int)} (h : (parts.all fun p => Nat.blt p.1 7) = true) {v : Value} (hv : v.oneCell' = true) :
  (Instr.build M.zh ((parts.map (fun (p : Nat × Int) => (p.1, Value.int .i64 p.2)) ++ [(7, v)]).toArray)).run P w = .ok (.agg (zii (zvf parts) v).toArray) w :=
 S.fld.run_build (by
  have := zuc [(7, v)] parts [0, 0, 0, 0, 0, 0, 0] (.slice none 0 0) rfl h
  refine this.trans ?_
  have hl := zpw parts [0, 0, 0, 0, 0, 0, 0]
  show Instr.fill (ztx[·]?) (zii (zvf parts) (.slice none 0 0)).toArray [(7, v)] = _
  have hl : (zvf parts).length = 7 := hl
  rw [Instr.fill, zsp 7 (by decide)]
  simp only
  rw [zcn hv, if_neg (by simp [zii, hl])]
  have e : (#[v] : Array Value).zipIdx = #[(v, 0)] := rfl
  rw [e]
  simp only [List.foldl_toArray', List.foldl_cons, List.foldl_nil, Nat.add_zero, zii, List.setIfInBounds_toArray, Instr.fill]
  congr 2
  rw [List.set_append_right _ _ (by simp [hl])]
  simp [hl])
def MkOk (P : Program) (f : FuncId) (l : List Fld) : Prop := ∀ w, Call P f #[] w fun r w' => zfw w' r l ∧ Mod w w' zp
def scOk (P : Program) : List SC → Prop
 | [] => True
 | .mk parts none fs :: l => fs = [] ∧ scOk P l
 | .mk parts (some f) fs :: l => (MkOk P f (SC.flds fs) ∧ zcw P f) ∧ scOk P l
theorem step_callZ {f : FuncId} {d : Option Nat} {ty : TypeId} {af : List Nat} {ρ : Env} {w : World} {K : Env → World → Prop} (hf : zcw P f) : zbl P ⟨d, .call ⟨.value (.func f), #[], #[]⟩, ty, none, af⟩ ρ w K = Call P f #[] w fun v w' => K (put ρ d v) w' := zjf hf
theorem znl (S : SpT P N M) {K : Env → World → Prop} : ∀ (l : List SC) (k : Nat) (ρ : Env) (w w0 : World), (l.all SC.partsB) = true → scOk P l → Mod w0 w zp →
  (∀ (ρ' : Env) (w' : World) (css : List (List Value)), (∀ t, t < k ∨ 100 ≤ t → ρ' t = ρ t) → zfj w' (SC.flds l) css → (∀ (j s : Nat), (scSl l k)[j]? = some s → ∃ c : List Value, css[j]? = some c ∧ ρ' s = .agg c.toArray) → Mod w0 w' zp → K ρ' w') → zmn l k < 90 →
  runR P (zwt M l k) ρ w K
 | [], k, ρ, w, w0, _, _, m, hK, _ => hK ρ w [] (fun _ _ => rfl) rfl (fun j s h => by simp [scSl] at h) m
 | .mk parts none fs :: l, k, ρ, w, w0, hp, ⟨hfs, hok⟩, m, hK, he => by
  subst hfs
  simp only [List.all_cons, Bool.and_eq_true] at hp
  have he2 := zpv l (k + 1)
  rw [zwt, runR]
  have e1 : ((parts.map partO).toArray.map fun (p : Nat × Operand) => (p.1, ev ρ p.2)) = (parts.map fun (p : Nat × Int) => (p.1, Value.int .i64 p.2)).toArray := by
   simp [partO, Function.comp_def]
  rw [zfr, e1, build_num S (parts := parts) hp.1]
  simp only [stepV_ok]
  have hrep : ∀ w', RepF w' (SC.fld (.mk parts none [])) (zii (zvf parts) (.slice none 0 0)) := fun w' => zsu (zpw _ _) (.inl ⟨_, _, rfl, rfl⟩)
  refine znl S l (k + 1) _ w w0 hp.2 hok m (fun ρ' w' css h1 h2 h3 h4 => ?_) he
  refine hK ρ' w' (zii (zvf parts) (.slice none 0 0) :: css) (fun t ht => ?_) ⟨_, _, rfl, hrep w', h2⟩ (fun j s hs => ?_) h4
  ·rw [h1 t (by omega), zhc]
   have : (t == k) = false := beq_eq_false_iff_ne.2 (by have : zmn l (k + 1) < 90 := he; omega)
   rw [this]; rfl
  ·cases j with
   | zero =>
    simp [scSl] at hs
    subst hs
    exact ⟨_, rfl, by rw [h1 k (by omega), zhc]; simp [sel]⟩
   | succ j => exact h3 j s (by simpa [scSl] using hs)
 | .mk parts (some f) fs :: l, k, ρ, w, w0, hp, ⟨⟨hmk, hbody⟩, hok⟩, m, hK, he => by
  simp only [List.all_cons, Bool.and_eq_true] at hp
  have he2 := zpv l (k + 2)
  have he3 : zmn l (k + 2) < 90 := he
  rw [zwt, runR, step_callZ hbody]
  refine (hmk w).mono ?_
  rintro r w1 ⟨hr, m1⟩
  rw [runR]
  have e1 : (((parts.map partO ++ [((7 : Nat), T k)]).toArray : Array (Nat × Operand)).map fun (p : Nat × Operand) => (p.1, ev (put ρ (some k) r) p.2)) = (parts.map (fun (p : Nat × Int) => (p.1, Value.int .i64 p.2)) ++ [(7, r)]).toArray := by
   simp [partO, Function.comp_def, zhc, sel]
  rw [zfr, e1, build_sub S (parts := parts) hp.1 hr.one]
  simp only [stepV_ok]
  have m01 := m.trans' m1
  refine znl S l (k + 2) _ w1 w1 hp.2 hok (.refl _ _) (fun ρ' w' css h1 h2 h3 h4 => ?_) he
  refine hK ρ' w' (zii (zvf parts) r :: css) (fun t ht => ?_) ⟨_, _, rfl, zsu (zpw _ _) (hr.stay h4), h2⟩ (fun j s hs => ?_) (m01.trans' h4)
  ·rw [h1 t (by omega), zhc, zhc]
   have : (t == k + 1) = false := beq_eq_false_iff_ne.2 (by omega)
   have h2 : (t == k) = false := beq_eq_false_iff_ne.2 (by omega)
   rw [this, h2]; rfl
  ·cases j with
   | zero =>
    simp [scSl] at hs
    subst hs
    exact ⟨_, rfl, by rw [h1 (k + 1) (by omega), zhc]; simp [sel]⟩
   | succ j => exact h3 j s (by simpa [scSl] using hs)
end
theorem zvl (off : Nat) : ∀ (l : List Value) (k : Nat) (arr : Array Value), (l.zipIdx k).foldl (fun cs (x : Value × Nat) => cs.setIfInBounds (off + x.2) x.1) arr = (l.zipIdx (off + k)).foldl (fun cs (x : Value × Nat) => cs.setIfInBounds x.2 x.1) arr
 | [], k, arr => rfl
 | v :: l, k, arr => by
  rw [List.zipIdx_cons, List.zipIdx_cons, List.foldl_cons, List.foldl_cons, zvl off l (k + 1), Nat.add_assoc]
theorem zvm (sz : Nat) : ∀ (css : List (List Value)) (k : Nat) (arr : Array Value), (∀ c ∈ css, c.length = sz) → (k + css.length) * sz ≤ arr.size →
  ∃ out, Instr.fill (fun i => some (i * sz, sz)) arr ((css.zipIdx k).map fun p => (p.2, Value.agg p.1.toArray)) = some out ∧ out.toList = arr.toList.take (k * sz) ++ css.flatten ++ arr.toList.drop ((k + css.length) * sz)
 | [], k, arr, _, h => ⟨arr, rfl, by simp⟩
 | c :: css, k, arr, hc, h => by
  have hcl := hc c (by simp)
  have h1 : (k + 1) * sz + css.length * sz ≤ arr.size := by
   rw [← Nat.add_mul]; simp only [List.length_cons] at h; rwa [show k + 1 + css.length = k + (css.length + 1) by omega]
  have h2 : (k + 1) * sz = k * sz + sz := by rw [Nat.add_mul, Nat.one_mul]
  rw [List.zipIdx_cons, List.map_cons, Instr.fill]
  simp only
  have hcells : (Value.agg c.toArray).cells = c.toArray := rfl
  rw [hcells, if_neg (by simp [hcl]; omega)]
  have e : c.toArray.zipIdx = (c.zipIdx 0).toArray := by simp
  obtain ⟨arr1, harr1⟩ : ∃ arr1, arr1 = c.toArray.zipIdx.foldl (fun cs (x : Value × Nat) => cs.setIfInBounds (k * sz + x.2) x.1) arr := ⟨_, rfl⟩
  have hl1 : arr1.toList = arr.toList.take (k * sz) ++ c ++ arr.toList.drop (k * sz + c.length) := by
   rw [harr1, e, List.foldl_toArray, zvl, Nat.add_zero]
   exact zoo c (k * sz) arr (by rw [hcl]; omega)
  have hs1 : arr1.size = arr.size := by
   have := congrArg List.length hl1
   simp only [Array.length_toList, List.length_append, List.length_take, List.length_drop] at this
   omega
  obtain ⟨out, g1, g2⟩ := zvm sz css (k + 1) arr1 (fun x hx => hc x (List.mem_cons_of_mem _ hx)) (by rw [hs1, Nat.add_mul]; exact h1)
  refine ⟨out, ?_, ?_⟩
  ·rw [← harr1]; exact g1
  ·rw [g2, hl1, List.flatten_cons]
   have t1 : (arr.toList.take (k * sz) ++ c ++ arr.toList.drop (k * sz + c.length)).take ((k + 1) * sz) = arr.toList.take (k * sz) ++ c := by
    rw [List.take_append_of_le_length (by simp [hcl]; omega), List.take_of_length_le (by simp [hcl]; omega)]
   have t2 : (arr.toList.take (k * sz) ++ c ++ arr.toList.drop (k * sz + c.length)).drop ((k + 1 + css.length) * sz) = arr.toList.drop ((k + (c :: css).length) * sz) := by
    have hm : (k + 1 + css.length) * sz = k * sz + sz + css.length * sz := by rw [Nat.add_mul, Nat.add_mul, Nat.one_mul]
    have hm2 : (k + (c :: css).length) * sz = k * sz + sz + css.length * sz := by rw [← hm, List.length_cons]; congr 1; omega
    have hle : (arr.toList.take (k * sz) ++ c).length = k * sz + sz := by simp [hcl]; omega
    rw [List.drop_append, hle, List.drop_of_length_le (by rw [hle]; omega), List.nil_append, List.drop_drop, hm, hm2, hcl]
    congr 1; omega
   rw [t1, t2]
   simp
theorem zst {w w' : World} {k b o : Nat} {fs : List Fld} {css : List (List Value)} (hm : Mod w w' (blk k)) (hk : ∀ i, 7 ≤ i → w.cell? ⟨k, i, none⟩ = none) (hr : zfj w fs css) (h : w.rangeAt b o css.flatten) : w'.rangeAt b o css.flatten := by
 cases fs with
 | nil => simp only [zfj] at hr; subst hr; intro j v hj; simp at hj
 | cons f fs =>
  obtain ⟨c, r, rfl, hc, hr⟩ := hr
  have h8 := hc.len
  match c, h8 with
  | [x0, x1, x2, x3, x4, x5, x6, x7], _ =>
   have h7 := h 7 x7 (by simp)
   have hne : b ≠ k := fun e => by
    subst e
    rw [hk (o + 7) (by omega)] at h7; cases h7
   have hb : b < w.heap.size := zbe (by rw [h7]; rfl)
   exact hm.rangeAt hb (fun i _ _ e => hne e) h
mutual
theorem RepF.but {w w' : World} {k : Nat} (hm : Mod w w' (blk k)) (hk : ∀ i, 7 ≤ i → w.cell? ⟨k, i, none⟩ = none) : ∀ (t : Fld) {cs : List Value}, RepF w t cs → RepF w' t cs
 | .mk _ _ _ _ _ _ _ sub, _, ⟨v, h1, h3⟩ => ⟨v, h1, h3.imp id fun ⟨b, o, c, css, g1, g2, g3, g4⟩ => ⟨b, o, c, css, g1, g2, zfj.but hm hk sub g3, zst hm hk g3 g4⟩⟩
theorem zfj.but {w w' : World} {k : Nat} (hm : Mod w w' (blk k)) (hk : ∀ i, 7 ≤ i → w.cell? ⟨k, i, none⟩ = none) : ∀ (l : List Fld) {css : List (List Value)}, zfj w l css → zfj w' l css
 | [], _, hr => hr
 | t :: l, _, ⟨c, r, h1, h2, h3⟩ => ⟨c, r, h1, RepF.but hm hk t h2, zfj.but hm hk l h3⟩
end
theorem zfw.but {w w' : World} {k : Nat} (hm : Mod w w' (blk k)) (hk : ∀ i, 7 ≤ i → w.cell? ⟨k, i, none⟩ = none) {v : Value} {fs : List Fld} (hs : zfw w v fs) : zfw w' v fs :=
 hs.imp id fun ⟨b, o, c, css, h1, h2, h3, h4⟩ => ⟨b, o, c, css, h1, h2, zfj.but hm hk fs h3, zst hm hk h3 h4⟩
section
variable {P : Program} {N : Nums} {M : zcl}
theorem run_bsFs (S : SpT P N M) {w : World} {l : List Fld} {css : List (List Value)} (h : zfj w l css) (h0 : 0 < l.length) (h1 : l.length < 1000) :
  ∃ w1, (Instr.buildSlice M.zah l.length ((css.zipIdx 0).map fun p => (p.2, Value.agg p.1.toArray)).toArray).run P w = .ok (.slice (some ⟨w.heap.size, 0, none⟩) l.length l.length) w1 ∧ Mod w w1 zp ∧ zfw w1 (.slice (some ⟨w.heap.size, 0, none⟩) l.length l.length) l := by
 obtain ⟨fs', hti⟩ := S.fld.out
 obtain ⟨i, hi, hsz, _, hz⟩ := hti.1.info
 have hsz : i.size = 8 := hsz
 have hlen : css.length = l.length := by
  have : ∀ (l : List Fld) (css : List (List Value)), zfj w l css → css.length = l.length := by
   intro l
   induction l with
   | nil => intro css h; simp only [zfj] at h; subst h; rfl
   | cons f l ih => rintro _ ⟨c, r, rfl, _, hr⟩; simp [ih r hr]
  exact this l css h
 have h8 := h.len8
 have hlz : ((Array.range (l.length * 8)).map ((Value.agg ([Value.int .i64 0, .int .i64 0, .int .i64 0, .int .i64 0, .int .i64 0, .int .i64 0, .int .i64 0, .slice none 0 0] : List Value).toArray).cells[· % (Value.agg ([Value.int .i64 0, .int .i64 0, .int .i64 0, .int .i64 0, .int .i64 0, .int .i64 0, .int .i64 0, .slice none 0 0] : List Value).toArray).cells.size]!)).size = l.length * 8 := by simp
 obtain ⟨out, g1, g2⟩ := zvm 8 css 0 _ h8 (by rw [hlz, Nat.zero_add, hlen]; exact Nat.le_refl _)
 have hr := run_buildSlice (P := P) w M.zah M.zh l.length ((css.zipIdx 0).map fun p => (p.2, Value.agg p.1.toArray)).toArray out i _ S.lf.und hi hz (by rw [hsz]; omega) (by rw [hsz]; omega) (by rw [hsz]; exact g1)
 have hout : out = css.flatten.toArray := by
  apply Array.ext'
  rw [g2]
  rw [Nat.zero_mul, List.take_zero, List.nil_append, Nat.zero_add, hlen, List.drop_of_length_le (by rw [Array.length_toList, hlz]; exact Nat.le_refl _)]
  simp
 rw [hout] at hr
 have m : Mod w (w.alloc (.cells css.flatten.toArray M.zh)) zp := Mod.alloc _ _ _
 refine ⟨_, hr, m, .inr ⟨w.heap.size, 0, l.length, css, rfl, Nat.le_refl _, zfj.stay m _ h, ?_⟩⟩
 have := zu w css.flatten.toArray M.zh (0, 0)
 simpa using this
theorem zql (S : SpT P N M) {l : List SC} {k : Nat} {ρ : Env} {w : World} {css : List (List Value)} {K : Env → World → Prop} (hr : zfj w (SC.flds l) css) (hs : ∀ (j s : Nat), (scSl l k)[j]? = some s → ∃ c : List Value, css[j]? = some c ∧ ρ s = .agg c.toArray) (h0 : 0 < l.length) (h1 : l.length < 1000)
  (hK : ∀ (r : Value) (w1 : World), Mod w w1 zp → zfw w1 r (SC.flds l) → K (put ρ (some (zmn l k)) r) w1) : zbl P (ztq M l k) ρ w K := by
 unfold ztq
 have hfl := SC.flds_len l
 obtain ⟨w1, hb, m1, hf1⟩ := run_bsFs S hr (by omega) (by omega)
 have hcl : css.length = l.length := by
  have : ∀ (l : List Fld) (css : List (List Value)), zfj w l css → css.length = l.length := by
   intro l
   induction l with
   | nil => intro css h; simp only [zfj] at h; subst h; rfl
   | cons f l ih => rintro _ ⟨c, r, rfl, _, hr⟩; simp [ih r hr]
  rw [this _ _ hr, hfl]
 have e : (((scSl l k).zipIdx.map fun p => (p.2, T p.1)).toArray.map fun (p : Nat × Operand) => (p.1, ev ρ p.2)) = ((css.zipIdx 0).map fun p => (p.2, Value.agg p.1.toArray)).toArray := by
  rw [List.map_toArray, List.map_map]
  congr 1
  apply List.ext_getElem?
  intro j
  rw [List.getElem?_map, List.getElem?_map, List.getElem?_zipIdx, List.getElem?_zipIdx]
  cases hj : (scSl l k)[j]? with
  | none =>
   have : css[j]? = none := by
    rw [List.getElem?_eq_none_iff] at hj ⊢
    rw [ztr] at hj; omega
   rw [this]; rfl
  | some s =>
   obtain ⟨c, hc, hv⟩ := hs j s hj
   rw [hc]
   simp [hv]
 rw [hfl] at hb
 rw [zcx, e, hb]
 simp only [stepV_ok]
 rw [hfl] at hf1
 exact hK _ _ m1 hf1
theorem zqk {l : List SC} (h : scB l = true) : (l.all SC.partsB) = true ∧ zmn l 0 < 90 ∧ 0 < l.length ∧ l.length < 1000 := by
 unfold scB at h
 simp only [Bool.and_eq_true] at h
 obtain ⟨⟨⟨h1, h2⟩, h3⟩, h4⟩ := h
 exact ⟨h1, by simpa using h2, by simpa using h3, by simpa using h4⟩
theorem mk_flds (S : SpT P N M) {l : List SC} (hB : scB l = true) (hok : scOk P l) {f : FuncId} (hf : FOk P f 0 (c_flds M l) [.var 0]) : MkOk P f (SC.flds l) := by
 intro w
 obtain ⟨b1, b2, b3, b4⟩ := zqk hB
 refine hf.call rfl fun loc N' hlo => ?_
 unfold c_flds seqs seqs seqs
 refine zc fun K hK => zao (hK _ _ ?_)
 clear hK K
 refine zc fun K hK => zw fun τ => zmr _ _ _ _ (znl S l 0 _ w w b1 hok (.refl _ _) (fun ρ w1 css h1 h2 h3 m1 => ?_) b2)
 rw [runR]
 refine zql S h2 h3 b3 b4 fun r w2 m2 hr => ?_
 simp +decide only [runR, zjw, ev_tmp, zhc, sel_true, BEq.rfl]
 refine hK _ _ (zd fun σ' hσ => zbk ⟨.inr rfl, _, rfl, ?_⟩)
 have q := hσ 0
 simp +decide only [bE, BEq.rfl, Nat.zero_add] at q
 rw [q]
 exact ⟨hr, m1.trans' m2⟩
theorem mk_msg (S : SpT P N M) {l : List SC} {fl : Int} (hB : scB l = true) (hok : scOk P l) {f : FuncId} (hf : FOk P f 0 (c_msg M l fl) [.cell 0 M.zas]) (w : World) :
  Call P f #[] w fun r w' => ∃ fv, r = .agg [fv, .int .i64 fl].toArray ∧ zfw w' fv (SC.flds l) ∧ Mod w w' zp := by
 obtain ⟨b1, b2, b3, b4⟩ := zqk hB
 refine hf.call rfl fun loc N' hlo => ?_
 unfold c_msg seqs seqs seqs
 obtain ⟨fs', hti, _⟩ := S.msg.out
 obtain ⟨w0, hw0⟩ : ∃ w0, w0 = w.alloc (.cells (Value.cells (.agg ([.slice none 0 0, .int .i64 0] : List Value).toArray)) M.zas) := ⟨_, rfl⟩
 have hal := fun old => hti.run_alloc (P := P) (w := w) old
 rw [← hw0] at hal
 have m0 : Mod w w0 zp := by rw [hw0]; exact Mod.alloc _ _ _
 have s0 : w0.heap.size = w.heap.size + 1 := by rw [hw0]; exact zak _ _
 have t0 : w0.there w.heap.size 0 2 := by rw [hw0]; exact zbq w _ M.zas
 have r0 : w0.rangeAt w.heap.size 0 [.slice none 0 0, .int .i64 0] := by rw [hw0]; exact zu w _ _ _
 have c0 : ∀ i, 2 ≤ i → w0.cell? ⟨w.heap.size, i, none⟩ = none := by
  intro i hi
  rw [hw0]
  simp only [World.cell?, zlg]
  have : (Value.cells (.agg ([.slice none 0 0, .int .i64 0] : List Value).toArray)).size = 2 := rfl
  simp [this]; omega
 clear hw0
 refine zc fun K hK => zw fun τ => ?_
 simp +decide only [runR, zlm, hal, stepV_ok]
 refine hK _ _ (zd fun σ1 hσ => ?_)
 have a0 := hσ 0
 simp +decide only [bE, BEq.rfl, Nat.zero_add] at a0
 clear hσ hK K
 refine zc fun K hK => zw fun τ => zmr _ _ _ _ (znl S l 0 _ w0 w0 b1 hok (.refl _ _) (fun ρ w1 css h1 h2 h3 m1 => ?_) b2)
 rw [runR]
 refine zql S h2 h3 b3 b4 fun r w2 m2 hr => ?_
 have hv0 : ρ 100 = .pointer (some ⟨w.heap.size, 0, none⟩) := by
  rw [h1 100 (.inr (Nat.le_refl _)), zky]; simp +decide only [bE, decide_false, Nat.reduceSub, a0]
 obtain ⟨n, hn⟩ : ∃ n, n = zmn l 0 := ⟨_, rfl⟩
 rw [← hn] at b2 ⊢
 have hbuild : (Instr.build M.zas #[(1, .int .i64 fl), (0, r)]).run P w2 = .ok (.agg [r, .int .i64 fl].toArray) w2 := S.msg.run_build (by simp [Instr.fill, zcn hr.one, zcn (show (Value.int .i64 fl).oneCell' = true from rfl)])
 have m02 := m1.trans' m2
 have hst := hti.run_store (w := w2) (b := w.heap.size) (o := 0) (v := .agg [r, .int .i64 fl].toArray) (cs := [r, .int .i64 fl]) rfl rfl (m02.there (by omega) t0) (by
  intro c hc; simp at hc; rcases hc with rfl | rfl
  ·exact hr.one
  ·rfl)
 obtain ⟨w3, hw3⟩ : ∃ w3, w3 = w2.setCells w.heap.size 0 [r, .int .i64 fl] := ⟨_, rfl⟩
 have m3 : Mod w2 w3 (blk w.heap.size) := by rw [hw3]; exact Mod.setCells _ _ _ fun _ _ _ _ => rfl
 have r3 : w3.rangeAt w.heap.size 0 [r, .int .i64 fl] := by
  rw [hw3]
  exact zal [r, .int .i64 fl] 0 w2 _ (zv m02 r0) (Nat.le_refl _)
 rw [← hw3] at hst
 clear hw3
 have e1 : (n == n + 1) = false := beq_eq_false_iff_ne.2 (by omega)
 have e2 : (100 == n + 1) = false := beq_eq_false_iff_ne.2 (by omega)
 have e3 : (100 == n) = false := beq_eq_false_iff_ne.2 (by omega)
 have ep : (#[(1, Operand.const (.int .i64 fl)), (0, T n)].map fun (p : Nat × Operand) => (p.1, ev (put ρ (some n) r) p.2)) = #[(1, .int .i64 fl), (0, r)] := by simp [zhc, sel]
 simp +decide only [runR, zfr, ep, hbuild, stepV_ok, zeh, ev_tmp, zhc, sel_true, sel_false, BEq.rfl, e2, e3, hv0, hst, stepU_ok]
 have m03 : Mod w w3 zp := (m0.trans' m02).fresh m3 fun k o h => by have : k = w.heap.size := h; omega
 refine hK _ _ (zd fun σ' hσ => zbk ⟨.inr rfl, .agg [r, .int .i64 fl].toArray, ?_, r, rfl, ?_, m03⟩)
 ·have q := hσ 0
  rw [show (0 + 100 : Nat) = 100 from rfl] at q
  simp +decide only [zhc, e2, e3, sel_false, hv0] at q
  refine ⟨_, q, ?_⟩
  have := hti.run_load (w := w3) (b := w.heap.size) (o := 0) r3 rfl (fun h => by cases h)
  have e : (Instr.loadAt M.zas (.pointer (some ⟨w.heap.size, 0, none⟩))).run P w3 = (loadVar M.zas ⟨w.heap.size, 0, none⟩).run P w3 := by simp [Instr.loadAt, Instr.sureAddr]
  rw [← e, this]; rfl
 ·refine hr.but m3 fun i hi => ?_
  have h1 := m02.isCell w.heap.size i (by omega)
  have h2 : w0.cell? ⟨w.heap.size, i, none⟩ = none := c0 i (by omega)
  rw [h2] at h1
  cases hc : w2.cell? ⟨w.heap.size, i, none⟩ with
  | none => rfl
  | some x => rw [hc] at h1; cases h1
end
section
variable {P : Program} {N : Nums} {M : zcl}
theorem OctA.argOct {w : World} {v : Value} {s : List UInt8} (h : OctA w v s) : zrt w v s := by
 rcases h with ⟨ad, c, e, h⟩ | ⟨b, o, c, e, h1, h2⟩
 ·exact .inl ⟨ad, c, e, h⟩
 ·cases s with
  | nil => exact .inl ⟨_, c, e, rfl⟩
  | cons x s =>
   have h0 := h2 0 (zbg x) rfl
   refine .inr ⟨_, c, e, h1, zbe (by rw [h0]; rfl), fun j y hj => ?_⟩
   rw [Addr.add_mid]
   exact h2 j (zbg y) (by rw [List.getElem?_map, hj]; rfl)
def verB (m : Msg) (fx : Bool) (sf : List Fld) (fl : Int) (k : Nat) : Bool :=
 (List.range (k + 1)).all fun v => m.fs.matB (fx && decide ((v : Int) ≥ m.fl)) v sf && (fx && decide ((v : Int) ≥ m.fl) || (sf.any fun f => f.has v) || m.fs.offB (fx && decide ((v : Int) ≥ m.fl)) v) && (zon fl v == (fx && decide ((v : Int) ≥ m.fl)))
theorem verB_at {m : Msg} {fx : Bool} {sf : List Fld} {fl : Int} {k : Nat} (h : verB m fx sf fl k = true) {v : Nat} (hv : v ≤ k) : m.fs.matB (fx && decide ((v : Int) ≥ m.fl)) v sf = true ∧ (((fx && decide ((v : Int) ≥ m.fl)) = true ∨ (sf.any fun f => f.has v) = true) ∨ m.fs.offB (fx && decide ((v : Int) ≥ m.fl)) v = true) ∧ zon fl v = (fx && decide ((v : Int) ≥ m.fl)) := by
 unfold verB at h
 rw [List.all_eq_true] at h
 have := h v (List.mem_range.2 (by omega))
 simp only [Bool.and_eq_true, Bool.or_eq_true, beq_iff_eq] at this
 obtain ⟨⟨h1, h2⟩, h3⟩ := this
 exact ⟨h1, by simpa using h2, h3⟩
theorem fits_of {t : Tr} (h : szT t ≤ 1048576) : fitsT t := by
 have h1 := zsf t
 have hl : ∀ l : List Tr, l.length ≤ szTs l := by
  intro l
  induction l with
  | nil => simp
  | cons x l ih => have := zwo x; simp only [szTs, List.length_cons]; omega
 have hu : ∀ u : List (Nat × List UInt8), u.length ≤ szU u ∧ ∀ x ∈ u, x.2.length ≤ szU u := by
  intro u
  induction u with
  | nil => exact ⟨by simp, fun x hx => by cases hx⟩
  | cons x u ih =>
   have e : szU (x :: u) = 1 + x.2.length + szU u := by simp [szU]
   refine ⟨by rw [e, List.length_cons]; omega, fun y hy => ?_⟩
   rcases List.mem_cons.1 hy with hy | hy
   ·rw [hy, e]; omega
   ·have := ih.2 y hy; rw [e]; omega
 have h2 := hl t.l
 have h3 := hu t.u
 exact ⟨by omega, by omega, by omega, fun x hx => by have := h3.2 x hx; omega⟩
end
section
open Go Go.RowKit Go.ChangeShapes Go.WideShapes
theorem treeArg_of {P : Program} {N : Nums} {H : Type} {enc : TypeId × Value → H} {B : DataW H → Nat} {BA : List (DataW H) → Nat} {W : World} {v : Value} {d : DataW H} {p : List MemPlace} {base : Nat} (T : TreeO P N) (Bs : Base P N) (hT : zfq P N N.ze N.zaa N.zy N.zj) (hB : BulkF B BA)
  (hok : Value.okWide P W .any base N.ze v) (h : DataW.Trod enc P W 0 (fun _ => true) true N.ze v d p) : ∃ t ct, v = .agg ct.toArray ∧ RepA W t ct ∧ wfT t ∧ szT t ≤ B d := by
 obtain ⟨fs, hu, _⟩ := T.tree
 unfold Value.okWide at hok
 rw [hu] at hok
 obtain ⟨cs, rfl, _⟩ := hok
 obtain ⟨fuel, hf⟩ := h
 obtain ⟨t, h1, h2, h3⟩ := tree_open T Bs hT hB fuel cs.toList (d, p) hf
 exact ⟨t, cs.toList, by simp, h1, h2, h3⟩
end
def Fds.setD : Fds → List Val → List Val
 | .cons _ (.pr _ (some d)) r, _ :: l => .num d :: r.setD l
 | .cons _ _ r, v :: l => v :: r.setD l
 | _, l => l
theorem Fds.setD_ok : ∀ (fs : Fds) (l : List Val), fs.dOk → fs.okV l → fs.okV (fs.setD l)
 | .nil, l, _, h => h
 | .tags, l, _, h => h
 | .cons g t r, [], _, h => by simp only [Fds.okV] at h
 | .cons g t r, v :: l, hd, h => by
  cases t with
  | pr k d =>
   cases d with
   | none => exact ⟨h.1, Fds.setD_ok r l hd.2 h.2⟩
   | some d => exact ⟨by have := hd.1; simpa [Ty.okV] using this, Fds.setD_ok r l hd.2 h.2⟩
  | txt k => exact ⟨h.1, Fds.setD_ok r l hd h.2⟩
  | arr st nul e => exact ⟨h.1, Fds.setD_ok r l hd.2 h.2⟩
  | row T p f fs => exact ⟨h.1, Fds.setD_ok r l hd.2 h.2⟩
section
variable {P : Program} {N : Nums}
theorem zxq (B : Base P N) {loc : List Nat} {N' : Nat} {Q : Exit → Env → World → Prop} {σ : Env} {Tt : TypeId} {b o : Nat} (h0 : σ 0 = .pointer (some ⟨b, o, none⟩)) {w0 : World} {G : Nat → Prop} : ∀ (fs : Fds) (l : List Val) (css : List (List Value)) (idx off : Nat) (w : World), fs.plain → fs.hf P Tt idx off → w.there b (o + off) fs.sz → b < w.heap.size → fs.okV l → RepL w0 G l css → w.rangeAt b (o + off) css.flatten →
  (∀ w' css', Mod w w' (rng b (o + off) fs.sz) → RepL w0 G (fs.setD l) css' → w'.rangeAt b (o + off) css'.flatten → Q .normal σ w') → WL P loc N' (fs.dfl N Tt idx) Q σ w
 | .nil, _, _, _, _, w, _, _, _, _, _, hr, hz, hQ => hQ w _ (.refl _ _) hr hz
 | .tags, _, _, _, _, w, _, _, _, _, _, hr, hz, hQ => hQ w _ (.refl _ _) hr hz
 | .cons g t r, [], _, _, _, w, _, _, _, _, hv, _, _, _ => by simp only [Fds.okV] at hv
 | .cons g t r, v :: l, css, idx, off, w, hp, hf, ht, hb, hv, hr, hz, hQ => by
  obtain ⟨hf1, hf2⟩ := hf
  obtain ⟨c, rest, rfl, r1, r2⟩ := hr
  have hcl := Ty.rep_len t v hv.1 r1
  rw [List.flatten_cons] at hz
  have hz2 := zk.1 hz
  rw [hcl, Nat.add_assoc] at hz2
  have same : Fds.dfl N Tt (.cons g t r) idx = r.dfl N Tt (idx + 1) → Fds.setD (.cons g t r) (v :: l) = v :: r.setD l → r.plain → WL P loc N' (Fds.dfl N Tt (.cons g t r) idx) Q σ w := by
   intro e2 e3 hpr
   rw [e2]
   refine zxq B h0 r l rest (idx + 1) (off + t.sz) w hpr hf2 (fun j hj => ?_) hb hv.2 r2 hz2.2 fun w' css' hm hr' hz' => ?_
   ·have := ht (t.sz + j) (by simp only [Fds.sz]; omega)
    rwa [show o + off + (t.sz + j) = o + (off + t.sz) + j by omega] at this
   ·refine hQ w' (c :: css') (hm.mono fun k i _ h => ⟨h.1, by have := h.2.1; omega, by have := h.2.2; simp only [Fds.sz]; omega⟩) (by rw [e3]; exact ⟨c, css', rfl, r1, hr'⟩) ?_
    rw [List.flatten_cons, zk]
    refine ⟨hm.rangeAt hb (fun i h1 h2 h => by have := h.2.1; rw [hcl] at h2; omega) hz2.1, ?_⟩
    rw [hcl, Nat.add_assoc]; exact hz'
  cases t with
  | pr k d =>
   cases d with
   | none => exact same rfl rfl hp
   | some d =>
    obtain ⟨h1, h2, h3⟩ := hp
    have hk1 := pk_sz h1
    have hc1 : c.length = 1 := by rw [hcl]; exact hk1
    refine zbh fun K hK => W_cDf B h1 h2 hf1 h0 (fun j hj => by have := ht j (by simp only [Fds.sz, Ty.sz]; omega); exact this) (hK _ _ ?_)
    have m1 : Mod w (w.setCell ⟨b, o + off, none⟩ d) (rng b (o + off) 1) := Mod.setCell fun _ => ⟨rfl, Nat.le_refl _, by omega⟩
    refine zxq B h0 r l rest (idx + 1) (off + (Ty.pr k (some d)).sz) _ h3 hf2 (fun j hj => ?_) (by simpa [World.setCell] using hb) hv.2 r2 (m1.rangeAt hb (fun i h1 h2 h => by have := h.2.2; simp only [Ty.sz] at h1; omega) hz2.2) fun w' css' hm hr' hz' => ?_
    ·have := m1.there hb ht (k.sz + j) (by simp only [Fds.sz, Ty.sz]; omega)
     simp only [Ty.sz]
     rwa [show o + off + (k.sz + j) = o + (off + k.sz) + j by omega] at this
    ·simp only [Ty.sz] at hm hz'
     refine hQ w' ([d] :: css') (m1.trans hm fun k' i _ h => h.elim (fun h => ⟨h.1, h.2.1, by have := h.2.2; simp only [Fds.sz, Ty.sz]; omega⟩) (fun h => ⟨h.1, by have := h.2.1; omega, by have := h.2.2; simp only [Fds.sz, Ty.sz]; omega⟩)) ⟨[d], css', rfl, by simp only [Rep]; rw [zcn h2], hr'⟩ ?_
     rw [List.flatten_cons, zk]
     have hz1 : w.cell? ⟨b, o + off, none⟩ = some (c[0]'(by omega)) := by
      have := hz2.1 0 (c[0]'(by omega)) (by rw [List.getElem?_eq_getElem])
      simpa using this
     refine ⟨?_, ?_⟩
     ·have : (w.setCell ⟨b, o + off, none⟩ d).rangeAt b (o + off) [d] := zfn.2 (World.cell?_setCell_same _ _ _ hz1)
      exact hm.rangeAt (by simpa [World.setCell] using hb) (fun i h1 h2 h => by have := h.2.1; simp at h2; omega) this
     ·rw [hk1] at hz'
      simpa [Nat.add_assoc] using hz'
  | txt k => exact same rfl rfl hp
  | arr st nul e => exact same rfl rfl hp
  | row T' pT f fs => exact same rfl rfl hp.2
theorem msg_dfltV (B : Base P N) {m : Msg} {fx : Bool} (hm : MsgT P N m fx) {w0 w : World} {G : Nat → Prop} {M : Nat} {l : List Val} {css : List (List Value)} (ht : w.there M 0 (m.fs.sz + 1)) (hM : M < w.heap.size) (hv : m.fs.okV l) (hr : RepL w0 G l css) (hz : w.rangeAt M 1 css.flatten) :
  Call P m.dflt #[.pointer (some ⟨M, 0, none⟩)] w fun _ w' => Mod w w' (rng M 1 m.fs.sz) ∧ ∃ css', RepL w0 G (m.fs.setD l) css' ∧ w'.rangeAt M 1 css'.flatten := by
 refine hm.dflt.call rfl fun loc N' hlo => ?_
 have fin : ∀ w' css', Mod w w' (rng M (0 + 1) m.fs.sz) → RepL w0 G (m.fs.setD l) css' → w'.rangeAt M (0 + 1) css'.flatten → retQ P [] (fun _ w' => Mod w w' (rng M 1 m.fs.sz) ∧ ∃ css', RepL w0 G (m.fs.setD l) css' ∧ w'.rangeAt M 1 css'.flatten) .normal (zcm #[.pointer (some ⟨M, 0, none⟩)]) w' :=
  fun w' css' hm hr hz => ⟨.inl rfl, .tuple #[], rfl, hm, css', hr, hz⟩
 have key := zxq B (loc := loc) (N' := N') (Q := retQ P [] (fun _ w' => Mod w w' (rng M 1 m.fs.sz) ∧ ∃ css', RepL w0 G (m.fs.setD l) css' ∧ w'.rangeAt M 1 css'.flatten)) (σ := zcm #[.pointer (some ⟨M, 0, none⟩)]) (Tt := m.tT) (b := M) (o := 0) (zau _) m.fs l css 1 1 w hm.plain hm.hf
  (fun j hj => by have := ht (1 + j) (by omega); simpa [Nat.add_assoc] using this) hM hv hr hz fin
 cases hl : m.fs.dfl N m.tT 1 with
 | nil => rw [hl] at key; exact zbn key
 | cons x l => rw [hl] at key; exact zjr (by simp) key
end
section
variable (N : Nums)
def zxl (pT newP setV rf tell dflt : Nat) : C := seqs [.ops [⟨some 102, .alloc N.zz, 0, none, []⟩, ⟨some 103, .assign (.const (.bool false)), 0, none, []⟩],
 .ops [⟨some 0, .call ⟨.value (.func newP), #[], #[]⟩, pT, none, []⟩, ⟨some 104, .assign (T 0), 0, none, []⟩],
 .ops [⟨some 0, .move (V 4), 0, none, []⟩, ⟨some 1, .move (V 0), 0, none, []⟩, ⟨some 2, .convert N.zf N.zcf (T 1), 0, none, []⟩, ⟨some 3, .call ⟨.value (.func setV), #[T 0, T 2], #[pT, N.zcf]⟩, N.t_, none, []⟩],
 .seq (.ops [⟨some 0, .move (V 4), 0, none, []⟩, ⟨some 1, .move (V 1), 0, none, []⟩, ⟨some 2, .call ⟨.builtin .append, #[.const (.slice none 0 0), T 1], #[N.za, N.za]⟩, N.za, none, []⟩, ⟨some 3, .call ⟨.value (.func rf), #[T 0, T 2], #[pT, N.za]⟩, N.zgo, none, []⟩, ⟨some 105, .binOp .neq N.zgo (T 3) (.const .nilIface) N.zgo, 0, none, []⟩])
  (.cond 5 (.seq (.ops [⟨some 0, .build N.zz #[], 0, none, []⟩, ⟨none, .store N.zz (V 2) (T 0), 0, none, []⟩, ⟨some 103, .assign (.const (.bool false)), 0, none, []⟩]) .ret) .skip),
 .ops [⟨some 0, .move (V 4), 0, none, []⟩, ⟨some 1, .call ⟨.value (.func dflt), #[T 0], #[pT]⟩, N.t_, none, []⟩],
 .ops [⟨some 0, .move (V 4), 0, none, []⟩, ⟨some 1, .call ⟨.value (.func tell), #[T 0], #[pT]⟩, N.zz, none, []⟩, ⟨none, .store N.zz (V 2) (T 1), 0, none, []⟩, ⟨some 103, .assign (.const (.bool true)), 0, none, []⟩], .ret]
end
def Msg.doorD (m : Msg) (fx : Bool) (ver : Int) (l : List UInt8) : Tr × Bool :=
 match m.rd fx (IntKind.i16.wrap ver) ⟨l, false, l.isEmpty⟩ with
 | none => (zef 0 [] false, false)
 | some x => (m.fs.tr (m.fs.setD x), true)
section
variable {P : Program} {N : Nums}
theorem call_doorD (B : Base P N) (F : Fns P N) (hI : zev P N) {m : Msg} {fx : Bool} {d : zwj} (D : DoorT P N m fx d) {f rf d0 : Nat} {u : Bool} (hd0 : d0 = m.dflt) (hf : FOk P f 2 (zxl N m.pT d.newP d.setV rf d.tell d0) [.cell 2 N.zz, .var 3]) (hrf : FOk P rf 2 (c_rf N m.pT d.readf u) [.var 2])
  {w : World} {v : Value} {l : List UInt8} {n : Int} {te : TypeId} {ve : Value} (ha : zrt w v l) (hl : l.length < 1099511627776) (he : w.cell? ⟨N.zaj, 0, none⟩ = some (.iface te ve)) :
  Call P f #[.int .i64 n, v] w (Doored w (m.doorD fx n l).1 (m.doorD fx n l).2) := by
 refine hf.call rfl fun loc N' hlo => ?_
 unfold zxl
 obtain ⟨ms, hms⟩ : ∃ ms, TI P N.zgo (.interface ms) 1 16 .nilIface := B.error.elim (fun h => ⟨_, h⟩) id
 have hgl : N.zaj < w.heap.size := zbe (by rw [he]; rfl)
 refine zjr (by simp) ?_
 obtain ⟨w1, hal, m1, s1, hres⟩ := zht hI w
 refine zbh fun K hK => zw fun τ => ?_
 simp +decide only [bK, hal]
 refine hK _ _ (zd fun σ1 hσ => ?_)
 have a0 := hσ 0
 have a1 := hσ 1
 have a2 := hσ 2
 have a3 := hσ 3
 simp +decide only [bE, Nat.reduceBeqDiff, BEq.rfl, Nat.reduceAdd, Nat.zero_add, zjq, zgh] at a0 a1 a2 a3
 clear hσ hK K hal
 refine zbh fun K hK => zw fun τ => ?_
 simp +decide only [bK]
 rw [zjf D.newP.has]
 refine (call_new B D w1).mono ?_
 rintro v2 w2 ⟨rfl, m2, t2, ⟨x2, hx2⟩, r2, l2⟩
 refine hK _ _ (zd fun σ2 hσ => ?_)
 have b0 := hσ 0
 have b1 := hσ 1
 have b2 := hσ 2
 have b3 := hσ 3
 have b4 := hσ 4
 simp +decide only [bE, Nat.reduceBeqDiff, BEq.rfl, Nat.reduceAdd, Nat.zero_add, a0, a1, a2, a3] at b0 b1 b2 b3 b4
 clear hσ hK K a0 a1 a2 a3
 obtain ⟨M, hM⟩ : ∃ M, M = w1.heap.size := ⟨_, rfl⟩
 rw [← hM] at t2 hx2 r2 l2 b4
 have m02 : Mod w w2 zp := m1.trans' m2
 refine zbh fun K hK => zw fun τ => ?_
 have hcv := fun {w : World} => zbj (P := P) (w := w) (k' := .i64) B.int B.int16 (n := n) ⟨_, rfl⟩
 simp +decide only [bK, bE, Nat.reduceBeqDiff, BEq.rfl, Nat.reduceAdd, Nat.zero_add, b0, b4, hcv]
 rw [zce D.setV.has]
 simp +decide only [bK, bE, Nat.reduceBeqDiff, BEq.rfl]
 refine (call_set B D (IntKind.i16.wrap n) t2 hx2).mono ?_
 rintro v3 w3 ⟨m3, hv3, s3⟩
 refine hK _ _ (zd fun σ3 hσ => ?_)
 have c1 := hσ 1
 have c2 := hσ 2
 have c3 := hσ 3
 have c4 := hσ 4
 simp +decide only [bE, Nat.reduceBeqDiff, Nat.reduceAdd, b1, b2, b3, b4] at c1 c2 c3 c4
 clear hσ hK K b0 b1 b2 b3 b4
 have m03 : Mod w w3 zp := m02.fresh m3 fun k o h => by have := h.1; omega
 have t3 := m3.there l2 t2
 have r3 : w3.rangeAt M 1 m.fs.ini := m3.rangeAt l2 (fun i h1 _ h => by have := h.2.2; omega) r2
 have ha3 : zrt w3 v l := ha.stay m03 fun a h => World.cell?_of_block (m03.block _ h fun _ h => h)
 obtain ⟨vb, w4, hcp, hb4, m4⟩ := zwy (ty := N.za) B ha3 hl
 have m04 : Mod w w4 zp := m03.trans' m4
 have s4 := m4.size
 have hv4 : w4.cell? ⟨M, 0, none⟩ = some (.int .i16 (IntKind.i16.wrap n)) := by rw [m4.cell _ _ (by omega) fun h => h]; exact hv3
 have he4 : w4.cell? ⟨N.zaj, 0, none⟩ = some (.iface te ve) := by rw [m04.cell _ _ hgl fun h => h]; exact he
 have R4 : w4.rangeAt w.heap.size 0 zT := m4.rangeAt (by omega) (fun _ _ _ h => h) (m3.rangeAt (by omega) (fun i _ _ h => by have := h.1; omega) (m2.rangeAt (by omega) (fun _ _ _ h => h) hres.r))
 have T4 : w4.there w.heap.size 0 5 := m4.there (by omega) (m3.there (by omega) (m2.there (by omega) hres.t))
 refine zbh fun K hK => zc fun K1 hK1 => zw fun τ => ?_
 simp +decide only [bK, bE, Nat.reduceBeqDiff, BEq.rfl, Nat.reduceAdd, c1, c4, hcp]
 rw [zce hrf.has]
 simp +decide only [bK, bE, Nat.reduceBeqDiff, BEq.rfl]
 refine (call_rf B F D hrf hb4 (Nat.le_refl _) (m4.there (by omega) t3) (by omega) (.inl (by omega)) (by omega) hv4 (m4.rangeAt (by omega) (fun _ _ _ h => h) r3) he4).mono ?_
 intro v5 w5 hpost
 obtain ⟨m5, hpost⟩ := hpost
 have m05 : Mod w w5 zp := m04.fresh m5 fun k o h => by have : k = M := h; omega
 have s5 := m5.size
 have R5 : w5.rangeAt w.heap.size 0 zT := m5.rangeAt (by omega) (fun i _ _ h => by have : w.heap.size = M := h; omega) R4
 have T5 : w5.there w.heap.size 0 5 := m5.there (by omega) T4
 cases hrd : m.rd fx (IntKind.i16.wrap n) ⟨l, false, l.isEmpty⟩ with
 | none =>
  rw [hrd] at hpost
  have hpost : v5 = .iface te ve := hpost
  subst hpost
  simp +decide only [bK, run_isErr hms]
  refine hK1 _ _ (zd fun σ4 hσ => ?_)
  have d2 := hσ 2
  have d5 := hσ 5
  simp +decide only [bE, Nat.reduceBeqDiff, BEq.rfl, Nat.reduceAdd, c2] at d2 d5
  clear hσ hK1 K1
  refine W_if hlo d5 ?_
  simp only [if_true]
  obtain ⟨w6, hst, m6, s6, r6, t6⟩ := zis hI (cs := zT) R5 rfl T5 rfl (by decide)
  refine zc fun K hK => zw fun τ => ?_
  have e0 : ∀ ρ : Env, (#[] : Array (Nat × Operand)).map (fun p => (p.1, ev ρ p.2)) = #[] := fun ρ => by simp
  simp +decide only [bK, bE, Nat.reduceBeqDiff, BEq.rfl, Nat.reduceAdd, e0, build0 hI, d2, hst]
  refine hK _ _ (zd fun σ5 hσ => zbk ?_)
  have g2 := hσ 2
  have g3 := hσ 3
  simp +decide only [bE, Nat.reduceBeqDiff, BEq.rfl, Nat.reduceAdd, d2] at g2 g3
  rw [show m.doorD fx n l = (zef 0 [] false, false) by unfold Msg.doorD; rw [hrd]]
  refine ⟨.inr rfl, .tuple #[.agg zT.toArray, .bool false], ⟨_, _, ⟨_, g2, znm hI r6 rfl⟩, rfl, by rw [g3]⟩, zT, rfl, zgb zhm, m05.fresh m6 fun k o h => by have : k = w.heap.size := h; omega⟩
 | some x =>
  rw [hrd] at hpost
  obtain ⟨rfl, _, css, hrep, hr5, _⟩ := hpost
  simp +decide only [bK, run_isNil hms]
  refine hK1 _ _ (zd fun σ4 hσ => ?_)
  have d2 := hσ 2
  have d4 := hσ 4
  have d5 := hσ 5
  simp +decide only [bE, Nat.reduceBeqDiff, BEq.rfl, Nat.reduceAdd, c2, c4] at d2 d4 d5
  clear hσ hK1 K1
  refine W_if hlo d5 ?_
  simp only [Bool.false_eq_true, if_false]
  refine zbn (hK _ _ ?_)
  clear hK K
  have hov : m.fs.okV x := by
   unfold Msg.rd at hrd
   split at hrd
   ·cases hrd
   ·rename_i l' s' h1
    split at hrd
    ·cases hrd
    ·cases hrd; exact Fds.rd_ok _ _ m.fs D.dok _ _ _ h1
  refine zbh fun K hK => zw fun τ => ?_
  simp +decide only [bK, bE, Nat.reduceAdd, d4]
  rw [zai (by rw [hd0]; exact D.msg.dflt.has)]
  simp +decide only [bK, bE, BEq.rfl, hd0]
  refine (msg_dfltV B D.msg (w0 := w5) (G := GG w3.heap.size w4.heap.size w4.heap.size w5.heap.size) (m5.there (by omega) (m4.there (by omega) t3)) (by omega) hov hrep hr5).mono ?_
  rintro _ w5' ⟨m5', css', hrep', hr5'⟩
  have s5' := m5'.size
  refine hK _ _ (zd fun σ5 hσ => ?_)
  have d2' := hσ 2
  have d4' := hσ 4
  simp +decide only [bE, Nat.reduceBeqDiff, Nat.reduceAdd, d2, d4] at d2' d4'
  clear hσ hK K
  refine zbh fun K hK => zw fun τ => ?_
  simp +decide only [bK, bE, Nat.reduceAdd, d4']
  rw [zai D.tell.has]
  simp +decide only [bK, bE, Nat.reduceBeqDiff, BEq.rfl]
  refine (D.tell.ok w5' (GG w3.heap.size w4.heap.size w4.heap.size w5.heap.size) M 0 (m.fs.setD x) css' (fun k h => by rcases h with h | h <;> omega) (by omega) (Fds.setD_ok _ _ D.dok hov) (RepL.mod m5' (fun k h => ⟨by rcases h with h | h <;> omega, fun _ h' => by have := h'.1; rcases h with h | h <;> omega, h⟩) _ hrep') hr5').mono ?_
  rintro v6 w6 ⟨cs, rfl, hrep6, m6⟩
  have s6 := m6.size
  have R6 := m6.rangeAt (by omega) (fun _ _ _ h => h) (m5'.rangeAt (by omega) (fun i _ _ h => by have := h.1; omega) R5)
  have T6 := m6.there (by omega) (m5'.there (by omega) T5)
  obtain ⟨w7, hst, m7, s7, r7, t7⟩ := zis hI R6 rfl T6 hrep6.len hrep6.one
  simp +decide only [bK, d2', hst]
  refine hK _ _ (zd fun σ6 hσ => zbh fun K2 hK2 => zbk ?_)
  have g2 := hσ 2
  have g3 := hσ 3
  simp +decide only [bE, Nat.reduceBeqDiff, BEq.rfl, Nat.reduceAdd, d2'] at g2 g3
  rw [show m.doorD fx n l = (m.fs.tr (m.fs.setD x), true) by unfold Msg.doorD; rw [hrd]]
  refine ⟨.inr rfl, .tuple #[.agg cs.toArray, .bool true], ⟨_, _, ⟨_, g2, znm hI r7 hrep6.len⟩, rfl, by rw [g3]⟩, cs, rfl, RepT.mod (G := NB w5'.heap.size w6.heap.size) m7 (fun k hk => ⟨hk.2, fun o h => by have := hk.1; have : k = w.heap.size := h; omega, by have := hk.1; omega, by have := hk.2; omega⟩) _ hrep6, ((m05.fresh m5' fun k o h => by have := h.1; omega).trans' m6).fresh m7 fun k o h => by have : k = w.heap.size := h; omega⟩
end
def Fds.dfdB : Fds → List Fld → Bool
 | _, [] => true
 | .cons _ ty r, f :: fs => (decide (f.dflt = 0) || (match ty with
  | .pr k (some d) => decide ((Ty.tr (.pr k (some d)) (.num d)).n = numK f.kind f.dflt)
  | _ => false)) && r.dfdB fs
 | _, _ :: _ => false
theorem setD_at : ∀ (fs : Fds) (sf : List Fld) (l : List Val), fs.dfdB sf = true → fs.okV l → ∀ (i : Nat) (f : Fld), sf[i]? = some f → f.dflt ≠ 0 → ∃ y, (fs.trs (fs.setD l))[i]? = some y ∧ y.n = numK f.kind f.dflt
 | _, [], _, _, _, i, f, h, _ => by simp at h
 | .nil, _ :: _, _, h, _, _, _, _, _ => by simp [Fds.dfdB] at h
 | .tags, _ :: _, _, h, _, _, _, _, _ => by simp [Fds.dfdB] at h
 | .cons g ty r, _ :: _, [], _, hv, _, _, _, _ => by simp only [Fds.okV] at hv
 | .cons g ty r, f :: fs, v :: l, hB, hv, i, f', h, hne => by
  obtain ⟨v', hs, hn⟩ : ∃ v', Fds.setD (.cons g ty r) (v :: l) = v' :: r.setD l ∧ ∀ k d, ty = .pr k (some d) → v' = .num d := by
   cases ty with
   | pr k d =>
    cases d with
    | none => exact ⟨v, rfl, fun _ _ h => by cases h⟩
    | some d => exact ⟨.num d, rfl, fun _ _ h => by cases h; rfl⟩
   | txt k => exact ⟨v, rfl, fun _ _ h => by cases h⟩
   | arr st nul e => exact ⟨v, rfl, fun _ _ h => by cases h⟩
   | row T p d fs => exact ⟨v, rfl, fun _ _ h => by cases h⟩
  rw [hs, Fds.trs]
  simp only [Fds.dfdB, Bool.and_eq_true] at hB
  cases i with
  | zero =>
   simp only [List.getElem?_cons_zero, Option.some.injEq] at h
   subst h
   refine ⟨_, rfl, ?_⟩
   have h1 := hB.1
   simp only [hne, decide_false, Bool.false_or] at h1
   split at h1
   ·rw [hn _ _ rfl]
    simpa using h1
   ·cases h1
  | succ i =>
   simp only [List.getElem?_cons_succ] at h ⊢
   exact setD_at r fs l hB.2 hv.2 i f' h hne
structure FP (P : Program) (T : TypeId) (k off : Nat) : Prop where
 out : ∃ fs f d, P.underlying T = some (.struct fs) ∧ fs[k]? = some f ∧ f.offset = off ∧ P.underlying f.type = some d ∧ zpc d = false
def fpB (P : Program) (t : TypeId) (k off : Nat) : Bool :=
 match P.underlying t with
 | some (.struct fs) => (match fs[k]? with
  | some f => Nat.beq f.offset off && (match P.underlying f.type with | some d => !zpc d | none => false)
  | none => false)
 | _ => false
theorem fpB_ok {P : Program} {t : TypeId} {k off : Nat} (h : fpB P t k off = true) : FP P t k off := by
 unfold fpB at h
 split at h
 ·rename_i fs hfs
  split at h
  ·rename_i f hf
   rw [Bool.and_eq_true] at h
   have h2 := h.2
   split at h2
   ·rename_i d hd
    exact ⟨fs, f, d, hfs, hf, by simpa using h.1, hd, by simpa using h2⟩
   ·cases h2
  ·cases h
 ·cases h
theorem FP.run {P : Program} {T : TypeId} {k off : Nat} (h : FP P T k off) {w : World} {cs : List Value} {v : Value} (hv : cs[off]? = some v) : (Instr.field T (.agg cs.toArray) k).run P w = .ok v w := by
 obtain ⟨fs, f, d, h1, h2, h3, h4, h5⟩ := h.out
 subst h3
 have hu : ∀ {t : TypeId} {d : TypeDesc}, P.underlying t = some d → (underlying t).run P w = .ok d w := fun h => by simp [underlying, program, Sem.run, bind, Sem.bind, h, pure]
 have hi : (isAgg f.type).run P w = .ok false w := by
  unfold isAgg
  rw [Sem.run_bind, hu h4]
  cases d <;> first | rfl | cases h5
 unfold Instr.field
 rw [Sem.run_bind, hu h1]
 simp only [Result.andThen_ok, h2, asAgg, part, Sem.run_bind, Sem.run_pure, hi, Bool.false_eq_true, if_false]
 have : cs.toArray[f.offset]? = some v := by simpa using hv
 rw [this]; rfl
section
variable {P : Program} {N : Nums} {M : zcl}
structure DSt (w0 : World) (σ : Env) (w : World) (fv : Value) (bT n j : Nat) : Prop where
 h2 : σ 2 = .pointer (some ⟨bT, 0, none⟩)
 h4 : σ 4 = fv
 h5 : σ 5 = .int .i64 n
 h6 : σ 6 = .int .i64 j
 le : j ≤ n
 mod : Mod w0 w zp
theorem DSt.upd {w0 w : World} {σ : Env} {fv : Value} {bT n j : Nat} (h : DSt w0 σ w fv bT n j) {i : Nat} (hi : 7 ≤ i) (x : Value) : DSt w0 (upd σ i x) w fv bT n j := by
 obtain ⟨h2, h4, h5, h6, le, mod⟩ := h
 refine ⟨?_, ?_, ?_, ?_, le, mod⟩ <;> (rw [zg (by omega)]; assumption)
theorem DSt.stay {w0 w w' : World} {σ : Env} {fv : Value} {bT n j : Nat} (h : DSt w0 σ w fv bT n j) (m : Mod w w' zp) : DSt w0 σ w' fv bT n j := ⟨h.h2, h.h4, h.h5, h.h6, h.le, h.mod.trans' m⟩
theorem DSt.same {w0 w : World} {σ σ' : Env} {fv : Value} {bT n j : Nat} (h : DSt w0 σ w fv bT n j) (h2 : σ' 2 = σ 2) (h4 : σ' 4 = σ 4) (h5 : σ' 5 = σ 5) (h6 : σ' 6 = σ 6) : DSt w0 σ' w fv bT n j := ⟨h2.trans h.h2, h4.trans h.h4, h5.trans h.h5, h6.trans h.h6, h.le, h.mod⟩
theorem DSt.next {w0 w : World} {σ : Env} {fv : Value} {bT n j : Nat} (h : DSt w0 σ w fv bT n j) (hj : j < n) : DSt w0 (Go.Kf.upd σ 6 (.int .i64 ((j + 1 : Nat) : Int))) w fv bT n (j + 1) := by
 obtain ⟨h2, h4, h5, h6, le, mod⟩ := h
 refine ⟨?_, ?_, ?_, upd_same _ _ _, hj, mod⟩ <;> (rw [zg (by omega)]; assumption)
def dDf (N : Nums) (M : zcl) : List ROp := [
 ⟨some 0, .fieldAddr M.zh (V 8) 5, 0, none, []⟩,
 ⟨some 1, .load N.zbd (T 0), 0, none, [0]⟩,
 ⟨some 2, .binOp .neq N.zbd (T 1) (.const (.int .i64 0)) N.zbd, 0, none, [1]⟩,
 ⟨some 3, .move (T 2), 0, none, [2]⟩,
 ⟨some 4, .load N.ze (V 2), 0, some (some 3, true), [3]⟩,
 ⟨some 5, .move (V 9), 0, some (some 3, true), [3]⟩,
 ⟨some 6, .call ⟨.value (.func M.zgd), #[T 4, T 5], #[N.ze, N.zf]⟩, N.ze, some (some 3, true), [4, 5, 3, 3]⟩,
 ⟨some 7, .field N.ze (T 6) 0, 0, some (some 3, true), [6, 3]⟩,
 ⟨some 8, .fieldAddr M.zh (V 8) 0, 0, some (some 3, true), [3]⟩,
 ⟨some 9, .load N.zf (T 8), 0, some (some 3, true), [8, 3]⟩,
 ⟨some 10, .fieldAddr M.zh (V 8) 5, 0, some (some 3, true), [3]⟩,
 ⟨some 11, .load N.zbd (T 10), 0, some (some 3, true), [10, 3]⟩,
 ⟨some 12, .call ⟨.value (.func M.zdx), #[T 9, T 11], #[N.zf, N.zbd]⟩, N.zbd, some (some 3, true), [9, 11, 6, 3]⟩,
 ⟨some 13, .binOp .neq N.zbd (T 7) (T 12) N.zbd, 0, some (some 3, true), [7, 12, 3]⟩,
 ⟨some 110, .pick (T 3) (T 13) (.const (.bool false)), 0, none, [3, 13]⟩]
def zxm (N : Nums) (M : zcl) : C :=
 .seq (.ops [⟨some 102, .box N.ze (V 1), 0, none, []⟩, ⟨some 103, .assign (.const (.bool false)), 0, none, []⟩]) (
 .seq (.seq (.ops [⟨some 104, .move (V 0), 0, none, []⟩, ⟨some 105, .call ⟨.builtin .len, #[V 4], #[M.zah]⟩, N.zf, none, []⟩, ⟨some 106, .move (.const (.int .i64 0)), 0, none, []⟩])
  (zpm N 6 5 7 0 (.seq (.ops [⟨some 0, .move (V 6), 0, none, []⟩, ⟨some 1, .indexAddr M.zah (V 4) (V 6), 0, none, []⟩, ⟨some 2, .load M.zh (T 1), 0, none, []⟩, ⟨some 108, .alloc M.zh, 0, none, []⟩, ⟨some 109, .assign (T 0), 0, none, []⟩, ⟨none, .store M.zh (V 8) (T 2), 0, none, []⟩])
   (.seq (.draw (dDf N M)) (.cond 10 (.seq (zfp 3 (.bool false)) .ret) .skip)))))
 (.seq (zfp 3 (.bool true)) .ret))
theorem W_df (B : Base P N) (S : SpT P N M) (hW : SW P N M) (hnum : FOk P M.zdx 2 (zge N M) [.var 2]) (hp : FP P N.ze 0 0) {loc : List Nat} {N' : Nat} {Q : Exit → Env → World → Prop} {σ : Env} {w : World} {bT bF j : Nat} {f : Fld} {g : Tr} {cf cg : List Value}
  (h2 : σ 2 = .pointer (some ⟨bT, 0, none⟩)) (h8 : σ 8 = .pointer (some ⟨bF, 0, none⟩)) (h9 : σ 9 = .int .i64 j) (rT : w.rangeAt bT 0 cg) (hg : RepA w g cg) (rF : w.rangeAt bF 0 cf) (hf : RepF w f cf) (lF : bF < w.heap.size) (hd : f.dflt ≠ 0 → (atT g j).n = numK f.kind f.dflt)
  (hQ : ∀ (σ' : Env) (w' : World), (∀ i, i ≠ 10 → σ' i = σ i) → σ' 10 = .bool false → Mod w w' zp → Q .normal σ' w') : W P loc N' (.draw (dDf N M)) Q σ w := by
 have md : Mod w w.drew zp := Mod.drew _ _
 obtain ⟨fv', hcf, _⟩ := hf.out
 have c0 : w.cell? ⟨bF, 0, none⟩ = some (.int .i64 f.kind) := rF 0 _ (by rw [hcf]; rfl)
 have c5 : w.cell? ⟨bF, 5, none⟩ = some (.int .i64 f.dflt) := rF 5 _ (by rw [hcf]; rfl)
 refine zke B.mixed [true, true, true, true, true, true, false, false, true, true, true, true, false, false, false] rfl (by kernel_rfl) (fun w' => Mod w w' zp) md fun τ => ?_
 have fin : ∀ {ρ : Env} {w' : World} {b c : Bool}, ρ 3 = .bool b → (b = true → ρ 13 = .bool false) → (∀ k, ρ (k + 100) = σ k) → Mod w w' zp →
   anyC P (fun w' => Mod w w' zp) (dDf N M) (rdOf [true, true, true, true, true, true, false, false, true, true, true, true, false, false, false]) (fun ρ w => Q .normal (locs ρ) w) (0 + 1) [14] ρ w' := by
  intro ρ w' b c e3 e13 eσ m
  refine zcz [14] (by kernel_rfl) fun k hk => ?_
  simp only [List.mem_cons, List.not_mem_nil, or_false] at hk
  subst hk
  show zbl P ⟨some 110, .pick (T 3) (T 13) (.const (.bool false)), 0, none, [3, 13]⟩ _ _ _
  have hpk : (do pure (if ← asBool (ev ρ (T 3)) then ev ρ (T 13) else ev ρ (.const (.bool false))) : Sem Value).run P w' = .ok (.bool false) w' := by
   rw [ev_tmp, ev_tmp, e3]
   cases b with
   | true => rw [e13 rfl]; rfl
   | false => rfl
  rw [zcj, hpk, stepV_ok]
  refine ⟨.inr m, ?_⟩
  show Q .normal _ _
  refine zd (K := fun σ' w' => Q .normal σ' w') fun σ' hσ => hQ σ' w' (fun i hi => ?_) ?_ m
  ·rw [hσ i]
   have x1 : (i + 100 == 110) = false := beq_eq_false_iff_ne.2 (by omega)
   simp +decide only [bE, x1, eσ]
  ·have q := hσ 10
   simp +decide only [bE, BEq.rfl, Nat.reduceAdd] at q
   exact q
 refine zb (.pointer (some ⟨bF, 5, none⟩)) (fun w' _ => zn (by
  simp +decide only [bE, Nat.reduceAdd, Nat.zero_add, ev_tmp, h8, S.f5.run])) rfl ?_
 refine zb (.int .i64 f.dflt) (fun w' hw => zn (by
  simp +decide only [bE, BEq.rfl, ev_tmp, B.int64.run_load1 rfl, hw.cell _ _ lF fun h => h, c5, ldc_some])) rfl ?_
 refine zb (.bool (f.dflt != 0)) (fun w' hw => zn (by
  simp +decide only [bE, BEq.rfl, ev_tmp, ev_const, ztu])) rfl ?_
 refine zb (.bool (f.dflt != 0)) (fun w' hw => by
  rw [zaz, ev_tmp]
  simp +decide only [bE, BEq.rfl]) rfl ?_
 by_cases hz : f.dflt = 0
 ·have e0 : (f.dflt != 0) = false := by rw [hz]; rfl
  rw [e0]
  refine zjh (by simp +decide only [zcc, bE, BEq.rfl]) ?_
  refine zjh (by simp +decide only [zcc, bE, Nat.reduceBeqDiff, BEq.rfl]) ?_
  simp only []
  refine zjh (by simp +decide only [zcc, bE, Nat.reduceBeqDiff, BEq.rfl]) ?_
  refine zjh (by simp +decide only [zcc, bE, Nat.reduceBeqDiff, BEq.rfl]) ?_
  refine zjh (by simp +decide only [zcc, bE, Nat.reduceBeqDiff, BEq.rfl]) ?_
  refine zjh (by simp +decide only [zcc, bE, Nat.reduceBeqDiff, BEq.rfl]) ?_
  simp only []
  show anyC P _ _ _ _ (4 + 1) [6, 7, 12, 13, 14] _ _
  have nx : ∀ {i : Nat} {C : List Nat} {n : Nat} {ρ : Env} {o : Op} {t : TypeId} {d : Nat} {af : List Nat}, (dDf N M).getD i default = ⟨some d, o, t, some (some 3, true), af⟩ → d < 100 → d ≠ 3 → ρ 3 = .bool false → (∀ k, ρ (k + 100) = σ k) →
    (∀ ρ' : Env, ρ' 3 = .bool false → (∀ k, ρ' (k + 100) = σ k) → anyC P (fun w' => Mod w w' zp) (dDf N M) (rdOf [true, true, true, true, true, true, false, false, true, true, true, true, false, false, false]) (fun ρ w => Q .normal (locs ρ) w) n C ρ' w.drew) →
    zbl P ((dDf N M).getD i default) ρ w.drew fun ρ w' => (znw (dDf N M) (rdOf [true, true, true, true, true, true, false, false, true, true, true, true, false, false, false]) i = true ∨ Mod w w' zp) ∧ anyC P (fun w' => Mod w w' zp) (dDf N M) (rdOf [true, true, true, true, true, true, false, false, true, true, true, true, false, false, false]) (fun ρ w => Q .normal (locs ρ) w) n C ρ w' := by
   intro i C n ρ o t d af e hd1 hd2 h3 hσ h
   rw [e, zby (b := true) h3]
   refine ⟨.inr md, h _ ?_ fun k => ?_⟩
   ·rw [zhc, show (3 == d) = false from beq_eq_false_iff_ne.2 (Ne.symm hd2), sel_false]; exact h3
   ·rw [zhc, show (k + 100 == d) = false from beq_eq_false_iff_ne.2 (by omega), sel_false]; exact hσ k
  refine zcz [6] (by kernel_rfl) fun k hk => ?_
  simp only [List.mem_cons, List.not_mem_nil, or_false] at hk
  subst hk
  refine nx rfl (by decide) (by decide) (by simp +decide only [bE, Nat.reduceBeqDiff, BEq.rfl]) (fun k => by simp +decide only [bE, Nat.reduceBeqDiff]) fun ρ1 h3 hσ1 => ?_
  show anyC P _ _ _ _ (3 + 1) [7, 12, 13, 14] _ _
  refine zcz [7, 12] (by kernel_rfl) fun k hk => ?_
  simp only [List.mem_cons, List.not_mem_nil, or_false] at hk
  have last : ∀ ρ' : Env, ρ' 3 = .bool false → (∀ k, ρ' (k + 100) = σ k) → anyC P (fun w' => Mod w w' zp) (dDf N M) (rdOf [true, true, true, true, true, true, false, false, true, true, true, true, false, false, false]) (fun ρ w => Q .normal (locs ρ) w) (1 + 1) [13, 14] ρ' w.drew := by
   intro ρ' h3 hσ'
   refine zcz [13] (by kernel_rfl) fun k hk => ?_
   simp only [List.mem_cons, List.not_mem_nil, or_false] at hk
   subst hk
   exact nx rfl (by decide) (by decide) h3 hσ' fun ρ' h3 hσ' => fin (c := false) h3 (fun h => by cases h) hσ' md
  rcases hk with rfl | rfl
  ·refine nx rfl (by decide) (by decide) h3 hσ1 fun ρ2 h3 hσ2 => ?_
   show anyC P _ _ _ _ (2 + 1) [12, 13, 14] _ _
   refine zcz [12] (by kernel_rfl) fun k hk => ?_
   simp only [List.mem_cons, List.not_mem_nil, or_false] at hk
   subst hk
   exact nx rfl (by decide) (by decide) h3 hσ2 last
  ·refine nx rfl (by decide) (by decide) h3 hσ1 fun ρ2 h3 hσ2 => ?_
   show anyC P _ _ _ _ (2 + 1) [7, 13, 14] _ _
   refine zcz [7] (by kernel_rfl) fun k hk => ?_
   simp only [List.mem_cons, List.not_mem_nil, or_false] at hk
   subst hk
   exact nx rfl (by decide) (by decide) h3 hσ2 last
 ·have e0 : (f.dflt != 0) = true := by simpa using hz
  have hd := hd hz
  rw [e0]
  refine zfc (.agg cg.toArray) (by simp +decide only [zcc, bE, BEq.rfl]) (fun w' hw => zn (by
   simp +decide only [bE, Nat.reduceBeqDiff, Nat.reduceAdd, ev_tmp, h2]
   exact zes S.tr (zv hw rT) hg.len)) ?_
  refine zfc (.int .i64 j) (by simp +decide only [zcc, bE, Nat.reduceBeqDiff, BEq.rfl]) (fun w' hw => by
   rw [zaz, ev_tmp]
   simp +decide only [bE, Nat.reduceBeqDiff, Nat.reduceAdd, h9]) ?_
  simp only []
  refine zfc (.pointer (some ⟨bF, 0, none⟩)) (by simp +decide only [zcc, bE, Nat.reduceBeqDiff, BEq.rfl]) (fun w' _ => zn (by
   simp +decide only [bE, Nat.reduceBeqDiff, Nat.reduceAdd, Nat.zero_add, ev_tmp, h8, S.f0.run])) ?_
  refine zfc (.int .i64 f.kind) (by simp +decide only [zcc, bE, Nat.reduceBeqDiff, BEq.rfl]) (fun w' hw => zn (by
   simp +decide only [bE, BEq.rfl, ev_tmp, B.int.run_load1 rfl, hw.cell _ _ lF fun h => h, c0, ldc_some])) ?_
  refine zfc (.pointer (some ⟨bF, 5, none⟩)) (by simp +decide only [zcc, bE, Nat.reduceBeqDiff, BEq.rfl]) (fun w' _ => zn (by
   simp +decide only [bE, Nat.reduceBeqDiff, Nat.reduceAdd, Nat.zero_add, ev_tmp, h8, S.f5.run])) ?_
  refine zfc (.int .i64 f.dflt) (by simp +decide only [zcc, bE, Nat.reduceBeqDiff, BEq.rfl]) (fun w' hw => zn (by
   simp +decide only [bE, BEq.rfl, ev_tmp, B.int64.run_load1 rfl, hw.cell _ _ lF fun h => h, c5, ldc_some])) ?_
  simp only []
  show anyC P _ _ _ _ (4 + 1) [6, 7, 12, 13, 14] _ _
  refine zcz [6] (by kernel_rfl) fun k hk => ?_
  simp only [List.mem_cons, List.not_mem_nil, or_false] at hk
  subst hk
  show zbl P ⟨some 6, .call ⟨.value (.func M.zgd), #[T 4, T 5], #[N.ze, N.zf]⟩, N.ze, some (some 3, true), [4, 5, 3, 3]⟩ _ _ _
  rw [zap (b := true) (by simp +decide only [bE, Nat.reduceBeqDiff, BEq.rfl]), zce hW.at_.has]
  simp +decide only [bK, bE, Nat.reduceBeqDiff, BEq.rfl]
  refine (call_at B S hW.at_ (RepA.stay md _ hg) j).mono ?_
  rintro _ w2 ⟨cx, rfl, hx, m2⟩
  have m02 := md.trans' m2
  refine ⟨.inr m02, ?_⟩
  obtain ⟨xs, xl, xu, hcx, _, _, _⟩ := hx.out
  rw [hd] at hcx
  have hfld : ∀ {w' : World}, (Instr.field N.ze (.agg cx.toArray) 0).run P w' = .ok (.int .i64 (numK f.kind f.dflt)) w' := fun {w'} => hp.run (by rw [hcx]; rfl)
  have e : (numK f.kind f.dflt != numK f.kind f.dflt) = false := by simp
  show anyC P _ _ _ _ (3 + 1) [7, 12, 13, 14] _ _
  refine zcz [7, 12] (by kernel_rfl) fun k hk => ?_
  simp only [List.mem_cons, List.not_mem_nil, or_false] at hk
  have last : ∀ ρ' : Env, ρ' 3 = .bool true → ρ' 7 = .int .i64 (numK f.kind f.dflt) → ρ' 12 = .int .i64 (numK f.kind f.dflt) → (∀ k, ρ' (k + 100) = σ k) → anyC P (fun w' => Mod w w' zp) (dDf N M) (rdOf [true, true, true, true, true, true, false, false, true, true, true, true, false, false, false]) (fun ρ w => Q .normal (locs ρ) w) (1 + 1) [13, 14] ρ' w2 := by
   intro ρ' h3 h7 h12 hσ'
   refine zcz [13] (by kernel_rfl) fun k hk => ?_
   simp only [List.mem_cons, List.not_mem_nil, or_false] at hk
   subst hk
   show zbl P ⟨some 13, .binOp .neq N.zbd (T 7) (T 12) N.zbd, 0, some (some 3, true), [7, 12, 3]⟩ _ _ _
   rw [zap (b := true) h3]
   simp +decide only [bK, h7, h12, e]
   refine ⟨.inr m02, ?_⟩
   exact fin (b := true) (c := false) (by simp +decide only [bE, Nat.reduceBeqDiff, h3]) (fun _ => by simp +decide only [bE, BEq.rfl]) (fun k => by
    have : (k + 100 == 13) = false := beq_eq_false_iff_ne.2 (by omega)
    simp +decide only [bE, this, hσ']) m02
  rcases hk with rfl | rfl
  ·show zbl P ⟨some 7, .field N.ze (T 6) 0, 0, some (some 3, true), [6, 3]⟩ _ _ _
   rw [zap (b := true) (by simp +decide only [bE, Nat.reduceBeqDiff, BEq.rfl])]
   simp +decide only [bK, bE, BEq.rfl, hfld]
   refine ⟨.inr m02, ?_⟩
   show anyC P _ _ _ _ (2 + 1) [12, 13, 14] _ _
   refine zcz [12] (by kernel_rfl) fun k hk => ?_
   simp only [List.mem_cons, List.not_mem_nil, or_false] at hk
   subst hk
   show zbl P ⟨some 12, .call ⟨.value (.func M.zdx), #[T 9, T 11], #[N.zf, N.zbd]⟩, N.zbd, some (some 3, true), [9, 11, 6, 3]⟩ _ _ _
   rw [zap (b := true) (by simp +decide only [bE, Nat.reduceBeqDiff, BEq.rfl]), zce hnum.has]
   simp +decide only [bK, bE, Nat.reduceBeqDiff, BEq.rfl]
   refine (zuw B hnum w2 f.kind f.dflt).mono ?_
   rintro r w3 ⟨rfl, rfl⟩
   refine ⟨.inr m02, ?_⟩
   exact last _ (by simp +decide only [bE, Nat.reduceBeqDiff, BEq.rfl]) (by simp +decide only [bE, Nat.reduceBeqDiff, BEq.rfl]) (by simp +decide only [bE, BEq.rfl]) (fun k => by simp +decide only [bE, Nat.reduceBeqDiff])
  ·show zbl P ⟨some 12, .call ⟨.value (.func M.zdx), #[T 9, T 11], #[N.zf, N.zbd]⟩, N.zbd, some (some 3, true), [9, 11, 6, 3]⟩ _ _ _
   rw [zap (b := true) (by simp +decide only [bE, Nat.reduceBeqDiff, BEq.rfl]), zce hnum.has]
   simp +decide only [bK, bE, Nat.reduceBeqDiff, BEq.rfl]
   refine (zuw B hnum w2 f.kind f.dflt).mono ?_
   rintro r w3 ⟨rfl, rfl⟩
   refine ⟨.inr m02, ?_⟩
   show anyC P _ _ _ _ (2 + 1) [7, 13, 14] _ _
   refine zcz [7] (by kernel_rfl) fun k hk => ?_
   simp only [List.mem_cons, List.not_mem_nil, or_false] at hk
   subst hk
   show zbl P ⟨some 7, .field N.ze (T 6) 0, 0, some (some 3, true), [6, 3]⟩ _ _ _
   rw [zap (b := true) (by simp +decide only [bE, Nat.reduceBeqDiff, BEq.rfl])]
   simp +decide only [bK, bE, Nat.reduceBeqDiff, BEq.rfl, hfld]
   refine ⟨.inr m02, ?_⟩
   exact last _ (by simp +decide only [bE, Nat.reduceBeqDiff, BEq.rfl]) (by simp +decide only [bE, BEq.rfl]) (by simp +decide only [bE, Nat.reduceBeqDiff, BEq.rfl]) (fun k => by simp +decide only [bE, Nat.reduceBeqDiff])
theorem sp_dflts (B : Base P N) (S : SpT P N M) (hW : SW P N M) (hnum : FOk P M.zdx 2 (zge N M) [.var 2]) (hp : FP P N.ze 0 0) {df : Nat} (hF : FOk P df 2 (zxm N M) [.var 3]) {w : World} {fv : Value} {fs : List Fld} {g : Tr} {cg : List Value} (hf : zfw w fv fs) (hl : fs.length < 4611686018427387904) (hg : RepA w g cg)
  (h : ∀ (j : Nat) (hj : j < fs.length), fs[j].dflt ≠ 0 → (atT g j).n = numK fs[j].kind fs[j].dflt) : Call P df #[fv, .agg cg.toArray] w (Yes w) := by
 refine hF.call rfl fun loc N' hlo => ?_
 unfold zxm
 refine zc fun K hK => zw fun τ => ?_
 simp +decide only [bK, bE, Nat.reduceAdd]
 obtain ⟨w1, hw1⟩ : ∃ w1, w1 = w.alloc (.cells (Value.cells (.agg cg.toArray)) N.ze) := ⟨_, rfl⟩
 have m1 : Mod w w1 zp := by rw [hw1]; exact Mod.alloc _ _ _
 have r1 : w1.rangeAt w.heap.size 0 cg := by rw [hw1]; exact zu w _ _ _
 have s1 : w1.heap.size = w.heap.size + 1 := by rw [hw1]; exact zak _ _
 rw [← hw1]
 clear hw1
 refine hK _ _ (zd fun σ hσ => ?_)
 have f0 := hσ 0
 have f2 := hσ 2
 simp +decide only [bE, Nat.reduceBeqDiff, BEq.rfl, Nat.reduceAdd, Nat.zero_add, zjq] at f0 f2
 clear hσ hK K
 refine zc fun K hK => zc fun K1 hK1 => zw fun τ => ?_
 simp +decide only [bK, bE, BEq.rfl, Nat.reduceAdd, Nat.zero_add, f0, hf.run_len S]
 refine hK1 _ _ (zd fun σ2 hσ => ?_)
 have b2 := hσ 2
 have b4 := hσ 4
 have b5 := hσ 5
 have b6 := hσ 6
 simp +decide only [bE, Nat.reduceBeqDiff, BEq.rfl, Nat.reduceAdd, f2] at b2 b4 b5 b6
 clear hσ hK1 K1 f0 f2
 obtain ⟨bT, hbT⟩ : ∃ b, b = w.heap.size := ⟨_, rfl⟩
 rw [← hbT] at b2 r1
 refine zhg (i := 6) (l := 5) (c := 7) (k := 0) hlo (L := fs.length) hl (fun j σ w' => DSt w1 σ w' fv bT fs.length j) (fun j σ w h => ⟨h.h6, h.h5, h.le⟩) (fun j σ w b h => h.upd (by decide) _) ⟨b2, b4, b5, b6, Nat.zero_le _, .refl _ _⟩ (fun σ' w' h => hK _ _ ?_) (fun j σ' w' hj st => ?_)
 ·exact zc fun K3 hK3 => zao (hK3 _ _ (zbk ⟨.inr rfl, _, rfl, upd_same _ _ _, m1.trans' h.mod⟩))
 obtain ⟨bb, oo, cc, cs, w2, w3, hv, hr, hix, hld, hal, hst, m23, s3, r3⟩ := zxf S (hf.stay (m1.trans' st.mod)) hj
 refine zc fun K1 hK1 => zw fun τ => ?_
 simp +decide only [bK, bE, Nat.reduceBeqDiff, BEq.rfl, Nat.reduceAdd, Nat.zero_add, st.h4, st.h6, hix, hld, hal, hst]
 refine hK1 _ _ (zd fun σ3 hσ => ?_)
 have d2 := hσ 2
 have d4 := hσ 4
 have d5 := hσ 5
 have d6 := hσ 6
 have d8 := hσ 8
 have d9 := hσ 9
 simp +decide only [bE, Nat.reduceBeqDiff, BEq.rfl, Nat.reduceAdd, st.h2, st.h4, st.h5, st.h6] at d2 d4 d5 d6 d8 d9
 clear hσ hK1 K1
 have st3 : DSt w1 σ3 w3 fv bT fs.length j := ⟨d2, d4, d5, d6, st.le, st.mod.trans' m23⟩
 clear d2 d4 d5 d6
 refine zc fun K1 hK1 => W_df B S hW hnum hp st3.h2 d8 d9 (zv st3.mod r1) (RepA.stay (m1.trans' st3.mod) _ hg) r3 (hr.stay m23) (by omega) (h j hj) fun σ4 w4 hs4 h10 m4 => hK1 _ _ ?_
 have st4 : DSt w1 σ4 w4 fv bT fs.length j := (st3.same (hs4 2 (by decide)) (hs4 4 (by decide)) (hs4 5 (by decide)) (hs4 6 (by decide))).stay m4
 refine W_if hlo h10 ?_
 rw [if_neg (by decide)]
 refine zbn ?_
 exact ⟨st4.h6, st4.next hj⟩
end
structure LawDD (P : Program) (N : Nums) (M : zcl) (m : Msg) (fx : Bool) (d : zwj) (k : Nat) (mk df : Nat) (sc : List SC) (fl : Int) : Prop where
 D : DoorT P N m fx d
 rf : FOk P d.readF 2 (c_rf N m.pT d.readf false) [.var 2]
 mv : FOk P d.maxV 1 (c_max k) [.var 1]
 mi : FOk P d.maxI 0 (c_maxI N m.pT d.newP d.maxV) [.var 0]
 ti : FOk P d.tellI 2 (zxl N m.pT d.newP d.setV d.readF d.tell m.dflt) [.cell 2 N.zz, .var 3]
 k1 : IntKind.i64.wrap k = k
 k2 : IntKind.i64.wrap (k + 1) = k + 1
 kk : k < 32767
 mf : FOk P mk 0 (c_msg M sc fl) [.cell 0 M.zas]
 scb : scB sc = true
 sco : scOk P sc
 okf : zrz (SC.flds sc) = true
 dfB : m.fs.dfdB (SC.flds sc) = true
 df : FOk P df 2 (zxm N M) [.var 3]
 fp : FP P N.ze 0 0
 num : FOk P M.zdx 2 (zge N M) [.var 2]
 ver : verB m fx (SC.flds sc) fl k = true
def dDflt (N : Nums) (M : zcl) (df : Nat) : List ROp := [
 ⟨some 0, .move (V 10), 0, none, []⟩,
 ⟨some 1, .move (T 0), 0, none, [0]⟩,
 ⟨some 2, .fieldAddr M.zas (V 7) 0, 0, some (some 1, true), [1]⟩,
 ⟨some 3, .load M.zah (T 2), 0, some (some 1, true), [2, 1]⟩,
 ⟨some 4, .load N.zz (V 9), 0, some (some 1, true), [1]⟩,
 ⟨some 5, .call ⟨.value (.func N.zpp), #[T 4], #[N.zz]⟩, N.ze, some (some 1, true), [4, 1, 1]⟩,
 ⟨some 6, .call ⟨.value (.func df), #[T 3, T 5], #[M.zah, N.ze]⟩, N.zar, some (some 1, true), [3, 5, 5, 1]⟩,
 ⟨some 7, .pick (T 1) (T 6) (.const (.bool false)), 0, none, [1, 6]⟩,
 ⟨some 103, .assign (T 7), 0, none, [7, 6, 0, 1, 2, 3, 4, 5, 6, 7]⟩]
def c_lawD (N : Nums) (M : zcl) (tTB maxI tellI mk df : Nat) : C := seqs [
 .ops [⟨some 102, .box N.ze (V 1), 0, none, []⟩, ⟨some 103, .assign (.const (.bool false)), 0, none, []⟩],
 .seq (.ops [⟨some 0, .load N.ze (V 2), 0, none, []⟩, ⟨some 1, .call ⟨.value (.func M.zqy), #[T 0], #[N.ze]⟩, N.zar, none, []⟩, ⟨some 104, .unOp .not N.zar (T 1), 0, none, []⟩]) (.cond 4 (.seq (zfp 3 (.bool true)) .ret) .skip),
 .ops [⟨some 0, .call ⟨.value (.func maxI), #[], #[]⟩, N.zf, none, []⟩, ⟨some 105, .assign (T 0), 0, none, []⟩],
 .seq (.ops [⟨some 0, .move (V 5), 0, none, []⟩, ⟨some 106, .binOp .lss N.zf (T 0) (.const (.int .i64 0)) N.zf, 0, none, []⟩]) (.cond 6 (.seq (zfp 3 (.bool false)) .ret) .skip),
 .ops [⟨some 0, .call ⟨.value (.func mk), #[], #[]⟩, M.zas, none, []⟩, ⟨some 1, .move (V 0), 0, none, []⟩, ⟨some 2, .move (V 5), 0, none, []⟩, ⟨some 3, .call ⟨.value (.func N.zjm), #[T 1, T 2], #[N.zq, N.zf]⟩, N.zf, none, []⟩,
  ⟨some 107, .alloc M.zas, 0, none, []⟩, ⟨none, .store M.zas (V 7) (T 0), 0, none, []⟩, ⟨some 108, .assign (T 3), 0, none, []⟩],
 .ops [⟨some 1, .move (V 8), 0, none, []⟩, ⟨some 2, .load M.zas (V 7), 0, none, []⟩, ⟨some 3, .move (V 8), 0, none, []⟩, ⟨some 4, .load N.ze (V 2), 0, none, []⟩,
  ⟨some 5, .call ⟨.value (.func M.zkw), #[T 2, T 3, T 4], #[M.zas, N.zf, N.ze]⟩, N.za, none, []⟩, ⟨some 6, .call ⟨.value (.func tellI), #[T 1, T 5], #[N.zf, N.za]⟩, tTB, none, []⟩,
  ⟨some 0, .move (T 6), 0, none, []⟩, ⟨some 7, .extract (T 0) 0, 0, none, []⟩, ⟨some 8, .extract (T 0) 1, 0, none, []⟩, ⟨some 109, .alloc N.zz, 0, none, []⟩, ⟨none, .store N.zz (V 9) (T 7), 0, none, []⟩, ⟨some 110, .assign (T 8), 0, none, []⟩],
 .draw (dDflt N M df), .ret]
section
variable {P : Program} {N : Nums} {M : zcl}
theorem W_dflts (B : Base P N) (F : Fns P N) (hI : zev P N) (S : SpT P N M) (hG : N.zpp ≠ 0) {df : Nat} {loc : List Nat} {N' : Nat} {Q : Exit → Env → World → Prop} {σ : Env} {w : World} {bM b9 : Nat} {fl : Int} {fs : List Fld} {fv : Value} {y : Tr}
  (h7 : σ 7 = .pointer (some ⟨bM, 0, none⟩)) (h9 : σ 9 = .pointer (some ⟨b9, 0, none⟩)) (h10 : σ 10 = .bool true)
  (rM : w.rangeAt bM 0 [fv, .int .i64 fl]) (hf : zfw w fv fs) (p9 : Put w b9 y) (hs : okS y) (hdf : zcw P df) (ok : ∀ {w' : World} {cg : List Value}, zfw w' fv fs → RepA w' y cg → Call P df #[fv, .agg cg.toArray] w' (Yes w'))
  (hQ : ∀ (σ' : Env) (w' : World), σ' 3 = .bool true → Mod w w' zp → Q .normal σ' w') : W P loc N' (.draw (dDflt N M df)) Q σ w := by
 have md : Mod w w.drew zp := Mod.drew _ _
 obtain ⟨c9, q9, r9, l9⟩ := p9
 refine zgi B.mixed [true, true, true, true, true, false, false, false, false] (by kernel_rfl) (fun w' => Mod w w' zp) md fun τ => ?_
 unfold dDflt
 refine zb (.bool true) (fun w' hw => by
  rw [zaz, ev_tmp]
  simp +decide only [bE, Nat.reduceAdd, h10]) rfl ?_
 refine zb (.bool true) (fun w' hw => by
  rw [zaz, ev_tmp]
  simp +decide only [bE, BEq.rfl]) rfl ?_
 refine zfc (.pointer (some ⟨bM, 0, none⟩)) (by simp +decide only [zcc, bE, BEq.rfl]) (fun w' hw => zn (by
  simp +decide only [bE, Nat.reduceBeqDiff, Nat.reduceAdd, Nat.zero_add, ev_tmp, h7, S.m0.run])) ?_
 refine zfc fv (by simp +decide only [zcc, bE, Nat.reduceBeqDiff, BEq.rfl]) (fun w' hw => zn (by
  have := zv hw rM 0 _ rfl
  simp +decide only [Nat.zero_add] at this
  simp +decide only [bE, BEq.rfl, ev_tmp, S.lf.run_load1 rfl, this, ldc_some])) ?_
 refine zfc (.agg c9.toArray) (by simp +decide only [zcc, bE, Nat.reduceBeqDiff, BEq.rfl]) (fun w' hw => zn (by
  simp +decide only [bE, Nat.reduceBeqDiff, Nat.reduceAdd, ev_tmp, h9]
  exact load_tree hI (hw.rangeAt l9 (fun _ _ _ h => h) r9) q9.len)) ?_
 simp only [zdi, zdc, List.zip_cons_cons, List.zip_nil_right, List.zipWith_cons_cons, List.zipWith_nil_right, List.filter, Bool.not_true, Bool.not_false, List.map, zdr]
 rw [zap (b := true) (by simp +decide only [bE, Nat.reduceBeqDiff, BEq.rfl]), zai (F.got hG).has]
 simp +decide only [bK, bE, BEq.rfl]
 refine (gotT B F hG S.tr hI y hs w.drew (fun k => k < b9) c9 (fun k hk => Nat.lt_of_lt_of_le (Nat.lt_trans hk l9) md.size) (RepT.stay md y q9)).mono ?_
 rintro _ w3 ⟨d1, rfl, q3, m3⟩
 have m03 := md.trans' m3
 refine ⟨m03, ?_⟩
 rw [zap (b := true) (by simp +decide only [bE, Nat.reduceBeqDiff, BEq.rfl]), zce hdf]
 simp +decide only [bK, bE, Nat.reduceBeqDiff, BEq.rfl]
 refine (ok (hf.stay m03) (RepT.repA _ q3)).mono ?_
 rintro _ w4 ⟨rfl, m4⟩
 have m04 := m03.trans' m4
 refine ⟨m04, ?_⟩
 simp +decide only [bK, bE, Nat.reduceBeqDiff, BEq.rfl, if_true, zcj]
 refine ⟨m04, ?_⟩
 refine zd fun σ' hσ => hQ σ' _ ?_ m04
 have g := hσ 3
 simp +decide only [bE, BEq.rfl, Nat.reduceAdd] at g
 exact g
theorem call_lawD (B : Base P N) (F : Fns P N) (hI : zev P N) (S : SpT P N M) (hZ : SZ P N M) (hW : SW P N M) (hG : N.zpp ≠ 0) (hV : N.zjm ≠ 0) {m : Msg} {fx : Bool} {d : zwj} {k mk df : Nat} {sc : List SC} {fl : Int} (L : LawDD P N M m fx d k mk df sc fl) {f tTB : Nat}
  (hf : FOk P f 2 (c_lawD N M tTB d.maxI d.tellI mk df) [.var 3]) {w : World} {t : Tr} {ct : List Value} {n : Int} {te : TypeId} {ve : Value} (hn : 0 ≤ n ∧ n ≤ 255) (ht : RepA w t ct) (hwf : wfT t) (hsz : szT t ≤ 1048576) (he : w.cell? ⟨N.zaj, 0, none⟩ = some (.iface te ve)) :
  Call P f #[.int .u8 n, .agg ct.toArray] w fun v' w' => v' = .bool true ∧ Mod w w' zp := by
 refine hf.call rfl fun loc N' hlo => ?_
 unfold c_lawD
 refine zjr (by simp) ?_
 refine zbh fun K hK => zw fun τ => ?_
 simp +decide only [bK, bE, Nat.reduceAdd]
 obtain ⟨w1, hw1⟩ : ∃ w1, w1 = w.alloc (.cells (Value.cells (.agg ct.toArray)) N.ze) := ⟨_, rfl⟩
 have m1 : Mod w w1 zp := by rw [hw1]; exact Mod.alloc _ _ _
 have r1 : w1.rangeAt w.heap.size 0 ct := by rw [hw1]; exact zu w _ _ _
 have s1 : w1.heap.size = w.heap.size + 1 := by rw [hw1]; exact zak _ _
 rw [← hw1]
 clear hw1
 refine hK _ _ (zd fun σ1 hσ => ?_)
 have a0 := hσ 0
 have a2 := hσ 2
 simp +decide only [bE, Nat.reduceBeqDiff, BEq.rfl, Nat.reduceAdd, Nat.zero_add, zjq] at a0 a2
 clear hσ hK K
 obtain ⟨bT, hbT⟩ : ∃ b, b = w.heap.size := ⟨_, rfl⟩
 rw [← hbT] at a2 r1
 have ht1 := RepA.stay m1 _ ht
 refine zbh fun K hK => zc fun K1 hK1 => zw fun τ => ?_
 simp +decide only [bK, bE, Nat.reduceAdd, a2, zes S.tr r1 ht.len]
 rw [zai hZ.zzFits1.has]
 simp +decide only [bK, bE, BEq.rfl]
 refine (sp_fits1 B S hZ ht1 (fits_of hsz)).mono ?_
 rintro _ w2 ⟨rfl, m2⟩
 simp +decide only [bK]
 refine hK1 _ _ (zd fun σ2 hσ => ?_)
 have b0 := hσ 0
 have b2 := hσ 2
 have b4 := hσ 4
 simp +decide only [bE, Nat.reduceBeqDiff, BEq.rfl, Nat.reduceAdd, Nat.zero_add, a0, a2] at b0 b2 b4
 clear hσ hK1 K1 a0 a2
 refine W_if hlo b4 ?_
 simp only [Bool.not_true, Bool.false_eq_true, if_false]
 refine zbn (hK _ _ ?_)
 clear hK K b4
 have m02 := m1.trans' m2
 refine zbh fun K hK => zw fun τ => ?_
 simp +decide only [bK]
 rw [zjf L.mi.has]
 refine (call_maxI B L.D L.mv L.mi w2).mono ?_
 rw [L.k1]
 rintro _ w3 ⟨rfl, m3⟩
 simp +decide only [bE, BEq.rfl]
 refine hK _ _ (zd fun σ3 hσ => ?_)
 have c0 := hσ 0
 have c2 := hσ 2
 have c5 := hσ 5
 simp +decide only [bE, Nat.reduceBeqDiff, BEq.rfl, Nat.reduceAdd, Nat.zero_add, b0, b2] at c0 c2 c5
 clear hσ hK K b0 b2
 have m03 := m02.trans' m3
 refine zbh fun K hK => zc fun K1 hK1 => zw fun τ => ?_
 simp +decide only [bK, bE, BEq.rfl, Nat.reduceAdd, c5]
 refine hK1 _ _ (zd fun σ4 hσ => ?_)
 have d0 := hσ 0
 have d2 := hσ 2
 have d5 := hσ 5
 have d6 := hσ 6
 simp +decide only [bE, Nat.reduceBeqDiff, BEq.rfl, Nat.reduceAdd, Nat.zero_add, c0, c2, c5] at d0 d2 d5 d6
 clear hσ hK1 K1 c0 c2 c5
 refine W_if hlo d6 ?_
 have hk0 : ¬ (k : Int) < 0 := by omega
 simp only [hk0, decide_false, Bool.false_eq_true, if_false]
 refine zbn (hK _ _ ?_)
 clear hK K d6
 obtain ⟨v, hv⟩ : ∃ v : Nat, (IntKind.i64.wrap n).tmod (IntKind.i64.wrap (k + 1)) = (v : Int) ∧ v ≤ k := by
  rw [L.k2, zhu (by omega) (by omega)]
  have h1 := Int.tmod_nonneg (k + 1 : Int) hn.1
  have h2 := Int.tmod_lt_of_pos n (show (0 : Int) < k + 1 by omega)
  exact ⟨(n.tmod (k + 1)).toNat, by omega, by omega⟩
 obtain ⟨fsM, htM, _⟩ := S.msg.out
 refine zbh fun K hK => zw fun τ => ?_
 simp +decide only [bK, bE, Nat.reduceBeqDiff, BEq.rfl, Nat.reduceAdd, Nat.zero_add]
 rw [zjf L.mf.has]
 refine (mk_msg S L.scb L.sco L.mf w3).mono ?_
 rintro _ w4 ⟨fv, rfl, hfv, m4⟩
 simp +decide only [bE, Nat.reduceBeqDiff, d0, d5]
 rw [zce (F.version hV).has]
 simp +decide only [bK, bE, Nat.reduceBeqDiff, BEq.rfl]
 refine (zvs B F hV w4 n k (by rw [L.k2]; omega)).mono ?_
 rintro _ w4' ⟨rfl, hw4⟩
 obtain rfl := hw4.symm
 clear hw4
 rw [hv.1]
 obtain ⟨w5, w6, hal, hst, _, m46, s6, r6, _⟩ := zrl (cs := [fv, .int .i64 fl]) htM (by decide) rfl rfl (by
  intro c hc; simp at hc; rcases hc with rfl | rfl
  ·exact hfv.one
  ·rfl) w4
 simp +decide only [bK, hal, hst]
 refine hK _ _ (zd fun σ5 hσ => ?_)
 have e2 := hσ 2
 have e7 := hσ 7
 have e8 := hσ 8
 simp +decide only [bE, Nat.reduceBeqDiff, BEq.rfl, Nat.reduceAdd, d2] at e2 e7 e8
 clear hσ hK K d0 d2 d5 hal hst
 obtain ⟨bM, hbM⟩ : ∃ b, b = w4.heap.size := ⟨_, rfl⟩
 rw [← hbM] at e7 r6
 have m06 := (m03.trans' m4).trans' m46
 have m16 := ((m2.trans' m3).trans' m4).trans' m46
 have hf6 := hfv.stay m46
 have ht6 := RepA.stay m06 _ ht
 have rT6 := zv m16 r1
 obtain ⟨g1, g2, g3⟩ := verB_at L.ver hv.2
 have hbl : (zdn (zon fl v) v (SC.flds sc) t).length ≤ K0 * szT t := partB_len L.okf (by rw [SC.flds_len]; exact (zqk L.scb).2.2.2) hwf
 have hK0 : K0 * szT t ≤ 40000 * 1048576 := Nat.mul_le_mul (Nat.le_refl _) hsz
 have hbl2 : (zdn (zon fl v) v (SC.flds sc) t).length < 549755813888 := by omega
 rw [← g3] at g1 g2
 obtain ⟨p1, x, p2, p3⟩ := msg_rd (m := m) (fx := fx) (ver := v) hwf (by rw [← g3]; exact g1)
 rw [← g3] at p1 p2 p3
 have hi16 : IntKind.i16.wrap (v : Int) = v := zqa (by have := L.kk; omega)
 obtain ⟨s, hs⟩ : ∃ s, s = zdn (zon fl v) v (SC.flds sc) t := ⟨_, rfl⟩
 rw [← hs] at hbl2 p1 p2
 have hdoor : m.doorD fx v s = (m.fs.tr (m.fs.setD x), true) := by
  unfold Msg.doorD
  rw [hi16]
  have p2' : m.rd fx v ⟨s, false, s.isEmpty⟩ = some x := by
   cases he : s.isEmpty with
   | false => exact p2
   | true =>
    rw [List.isEmpty_iff] at he
    rcases g2 with g2 | g2
    ·exact absurd he (p1 g2)
    ·rw [he] at p2 ⊢
     rw [g3] at g2
     obtain ⟨y, hy⟩ := Fds.off_rd g2
     simp only [Msg.rd, rs, hy] at p2 ⊢
     exact p2
  rw [p2']
 have hld := htM.run_load (w := w6) (b := bM) (o := 0) r6 rfl (fun h => by cases h)
 have hlv : ∀ (f : Array Field) (x : List Value), ldv (.struct f) x = .agg x.toArray := fun _ _ => rfl
 rw [hlv] at hld
 have hgl : N.zaj < w.heap.size := zbe (by rw [he]; rfl)
 refine zbh fun K hK => zw fun τ => ?_
 simp +decide only [bK, bE, Nat.reduceBeqDiff, BEq.rfl, Nat.reduceAdd, e2, e7, e8, hld, zes S.tr rT6 ht.len]
 rw [zll hW.Write.has]
 simp +decide only [bK, bE, Nat.reduceBeqDiff, BEq.rfl]
 refine (sp_Write B S hW (by rw [SC.flds_len]; exact (zqk L.scb).2.2.2) L.okf hf6 ht6 hwf (by rw [← hs]; exact hbl2)).mono ?_
 rintro r w7 ⟨ho7, m7⟩
 rw [← hs] at ho7
 have m07 := m06.trans' m7
 rw [zce L.ti.has]
 simp +decide only [bK, bE, Nat.reduceBeqDiff, BEq.rfl]
 refine (call_doorD B F hI L.D rfl L.ti L.rf (n := v) ho7.octA.argOct (by omega) (te := te) (ve := ve) (by rw [m07.cell _ _ hgl fun h => h]; exact he)).mono ?_
 rw [hdoor]
 rintro _ w8 ⟨cy, rfl, hrep, m8⟩
 obtain ⟨w9, hal, m9, s9, hres⟩ := zht hI w8
 simp +decide only [bK, hal]
 obtain ⟨w10, hst, m10, s10, r10, t10⟩ := zis hI hres.r rfl hres.t hrep.len hrep.one
 simp +decide only [bK, hst]
 refine hK _ _ (zd fun σ6 hσ => ?_)
 have f2 := hσ 2
 have f7 := hσ 7
 have f8 := hσ 8
 have f9 := hσ 9
 have f10 := hσ 10
 simp +decide only [bE, Nat.reduceBeqDiff, BEq.rfl, Nat.reduceAdd, e2, e7, e8] at f2 f7 f8 f9 f10
 clear hσ hK K
 have m810 : Mod w8 w10 zp := m9.fresh m10 fun k o h => by have : k = w8.heap.size := h; omega
 have m610 := (m7.trans' m8).trans' m810
 have hput : Put w10 w8.heap.size (m.fs.tr (m.fs.setD x)) := ⟨cy, RepT.mod (G := NB w7.heap.size w8.heap.size) m810 (fun k hk => ⟨hk.2, fun _ h => h, hk.2⟩) _ hrep, r10, by omega⟩
 have hov : m.fs.okV x := by
  unfold Msg.rd at p2
  split at p2
  ·cases p2
  ·rename_i l' s' h1
   split at p2
   ·cases p2
   ·cases p2; exact Fds.rd_ok _ _ m.fs L.D.dok _ _ _ h1
 have hsh : okS (m.fs.tr (m.fs.setD x)) := (tr_short L.D.cnt L.D.shB (Fds.setD_ok _ _ L.D.dok hov)).1
 refine zbh fun K hK => W_dflts B F hI S hG f7 f9 f10 (zv m610 r6) (hf6.stay m610) hput hsh L.df.has (fun hf hg => sp_dflts B S hW L.num L.fp L.df hf (by rw [SC.flds_len]; exact Nat.lt_trans (zqk L.scb).2.2.2 (by decide)) hg fun j hj hne => ?_) fun σ7 w11 h3 m11 => hK _ _ ?_
 ·obtain ⟨y, h1, h2⟩ := setD_at m.fs (SC.flds sc) x L.dfB hov j _ (List.getElem?_eq_getElem hj) hne
  rw [← h2]
  show ((m.fs.trs (m.fs.setD x)).getD j tr0).n = y.n
  rw [List.getD, h1]; rfl
 exact zbh fun K2 hK2 => zbk ⟨.inr rfl, _, rfl, h3, (m06.trans' m610).trans' m11⟩
end
end Go.Kf
