/- A part of the calculus by which the claim's proof goes: over any program and any numbering of its functions; no condition beyond those that each theorem names. -/
import Derived.Test.YtdlfgheckhmgiaaDoorWf
set_option linter.unusedSimpArgs false
set_option linter.unusedVariables false
namespace Go.Kf
open Go Go.RowKit
theorem zwr (off : Nat) : ∀ (l : List Value) (k : Nat) (arr : Array Value), (l.zipIdx k).foldl (fun cs (x : Value × Nat) => cs.setIfInBounds (off + x.2) x.1) arr = (l.zipIdx (off + k)).foldl (fun cs (x : Value × Nat) => cs.setIfInBounds x.2 x.1) arr
 | [], k, arr => rfl
 | v :: l, k, arr => by
  rw [List.zipIdx_cons, List.zipIdx_cons, List.foldl_cons, List.foldl_cons, zwr off l (k + 1), Nat.add_assoc]
theorem zws (sz : Nat) : ∀ (css : List (List Value)) (k : Nat) (arr : Array Value), (∀ c ∈ css, c.length = sz) → (k + css.length) * sz ≤ arr.size →
  ∃ out, Instr.fill (fun i => some (i * sz, sz)) arr ((css.zipIdx k).map fun p => (p.2, Value.agg p.1.toArray)) = some out ∧ out.toList = arr.toList.take (k * sz) ++ css.flatten ++ arr.toList.drop ((k + css.length) * sz)
 | [], k, arr, _, h => ⟨arr, rfl, by simp⟩
 | c :: css, k, arr, hc, h => by
  have hcl := hc c (by simp)
  have h1 : (k + 1) * sz + css.length * sz ≤ arr.size := by
   rw [← Nat.add_mul]; simp only [List.length_cons] at h; rwa [show k + 1 + css.length = k + (css.length + 1) by omega]
  have h2 : (k + 1) * sz = k * sz + sz := by rw [Nat.add_mul, Nat.one_mul]
  rw [List.zipIdx_cons, List.map_cons, Instr.fill]
  simp only
  have hcells : (Value.agg c.toArray).cells = c.toArray := rfl
  rw [hcells, if_neg (by simp [hcl]; omega)]
  have e : c.toArray.zipIdx = (c.zipIdx 0).toArray := by simp
  obtain ⟨arr1, harr1⟩ : ∃ arr1, arr1 = c.toArray.zipIdx.foldl (fun cs (x : Value × Nat) => cs.setIfInBounds (k * sz + x.2) x.1) arr := ⟨_, rfl⟩
  have hl1 : arr1.toList = arr.toList.take (k * sz) ++ c ++ arr.toList.drop (k * sz + c.length) := by
   rw [harr1, e, List.foldl_toArray, zwr, Nat.add_zero]
   exact zpq c (k * sz) arr (by rw [hcl]; omega)
  have hs1 : arr1.size = arr.size := by
   have := congrArg List.length hl1
   simp only [Array.length_toList, List.length_append, List.length_take, List.length_drop] at this
   omega
  obtain ⟨out, g1, g2⟩ := zws sz css (k + 1) arr1 (fun x hx => hc x (List.mem_cons_of_mem _ hx)) (by rw [hs1, Nat.add_mul]; exact h1)
  refine ⟨out, ?_, ?_⟩
  ·rw [← harr1]; exact g1
  ·rw [g2, hl1, List.flatten_cons]
   have t1 : (arr.toList.take (k * sz) ++ c ++ arr.toList.drop (k * sz + c.length)).take ((k + 1) * sz) = arr.toList.take (k * sz) ++ c := by
    rw [List.take_append_of_le_length (by simp [hcl]; omega), List.take_of_length_le (by simp [hcl]; omega)]
   have t2 : (arr.toList.take (k * sz) ++ c ++ arr.toList.drop (k * sz + c.length)).drop ((k + 1 + css.length) * sz) = arr.toList.drop ((k + (c :: css).length) * sz) := by
    have hm : (k + 1 + css.length) * sz = k * sz + sz + css.length * sz := by rw [Nat.add_mul, Nat.add_mul, Nat.one_mul]
    have hm2 : (k + (c :: css).length) * sz = k * sz + sz + css.length * sz := by rw [← hm, List.length_cons]; congr 1; omega
    have hle : (arr.toList.take (k * sz) ++ c).length = k * sz + sz := by simp [hcl]; omega
    rw [List.drop_append, hle, List.drop_of_length_le (by rw [hle]; omega), List.nil_append, List.drop_drop, hm, hm2, hcl]
    congr 1; omega
   rw [t1, t2]
   simp
theorem ztz {w w' : World} {k b o : Nat} {fs : List Fld} {css : List (List Value)} (hm : Mod w w' (blk k)) (hk : ∀ i, 7 ≤ i → w.cell? ⟨k, i, none⟩ = none) (hr : zga w fs css) (h : w.rangeAt b o css.flatten) : w'.rangeAt b o css.flatten := by
 cases fs with
 | nil => simp only [zga] at hr; subst hr; intro j v hj; simp at hj
 | cons f fs =>
  obtain ⟨c, r, rfl, hc, hr⟩ := hr
  have h8 := hc.len
  match c, h8 with
  | [x0, x1, x2, x3, x4, x5, x6, x7], _ =>
   have h7 := h 7 x7 (by simp)
   have hne : b ≠ k := fun e => by
    subst e
    rw [hk (o + 7) (by omega)] at h7; cases h7
   have hb : b < w.heap.size := zay (by rw [h7]; rfl)
   exact hm.rangeAt hb (fun i _ _ e => hne e) h
mutual
theorem RepF.but {w w' : World} {k : Nat} (hm : Mod w w' (blk k)) (hk : ∀ i, 7 ≤ i → w.cell? ⟨k, i, none⟩ = none) : ∀ (t : Fld) {cs : List Value}, RepF w t cs → RepF w' t cs
 | .mk _ _ _ _ _ _ _ sub, _, ⟨v, h1, h3⟩ => ⟨v, h1, h3.imp id fun ⟨b, o, c, css, g1, g2, g3, g4⟩ => ⟨b, o, c, css, g1, g2, zga.but hm hk sub g3, ztz hm hk g3 g4⟩⟩
theorem zga.but {w w' : World} {k : Nat} (hm : Mod w w' (blk k)) (hk : ∀ i, 7 ≤ i → w.cell? ⟨k, i, none⟩ = none) : ∀ (l : List Fld) {css : List (List Value)}, zga w l css → zga w' l css
 | [], _, hr => hr
 | t :: l, _, ⟨c, r, h1, h2, h3⟩ => ⟨c, r, h1, RepF.but hm hk t h2, zga.but hm hk l h3⟩
end
theorem zfs.but {w w' : World} {k : Nat} (hm : Mod w w' (blk k)) (hk : ∀ i, 7 ≤ i → w.cell? ⟨k, i, none⟩ = none) {v : Value} {fs : List Fld} (hs : zfs w v fs) : zfs w' v fs :=
 hs.imp id fun ⟨b, o, c, css, h1, h2, h3, h4⟩ => ⟨b, o, c, css, h1, h2, zga.but hm hk fs h3, ztz hm hk h3 h4⟩
section
variable {P : Program} {N : Nums} {M : zcd}
theorem run_bsFs (S : SpT P N M) {w : World} {l : List Fld} {css : List (List Value)} (h : zga w l css) (h0 : 0 < l.length) (h1 : l.length < 1000) :
  ∃ w1, (Instr.buildSlice M.zac l.length ((css.zipIdx 0).map fun p => (p.2, Value.agg p.1.toArray)).toArray).run P w = .ok (.slice (some ⟨w.heap.size, 0, none⟩) l.length l.length) w1 ∧ Mod w w1 zq ∧ zfs w1 (.slice (some ⟨w.heap.size, 0, none⟩) l.length l.length) l := by
 obtain ⟨fs', hti⟩ := S.fld.out
 obtain ⟨i, hi, hsz, _, hz⟩ := hti.1.info
 have hsz : i.size = 8 := hsz
 have hlen : css.length = l.length := by
  have : ∀ (l : List Fld) (css : List (List Value)), zga w l css → css.length = l.length := by
   intro l
   induction l with
   | nil => intro css h; simp only [zga] at h; subst h; rfl
   | cons f l ih => rintro _ ⟨c, r, rfl, _, hr⟩; simp [ih r hr]
  exact this l css h
 have h8 := h.len8
 have hlz : ((Array.range (l.length * 8)).map ((Value.agg ([Value.int .i64 0, .int .i64 0, .int .i64 0, .int .i64 0, .int .i64 0, .int .i64 0, .int .i64 0, .slice none 0 0] : List Value).toArray).cells[· % (Value.agg ([Value.int .i64 0, .int .i64 0, .int .i64 0, .int .i64 0, .int .i64 0, .int .i64 0, .int .i64 0, .slice none 0 0] : List Value).toArray).cells.size]!)).size = l.length * 8 := by simp
 obtain ⟨out, g1, g2⟩ := zws 8 css 0 _ h8 (by rw [hlz, Nat.zero_add, hlen]; exact Nat.le_refl _)
 have hr := run_buildSlice (P := P) w M.zac M.zf l.length ((css.zipIdx 0).map fun p => (p.2, Value.agg p.1.toArray)).toArray out i _ S.lf.und hi hz (by rw [hsz]; omega) (by rw [hsz]; omega) (by rw [hsz]; exact g1)
 have hout : out = css.flatten.toArray := by
  apply Array.ext'
  rw [g2]
  rw [Nat.zero_mul, List.take_zero, List.nil_append, Nat.zero_add, hlen, List.drop_of_length_le (by rw [Array.length_toList, hlz]; exact Nat.le_refl _)]
  simp
 rw [hout] at hr
 have m : Mod w (w.alloc (.cells css.flatten.toArray M.zf)) zq := Mod.alloc _ _ _
 refine ⟨_, hr, m, .inr ⟨w.heap.size, 0, l.length, css, rfl, Nat.le_refl _, zga.stay m _ h, ?_⟩⟩
 have := zr w css.flatten.toArray M.zf (0, 0)
 simpa using this
theorem zrk (S : SpT P N M) {l : List SC} {k : Nat} {ρ : Env} {w : World} {css : List (List Value)} {K : Env → World → Prop} (hr : zga w (SC.flds l) css) (hs : ∀ (j s : Nat), (scSl l k)[j]? = some s → ∃ c : List Value, css[j]? = some c ∧ ρ s = .agg c.toArray) (h0 : 0 < l.length) (h1 : l.length < 1000)
  (hK : ∀ (r : Value) (w1 : World), Mod w w1 zq → zfs w1 r (SC.flds l) → K (put ρ (some (znm l k)) r) w1) : zbk P (zut M l k) ρ w K := by
 unfold zut
 have hfl := SC.flds_len l
 obtain ⟨w1, hb, m1, hf1⟩ := run_bsFs S hr (by omega) (by omega)
 have hcl : css.length = l.length := by
  have : ∀ (l : List Fld) (css : List (List Value)), zga w l css → css.length = l.length := by
   intro l
   induction l with
   | nil => intro css h; simp only [zga] at h; subst h; rfl
   | cons f l ih => rintro _ ⟨c, r, rfl, _, hr⟩; simp [ih r hr]
  rw [this _ _ hr, hfl]
 have e : (((scSl l k).zipIdx.map fun p => (p.2, T p.1)).toArray.map fun (p : Nat × Operand) => (p.1, ev ρ p.2)) = ((css.zipIdx 0).map fun p => (p.2, Value.agg p.1.toArray)).toArray := by
  rw [List.map_toArray, List.map_map]
  congr 1
  apply List.ext_getElem?
  intro j
  rw [List.getElem?_map, List.getElem?_map, List.getElem?_zipIdx, List.getElem?_zipIdx]
  cases hj : (scSl l k)[j]? with
  | none =>
   have : css[j]? = none := by
    rw [List.getElem?_eq_none_iff] at hj ⊢
    rw [zuu] at hj; omega
   rw [this]; rfl
  | some s =>
   obtain ⟨c, hc, hv⟩ := hs j s hj
   rw [hc]
   simp [hv]
 rw [hfl] at hb
 rw [zcn, e, hb]
 simp only [stepV_ok]
 rw [hfl] at hf1
 exact hK _ _ m1 hf1
theorem zrj {l : List SC} (h : scB l = true) : (l.all SC.partsB) = true ∧ znm l 0 < 90 ∧ 0 < l.length ∧ l.length < 1000 := by
 unfold scB at h
 simp only [Bool.and_eq_true] at h
 obtain ⟨⟨⟨h1, h2⟩, h3⟩, h4⟩ := h
 exact ⟨h1, by simpa using h2, by simpa using h3, by simpa using h4⟩
theorem mk_flds (S : SpT P N M) {l : List SC} (hB : scB l = true) (hok : scOk P l) {f : FuncId} (hf : FOk P f 0 (c_flds M l) [.var 0]) : MkOk P f (SC.flds l) := by
 intro w
 obtain ⟨b1, b2, b3, b4⟩ := zrj hB
 refine hf.call rfl fun loc N' hlo => ?_
 unfold c_flds seqs seqs seqs
 refine ze fun K hK => zau (hK _ _ ?_)
 clear hK K
 refine ze fun K hK => zx fun τ => znp _ _ _ _ (zon S l 0 _ w w b1 hok (.refl _ _) (fun ρ w1 css h1 h2 h3 m1 => ?_) b2)
 rw [runR]
 refine zrk S h2 h3 b3 b4 fun r w2 m2 hr => ?_
 simp +decide only [runR, zkp, ev_tmp, ziu, sel_true, BEq.rfl]
 refine hK _ _ (zd fun σ' hσ => zbm ⟨.inr rfl, _, rfl, ?_⟩)
 have q := hσ 0
 simp +decide only [bE, BEq.rfl, Nat.zero_add] at q
 rw [q]
 exact ⟨hr, m1.trans' m2⟩
theorem mk_msg (S : SpT P N M) {l : List SC} {fl : Int} (hB : scB l = true) (hok : scOk P l) {f : FuncId} (hf : FOk P f 0 (c_msg M l fl) [.cell 0 M.zai]) (w : World) :
  Call P f #[] w fun r w' => ∃ fv, r = .agg [fv, .int .i64 fl].toArray ∧ zfs w' fv (SC.flds l) ∧ Mod w w' zq := by
 obtain ⟨b1, b2, b3, b4⟩ := zrj hB
 refine hf.call rfl fun loc N' hlo => ?_
 unfold c_msg seqs seqs seqs
 obtain ⟨fs', hti, _⟩ := S.msg.out
 obtain ⟨w0, hw0⟩ : ∃ w0, w0 = w.alloc (.cells (Value.cells (.agg ([.slice none 0 0, .int .i64 0] : List Value).toArray)) M.zai) := ⟨_, rfl⟩
 have hal := fun old => hti.run_alloc (P := P) (w := w) old
 rw [← hw0] at hal
 have m0 : Mod w w0 zq := by rw [hw0]; exact Mod.alloc _ _ _
 have s0 : w0.heap.size = w.heap.size + 1 := by rw [hw0]; exact zak _ _
 have t0 : w0.there w.heap.size 0 2 := by rw [hw0]; exact zbn w _ M.zai
 have r0 : w0.rangeAt w.heap.size 0 [.slice none 0 0, .int .i64 0] := by rw [hw0]; exact zr w _ _ _
 have c0 : ∀ i, 2 ≤ i → w0.cell? ⟨w.heap.size, i, none⟩ = none := by
  intro i hi
  rw [hw0]
  simp only [World.cell?, zmc]
  have : (Value.cells (.agg ([.slice none 0 0, .int .i64 0] : List Value).toArray)).size = 2 := rfl
  simp [this]; omega
 clear hw0
 refine ze fun K hK => zx fun τ => ?_
 simp +decide only [runR, zmj, hal, stepV_ok]
 refine hK _ _ (zd fun σ1 hσ => ?_)
 have a0 := hσ 0
 simp +decide only [bE, BEq.rfl, Nat.zero_add] at a0
 clear hσ hK K
 refine ze fun K hK => zx fun τ => znp _ _ _ _ (zon S l 0 _ w0 w0 b1 hok (.refl _ _) (fun ρ w1 css h1 h2 h3 m1 => ?_) b2)
 rw [runR]
 refine zrk S h2 h3 b3 b4 fun r w2 m2 hr => ?_
 have hv0 : ρ 100 = .pointer (some ⟨w.heap.size, 0, none⟩) := by
  rw [h1 100 (.inr (Nat.le_refl _)), zls]; simp +decide only [bE, decide_false, Nat.reduceSub, a0]
 obtain ⟨n, hn⟩ : ∃ n, n = znm l 0 := ⟨_, rfl⟩
 rw [← hn] at b2 ⊢
 have hbuild : (Instr.build M.zai #[(1, .int .i64 fl), (0, r)]).run P w2 = .ok (.agg [r, .int .i64 fl].toArray) w2 := S.msg.run_build (by simp [Instr.fill, zcs hr.one, zcs (show (Value.int .i64 fl).oneCell' = true from rfl)])
 have m02 := m1.trans' m2
 have hst := hti.run_store (w := w2) (b := w.heap.size) (o := 0) (v := .agg [r, .int .i64 fl].toArray) (cs := [r, .int .i64 fl]) rfl rfl (m02.there (by omega) t0) (by
  intro c hc; simp at hc; rcases hc with rfl | rfl
  ·exact hr.one
  ·rfl)
 obtain ⟨w3, hw3⟩ : ∃ w3, w3 = w2.setCells w.heap.size 0 [r, .int .i64 fl] := ⟨_, rfl⟩
 have m3 : Mod w2 w3 (blk w.heap.size) := by rw [hw3]; exact Mod.setCells _ _ _ fun _ _ _ _ => rfl
 have r3 : w3.rangeAt w.heap.size 0 [r, .int .i64 fl] := by
  rw [hw3]
  exact zap [r, .int .i64 fl] 0 w2 _ (zj m02 r0) (Nat.le_refl _)
 rw [← hw3] at hst
 clear hw3
 have e1 : (n == n + 1) = false := beq_eq_false_iff_ne.2 (by omega)
 have e2 : (100 == n + 1) = false := beq_eq_false_iff_ne.2 (by omega)
 have e3 : (100 == n) = false := beq_eq_false_iff_ne.2 (by omega)
 have ep : (#[(1, Operand.const (.int .i64 fl)), (0, T n)].map fun (p : Nat × Operand) => (p.1, ev (put ρ (some n) r) p.2)) = #[(1, .int .i64 fl), (0, r)] := by simp [ziu, sel]
 simp +decide only [runR, zeq, ep, hbuild, stepV_ok, zeh, ev_tmp, ziu, sel_true, sel_false, BEq.rfl, e2, e3, hv0, hst, stepU_ok]
 have m03 : Mod w w3 zq := (m0.trans' m02).fresh m3 fun k o h => by have : k = w.heap.size := h; omega
 refine hK _ _ (zd fun σ' hσ => zbm ⟨.inr rfl, .agg [r, .int .i64 fl].toArray, ?_, r, rfl, ?_, m03⟩)
 ·have q := hσ 0
  rw [show (0 + 100 : Nat) = 100 from rfl] at q
  simp +decide only [ziu, e2, e3, sel_false, hv0] at q
  refine ⟨_, q, ?_⟩
  have := hti.run_load (w := w3) (b := w.heap.size) (o := 0) r3 rfl (fun h => by cases h)
  have e : (Instr.loadAt M.zai (.pointer (some ⟨w.heap.size, 0, none⟩))).run P w3 = (loadVar M.zai ⟨w.heap.size, 0, none⟩).run P w3 := by simp [Instr.loadAt, Instr.sureAddr]
  rw [← e, this]; rfl
 ·refine hr.but m3 fun i hi => ?_
  have h1 := m02.isCell w.heap.size i (by omega)
  have h2 : w0.cell? ⟨w.heap.size, i, none⟩ = none := c0 i (by omega)
  rw [h2] at h1
  cases hc : w2.cell? ⟨w.heap.size, i, none⟩ with
  | none => rfl
  | some x => rw [hc] at h1; cases h1
end
mutual
def okLB : Fld → Bool
 | .mk k _ _ _ _ _ o sub => (decide (k ≠ 11) || decide (o ≠ 11)) && okLsB sub
def okLsB : List Fld → Bool
 | [] => true
 | f :: r => okLB f && okLsB r
end
section
variable {P : Program} {N : Nums} {M : zcd}
mutual
theorem okT_of (B : Base P N) (F : Fns P N) (hN : N.zbu ≠ 0) (S : SpT P N M) (hW : SW P N M) (hT : STo P N M) {flex : Bool} {v : Int} : ∀ (f : Fld), okFB f = true → okLB f = true → OkT P M flex v f
 | .mk k a b n g d o sub, h, h' => by
  simp only [okFB, Bool.and_eq_true, decide_eq_true_eq, Bool.or_eq_true] at h
  simp only [okLB, Bool.and_eq_true, decide_eq_true_eq, Bool.or_eq_true] at h'
  obtain ⟨⟨h1, h2⟩, h3⟩ := h
  refine ⟨h1, h2, zrg B F hN S hW hT (fun hk => absurd hk h2) fun hk => ?_⟩
  have hof : o ≠ 11 := by
   rcases h'.1 with h' | h'
   ·exact absurd hk h'
   ·exact h'
  refine ⟨zrg B F hN S hW hT (f := (Fld.mk k a b n g d o sub).one) (fun ho => ?_) (fun ho => absurd ho hof), hof⟩
  rcases h3 with (h3 | h3) | ⟨h3, h4⟩
  ·exact absurd hk h3
  ·exact absurd ho h3
  ·have : sub.length < 1000 := by simpa using h3
   exact sp_Told B F hN S hW hT (Nat.lt_trans this (by decide)) (zyl B F hN S hW hT sub h4 h'.2)
theorem zyl (B : Base P N) (F : Fns P N) (hN : N.zbu ≠ 0) (S : SpT P N M) (hW : SW P N M) (hT : STo P N M) {flex : Bool} {v : Int} : ∀ (l : List Fld), zov l = true → okLsB l = true → ∀ f ∈ l, OkT P M flex v f
 | [], _, _, f, hf => by cases hf
 | g :: r, h, h', f, hf => by
  simp only [zov, Bool.and_eq_true] at h
  simp only [okLsB, Bool.and_eq_true] at h'
  rcases List.mem_cons.1 hf with e | hf
  ·rw [e]; exact okT_of B F hN S hW hT g h.1 h'.1
  ·exact zyl B F hN S hW hT r h.2 h'.2 f hf
end
theorem OctA.argOct {w : World} {v : Value} {s : List UInt8} (h : OctA w v s) : zsx w v s := by
 rcases h with ⟨ad, c, e, h⟩ | ⟨b, o, c, e, h1, h2⟩
 ·exact .inl ⟨ad, c, e, h⟩
 ·cases s with
  | nil => exact .inl ⟨_, c, e, rfl⟩
  | cons x s =>
   have h0 := h2 0 (zbg x) rfl
   refine .inr ⟨_, c, e, h1, zay (by rw [h0]; rfl), fun j y hj => ?_⟩
   rw [Addr.add_mid]
   exact h2 j (zbg y) (by rw [List.getElem?_map, hj]; rfl)
def verB (m : Msg) (fx : Bool) (sf : List Fld) (fl : Int) (k : Nat) : Bool :=
 (List.range (k + 1)).all fun v => m.fs.matB (fx && decide ((v : Int) ≥ m.fl)) v sf && (fx && decide ((v : Int) ≥ m.fl) || (sf.any fun f => f.has v) || m.fs.offB (fx && decide ((v : Int) ≥ m.fl)) v) && (zih fl v == (fx && decide ((v : Int) ≥ m.fl)))
theorem verB_at {m : Msg} {fx : Bool} {sf : List Fld} {fl : Int} {k : Nat} (h : verB m fx sf fl k = true) {v : Nat} (hv : v ≤ k) : m.fs.matB (fx && decide ((v : Int) ≥ m.fl)) v sf = true ∧ (((fx && decide ((v : Int) ≥ m.fl)) = true ∨ (sf.any fun f => f.has v) = true) ∨ m.fs.offB (fx && decide ((v : Int) ≥ m.fl)) v = true) ∧ zih fl v = (fx && decide ((v : Int) ≥ m.fl)) := by
 unfold verB at h
 rw [List.all_eq_true] at h
 have := h v (List.mem_range.2 (by omega))
 simp only [Bool.and_eq_true, Bool.or_eq_true, beq_iff_eq] at this
 obtain ⟨⟨h1, h2⟩, h3⟩ := this
 exact ⟨h1, by simpa using h2, h3⟩
theorem fits_of {t : Tr} (h : szT t ≤ 1048576) : fitsT t := by
 have h1 := ztj t
 have hl : ∀ l : List Tr, l.length ≤ szTs l := by
  intro l
  induction l with
  | nil => simp
  | cons x l ih => have := zxv x; simp only [szTs, List.length_cons]; omega
 have hu : ∀ u : List (Nat × List UInt8), u.length ≤ szU u ∧ ∀ x ∈ u, x.2.length ≤ szU u := by
  intro u
  induction u with
  | nil => exact ⟨by simp, fun x hx => by cases hx⟩
  | cons x u ih =>
   have e : szU (x :: u) = 1 + x.2.length + szU u := by simp [szU]
   refine ⟨by rw [e, List.length_cons]; omega, fun y hy => ?_⟩
   rcases List.mem_cons.1 hy with hy | hy
   ·rw [hy, e]; omega
   ·have := ih.2 y hy; rw [e]; omega
 have h2 := hl t.l
 have h3 := hu t.u
 exact ⟨by omega, by omega, by omega, fun x hx => by have := h3.2 x hx; omega⟩
end
section
open Go Go.RowKit Go.ChangeShapes Go.WideShapes
theorem treeArg_of {P : Program} {N : Nums} {H : Type} {enc : TypeId × Value → H} {B : DataW H → Nat} {BA : List (DataW H) → Nat} {W : World} {v : Value} {d : DataW H} {p : List MemPlace} {base : Nat} (T : TreeO P N) (Bs : Base P N) (hT : zgf P N N.zc N.zab N.zn N.zk) (hB : BulkF B BA)
  (hok : Value.okWide P W .any base N.zc v) (h : DataW.Trod enc P W 0 (fun _ => true) true N.zc v d p) : ∃ t ct, v = .agg ct.toArray ∧ RepA W t ct ∧ wfT t ∧ szT t ≤ B d := by
 obtain ⟨fs, hu, _⟩ := T.tree
 unfold Value.okWide at hok
 rw [hu] at hok
 obtain ⟨cs, rfl, _⟩ := hok
 obtain ⟨fuel, hf⟩ := h
 obtain ⟨t, h1, h2, h3⟩ := tree_open T Bs hT hB fuel cs.toList (d, p) hf
 exact ⟨t, cs.toList, by simp, h1, h2, h3⟩
end
section
variable (N : Nums)
def c_newV (tT dflt : Nat) : C := seqs [.ops [⟨some 100, .alloc tT, 0, none, []⟩], .ops [⟨some 101, .alloc tT, 0, none, []⟩], .ops [⟨some 0, .call ⟨.value (.func dflt), #[V 1], #[tT]⟩, N.t_, none, []⟩],
 .ops [⟨some 0, .load tT (V 1), 0, none, []⟩, ⟨none, .store tT (V 0) (T 0), 0, none, []⟩], .ret]
def zyu (tT pT newV rf tell : Nat) : C := seqs [.ops [⟨some 101, .alloc N.zz, 0, none, []⟩, ⟨some 102, .assign (.const (.bool false)), 0, none, []⟩],
 .ops [⟨some 0, .call ⟨.value (.func newV), #[], #[]⟩, tT, none, []⟩, ⟨some 103, .alloc tT, 0, none, []⟩, ⟨none, .store tT (V 3) (T 0), 0, none, []⟩],
 .seq (.ops [⟨some 0, .move (V 0), 0, none, []⟩, ⟨some 1, .call ⟨.builtin .append, #[.const (.slice none 0 0), T 0], #[N.za, N.za]⟩, N.za, none, []⟩, ⟨some 2, .call ⟨.value (.func rf), #[V 3, T 1], #[tT, N.za]⟩, N.zgn, none, []⟩, ⟨some 104, .binOp .neq N.zgn (T 2) (.const .nilIface) N.zgn, 0, none, []⟩])
  (.cond 4 (.seq (.ops [⟨some 0, .build N.zz #[], 0, none, []⟩, ⟨none, .store N.zz (V 1) (T 0), 0, none, []⟩, ⟨some 102, .assign (.const (.bool false)), 0, none, []⟩]) .ret) .skip),
 .ops [⟨some 0, .call ⟨.value (.func tell), #[V 3], #[pT]⟩, N.zz, none, []⟩, ⟨some 105, .alloc N.zz, 0, none, []⟩, ⟨none, .store N.zz (V 5) (T 0), 0, none, []⟩],
 .ops [⟨some 0, .fieldAddr tT (V 3) 0, 0, none, []⟩, ⟨some 1, .load N.zcj (T 0), 0, none, []⟩, ⟨some 2, .convert N.zcj N.zav (T 1), 0, none, []⟩, ⟨some 3, .fieldAddr N.zz (V 5) 0, 0, none, []⟩, ⟨none, .store N.zav (T 3) (T 2), 0, none, []⟩],
 .ops [⟨some 0, .load N.zz (V 5), 0, none, []⟩, ⟨none, .store N.zz (V 1) (T 0), 0, none, []⟩, ⟨some 102, .assign (.const (.bool true)), 0, none, []⟩], .ret]
end
structure DoorV (P : Program) (N : Nums) (m : Msg) (fx : Bool) (d : zzb) : Prop where
 msg : MsgT P N m fx
 vin : m.vin = true
 i16 : N.zax ≠ 0
 ti : ∃ fs by', TI P m.tT (.struct fs) (m.fs.sz + 1) by' (.agg (.int .i16 0 :: m.fs.zero).toArray)
 newP : FOk P d.newP 0 (c_newV N m.tT m.dflt) [.cell 0 m.tT]
 readf : FOk P d.readf 3 (m.gen N fx) [.var 3]
 tell : TellP P d.tell 1 m.fs
 dok : m.fs.dOk
 shB : m.fs.shB = true
 cnt : m.fs.count < 1048576
 il : m.fs.ini.length = m.fs.sz
 io : m.fs.ini.all (fun c => c.oneCell') = true
 zo : m.fs.zero.all (fun c => c.oneCell') = true
def Msg.doorV (m : Msg) (fx : Bool) (l : List UInt8) : Tr × Bool :=
 match PK.i16.rd ⟨l, false, l.isEmpty⟩ with
 | (.int _ ver, s) => match m.rd fx ver s with
  | none => (zdt 0 [] false, false)
  | some x => (.mk ver [] false (m.fs.trs x) (m.fs.tgs x), true)
 | _ => (zdt 0 [] false, false)
section
variable {P : Program} {N : Nums}
theorem loadVar_eq {t : TypeId} {a : Addr} {w : World} : (Instr.loadAt t (.pointer (some a))).run P w = (loadVar t a).run P w := by simp [Instr.loadAt, Instr.sureAddr]
theorem zyw {l : List Value} (h : l.all (fun c => c.oneCell') = true) : ∀ c ∈ l, c.oneCell' = true := by
 rw [List.all_eq_true] at h; exact h
theorem call_newV (B : Base P N) {m : Msg} {fx : Bool} {d : zzb} (D : DoorV P N m fx d) (w : World) :
  Call P d.newP #[] w fun v w' => v = .agg (.int .i16 0 :: m.fs.ini).toArray ∧ Mod w w' zq := by
 obtain ⟨fs, by', hT⟩ := D.ti
 refine D.newP.call rfl fun loc N' hlo => ?_
 unfold c_newV
 refine zlc (by simp) ?_
 have zl : (Value.int .i16 0 :: m.fs.zero).toArray.size = m.fs.sz + 1 := by simp [Fds.zero_length]
 obtain ⟨w1, hw1⟩ : ∃ w1, w1 = w.alloc (.cells (Value.cells (.agg (.int .i16 0 :: m.fs.zero).toArray)) m.tT) := ⟨_, rfl⟩
 have m1 : Mod w w1 zq := by rw [hw1]; exact Mod.alloc _ _ _
 have s1 : w1.heap.size = w.heap.size + 1 := by rw [hw1]; exact zak _ _
 have r1 : w1.rangeAt w.heap.size 0 (.int .i16 0 :: m.fs.zero) := by rw [hw1]; exact zr w (.int .i16 0 :: m.fs.zero).toArray m.tT (0, 0)
 have t1 : w1.there w.heap.size 0 (m.fs.sz + 1) := by
  have := zbn w (.int .i16 0 :: m.fs.zero).toArray m.tT
  rw [zl] at this
  rw [hw1]; exact this
 refine zbq fun K hK => zx fun τ => ?_
 have hal := hT.run_alloc (w := w) (.tuple #[])
 rw [← hw1] at hal
 simp +decide only [bK, hal]
 refine hK _ _ (zd fun σ1 hσ => ?_)
 have a0 := hσ 0
 simp +decide only [bE, BEq.rfl, Nat.zero_add] at a0
 clear hσ hK K hal hw1
 obtain ⟨w2, hw2⟩ : ∃ w2, w2 = w1.alloc (.cells (Value.cells (.agg (.int .i16 0 :: m.fs.zero).toArray)) m.tT) := ⟨_, rfl⟩
 have m2 : Mod w1 w2 zq := by rw [hw2]; exact Mod.alloc _ _ _
 have s2 : w2.heap.size = w1.heap.size + 1 := by rw [hw2]; exact zak _ _
 have r2 : w2.rangeAt w1.heap.size 0 ([.int .i16 0] ++ m.fs.zero) := by rw [hw2]; exact zr w1 (.int .i16 0 :: m.fs.zero).toArray m.tT (0, 0)
 have t2 : w2.there w1.heap.size 0 (m.fs.sz + 1) := by
  have := zbn w1 (.int .i16 0 :: m.fs.zero).toArray m.tT
  rw [zl] at this
  rw [hw2]; exact this
 refine zbq fun K hK => zx fun τ => ?_
 have hal := hT.run_alloc (w := w1) (.tuple #[])
 rw [← hw2] at hal
 simp +decide only [bK, hal]
 refine hK _ _ (zd fun σ2 hσ => ?_)
 have b0 := hσ 0
 have b1 := hσ 1
 simp +decide only [bE, Nat.reduceBeqDiff, BEq.rfl, Nat.reduceAdd, Nat.zero_add, a0] at b0 b1
 clear hσ hK K hal hw2
 have q2 := zu.1 r2
 refine zbq fun K hK => zx fun τ => ?_
 simp +decide only [bK]
 rw [zam D.msg.dflt.has]
 simp +decide only [bK, bE, Nat.reduceAdd, b1]
 refine (msg_dflt B D.msg t2 (by omega) (by simpa using q2.2) (zjq _ D.msg.plain)).mono ?_
 rintro _ w3 ⟨m3, r3⟩
 refine zd (K := fun σ' w' => zed K _ .normal σ' w') fun σ3 hσ => hK _ _ ?_
 have c0 := hσ 0
 have c1 := hσ 1
 simp +decide only [bE, Nat.reduceBeqDiff, Nat.reduceAdd, Nat.zero_add, b0, b1] at c0 c1
 clear hσ hK K
 have s3 := m3.size
 have r3' : w3.rangeAt w1.heap.size 0 ([.int .i16 0] ++ m.fs.ini) := by
  rw [zu]
  refine ⟨m3.rangeAt (by omega) (fun i h1 h2 h => by have := h.2.1; simp at h2; omega) q2.1, by simpa using r3⟩
 have r3' : w3.rangeAt w1.heap.size 0 (.int .i16 0 :: m.fs.ini) := r3'
 have hld := hT.run_load (w := w3) (b := w1.heap.size) (o := 0) r3' (by simp [D.il]) (fun h => by cases h)
 have hlv : ∀ (f : Array Field) (x : List Value), ldv (.struct f) x = .agg x.toArray := fun _ _ => rfl
 rw [hlv] at hld
 have t13 := m3.there (by omega) (m2.there (by omega) t1)
 have hone : ∀ c ∈ (Value.int .i16 0 :: m.fs.ini), c.oneCell' = true := by
  intro c hc
  rcases List.mem_cons.1 hc with rfl | hc
  ·rfl
  ·exact zyw D.io c hc
 have hst := hT.run_store (w := w3) (b := w.heap.size) (o := 0) (v := .agg (.int .i16 0 :: m.fs.ini).toArray) (cs := .int .i16 0 :: m.fs.ini) rfl (by simp [D.il]) t13 hone
 refine zbq fun K hK => zx fun τ => ?_
 simp +decide only [bK, bE, Nat.reduceBeqDiff, BEq.rfl, Nat.reduceAdd, Nat.zero_add, c0, c1, hld, hst]
 have m4 : Mod w3 (w3.setCells w.heap.size 0 (.int .i16 0 :: m.fs.ini)) (blk w.heap.size) := Mod.setCells _ 0 _ fun _ _ _ _ => rfl
 have r13 := m3.rangeAt (by omega) (fun i _ _ h => by have := h.1; omega) (m2.rangeAt (by omega) (fun _ _ _ h => h) r1)
 have r4 := zap (.int .i16 0 :: m.fs.ini) 0 w3 _ r13 (by simp [D.il, Fds.zero_length])
 rw [List.drop_of_length_le (by simp [D.il, Fds.zero_length]), List.append_nil] at r4
 refine hK _ _ (zd fun σ4 hσ => zbq fun K2 hK2 => zbm ⟨.inr rfl, .agg (.int .i16 0 :: m.fs.ini).toArray, ?_⟩)
 have d0 := hσ 0
 simp +decide only [bE, Nat.reduceBeqDiff, Nat.zero_add, c0] at d0
 refine ⟨⟨_, d0, ?_⟩, rfl, ((m1.trans' m2).fresh m3 fun k o e => by have := e.1; omega).fresh m4 fun k o e => by have : k = w.heap.size := e; omega⟩
 rw [← loadVar_eq]
 have := hT.run_load (w := w3.setCells w.heap.size 0 (.int .i16 0 :: m.fs.ini)) (b := w.heap.size) (o := 0) r4 (by simp [D.il]) (fun h => by cases h)
 rw [hlv] at this
 exact this
theorem call_rfV (B : Base P N) (F : Fns P N) {m : Msg} {fx : Bool} {d : zzb} (D : DoorV P N m fx d) {f : FuncId} {u : Bool} (hf : FOk P f 2 (c_rf N m.pT d.readf u) [.var 2]) {w : World} {lo hi M : Nat} {v e : Value} {nl : Bool} {l : List UInt8} {x0 : Value}
  (hb : zby w lo hi v nl l) (hhi : hi ≤ w.heap.size) (ht : w.there M 0 (m.fs.sz + 1)) (hM : M < w.heap.size) (hMs : M < lo ∨ hi ≤ M) (hMg : M ≠ N.zah) (hver : w.cell? ⟨M, 0, none⟩ = some x0) (hz : w.rangeAt M 1 m.fs.ini) (he : w.cell? ⟨N.zah, 0, none⟩ = some e) :
  ∃ ver : Int, (PK.i16.rd ⟨l, false, nl⟩).1 = .int .i16 ver ∧ Call P f #[.pointer (some ⟨M, 0, none⟩), v] w (zvu N m (m.rd fx ver (PK.i16.rd ⟨l, false, nl⟩).2) lo hi M ver e w) := by
 obtain ⟨ver, hv, hcall⟩ := ztf B F D.vin D.i16 D.msg D.readf hb hhi ht hM hMs hMg hver hz (znr _ D.msg.plain) he (u := u)
 refine ⟨ver, hv, hf.call rfl fun loc N' hlo => ?_⟩
 unfold c_rf
 refine zlc (by simp) ?_
 refine zbq fun K hK => zau (hK _ _ ?_)
 clear hK K
 obtain ⟨σ, hσ⟩ : ∃ σ, σ = upd (zct #[.pointer (some ⟨M, 0, none⟩), v]) 2 .nilIface := ⟨_, rfl⟩
 have f0 : σ 0 = .pointer (some ⟨M, 0, none⟩) := by rw [hσ, zh (by decide)]; rfl
 have f1 : σ 1 = v := by rw [hσ, zh (by decide)]; rfl
 rw [← hσ]
 clear hσ
 refine zbq fun K hK => zx fun τ => ?_
 simp +decide only [bK, bE, Nat.reduceBeqDiff, Nat.reduceAdd, Nat.zero_add, f0, f1]
 rw [zin D.readf.has]
 simp +decide only [bK, bE, Nat.reduceBeqDiff, BEq.rfl]
 refine hcall.mono ?_
 intro v' w' hpost
 refine hK _ _ (zd fun σ3 hσ => zbq fun K2 hK2 => zbm ⟨.inr rfl, _, rfl, ?_⟩)
 have g3 := hσ 2
 simp +decide only [bE, BEq.rfl, Nat.reduceAdd] at g3
 rw [g3]; exact hpost
theorem call_doorV (B : Base P N) (F : Fns P N) (hI : zff P N) {m : Msg} {fx : Bool} {d : zzb} (D : DoorV P N m fx d) {f rf : Nat} {u : Bool} (hf : FOk P f 1 (zyu N m.tT m.pT d.newP rf d.tell) [.cell 1 N.zz, .var 2]) (hrf : FOk P rf 2 (c_rf N m.pT d.readf u) [.var 2])
  {w : World} {v : Value} {l : List UInt8} {te : TypeId} {ve : Value} (ha : zsx w v l) (hl : l.length < 1099511627776) (he : w.cell? ⟨N.zah, 0, none⟩ = some (.iface te ve)) :
  Call P f #[v] w (Doored w (m.doorV fx l).1 (m.doorV fx l).2) := by
 refine hf.call rfl fun loc N' hlo => ?_
 unfold zyu
 obtain ⟨ms, hms⟩ : ∃ ms, TI P N.zgn (.interface ms) 1 16 .nilIface := B.error.elim (fun h => ⟨_, h⟩) id
 obtain ⟨fsT, by', hT⟩ := D.ti
 have hgl : N.zah < w.heap.size := zay (by rw [he]; rfl)
 refine zlc (by simp) ?_
 obtain ⟨w1, hal, m1, s1, hres⟩ := zhm hI w
 refine zbq fun K hK => zx fun τ => ?_
 simp +decide only [bK, hal]
 refine hK _ _ (zd fun σ1 hσ => ?_)
 have a0 := hσ 0
 have a1 := hσ 1
 have a2 := hσ 2
 simp +decide only [bE, Nat.reduceBeqDiff, BEq.rfl, Nat.reduceAdd, Nat.zero_add, zbb] at a0 a1 a2
 clear hσ hK K hal
 refine zbq fun K hK => zx fun τ => ?_
 simp +decide only [bK, bE, Nat.reduceBeqDiff, BEq.rfl, Nat.reduceAdd]
 rw [zpj D.newP.has]
 refine (call_newV B D w1).mono ?_
 rintro v2 w2 ⟨rfl, m2⟩
 have hone : ∀ c ∈ (Value.int .i16 0 :: m.fs.ini), c.oneCell' = true := by
  intro c hc
  rcases List.mem_cons.1 hc with rfl | hc
  ·rfl
  ·exact zyw D.io c hc
 have hzon : ∀ c ∈ (Value.int .i16 0 :: m.fs.zero), c.oneCell' = true := by
  intro c hc
  rcases List.mem_cons.1 hc with rfl | hc
  ·rfl
  ·exact zyw D.zo c hc
 obtain ⟨wa, w3, hal3, hst3, _, m23, s3, r3, t3⟩ := zkd (cs := .int .i16 0 :: m.fs.ini) hT hzon (by simp [Fds.zero_length]) (by simp [D.il]) hone w2
 simp +decide only [bK, bE, BEq.rfl, hal3, hst3]
 refine hK _ _ (zd fun σ2 hσ => ?_)
 have b0 := hσ 0
 have b1 := hσ 1
 have b2 := hσ 2
 have b3 := hσ 3
 simp +decide only [bE, Nat.reduceBeqDiff, BEq.rfl, Nat.reduceAdd, Nat.zero_add, a0, a1, a2] at b0 b1 b2 b3
 clear hσ hK K a0 a1 a2 hal3 hst3
 obtain ⟨M, hM⟩ : ∃ M, M = w2.heap.size := ⟨_, rfl⟩
 rw [← hM] at r3 t3 b3
 have s2 := m2.size
 have m03 : Mod w w3 zq := (m1.trans' m2).trans' m23
 have ha3 : zsx w3 v l := ha.stay m03 fun a h => World.cell?_of_block (m03.block _ h fun _ h => h)
 obtain ⟨vb, w4, hcp, hb4, m4⟩ := zyg (ty := N.za) B ha3 hl
 have m04 : Mod w w4 zq := m03.trans' m4
 have s4 := m4.size
 have he4 : w4.cell? ⟨N.zah, 0, none⟩ = some (.iface te ve) := by rw [m04.cell _ _ hgl fun h => h]; exact he
 have r4 : w4.rangeAt M 0 ([.int .i16 0] ++ m.fs.ini) := m4.rangeAt (by omega) (fun _ _ _ h => h) r3
 have q4 := zu.1 r4
 have hv4 : w4.cell? ⟨M, 0, none⟩ = some (.int .i16 0) := q4.1 0 _ rfl
 have R4 : w4.rangeAt w.heap.size 0 zT := m4.rangeAt (by omega) (fun _ _ _ h => h) (m23.rangeAt (by omega) (fun _ _ _ h => h) (m2.rangeAt (by omega) (fun _ _ _ h => h) hres.r))
 have T4 : w4.there w.heap.size 0 5 := m4.there (by omega) (m23.there (by omega) (m2.there (by omega) hres.t))
 obtain ⟨ver, hver, hcall⟩ := call_rfV B F D hrf hb4 (Nat.le_refl _) (m4.there (by omega) t3) (by omega) (.inl (by omega)) (by omega) hv4 (by simpa using q4.2) he4
 have hverw : IntKind.i64.wrap ver = ver := by
  have h16 := pk_rdV .i16 ⟨l, false, l.isEmpty⟩
  rw [hver] at h16
  obtain ⟨n, hn, hw⟩ := h16
  injection hn with _ hn
  rw [hn]; exact hw
 refine zbq fun K hK => ze fun K1 hK1 => zx fun τ => ?_
 simp +decide only [bK, bE, BEq.rfl, Nat.zero_add, b0, hcp]
 rw [zbw hrf.has]
 simp +decide only [bK, bE, Nat.reduceBeqDiff, BEq.rfl, Nat.reduceAdd, b3]
 refine hcall.mono ?_
 intro v5 w5 hpost
 obtain ⟨m5, hpost⟩ := hpost
 have m05 : Mod w w5 zq := m04.fresh m5 fun k o h => by have : k = M := h; omega
 have s5 := m5.size
 have R5 : w5.rangeAt w.heap.size 0 zT := m5.rangeAt (by omega) (fun i _ _ h => by have : w.heap.size = M := h; omega) R4
 have T5 : w5.there w.heap.size 0 5 := m5.there (by omega) T4
 have hpair : PK.i16.rd ⟨l, false, l.isEmpty⟩ = (.int .i16 ver, (PK.i16.rd ⟨l, false, l.isEmpty⟩).2) := by rw [← hver]
 cases hrd : m.rd fx ver (PK.i16.rd ⟨l, false, l.isEmpty⟩).2 with
 | none =>
  rw [hrd] at hpost
  have hpost : v5 = .iface te ve := hpost
  subst hpost
  simp +decide only [bK, run_isErr hms]
  refine hK1 _ _ (zd fun σ4 hσ => ?_)
  have d1 := hσ 1
  have d4 := hσ 4
  simp +decide only [bE, Nat.reduceBeqDiff, BEq.rfl, Nat.reduceAdd, b1] at d1 d4
  clear hσ hK1 K1
  refine W_if hlo d4 ?_
  simp only [if_true]
  obtain ⟨w6, hst, m6, s6, r6, t6⟩ := zif hI (cs := zT) R5 rfl T5 rfl (by decide)
  refine ze fun K hK => zx fun τ => ?_
  have e0 : ∀ ρ : Env, (#[] : Array (Nat × Operand)).map (fun p => (p.1, ev ρ p.2)) = #[] := fun ρ => by simp
  simp +decide only [bK, bE, Nat.reduceBeqDiff, BEq.rfl, Nat.reduceAdd, e0, build0 hI, d1, hst]
  refine hK _ _ (zd fun σ5 hσ => zbm ?_)
  have g1 := hσ 1
  have g2 := hσ 2
  simp +decide only [bE, Nat.reduceBeqDiff, BEq.rfl, Nat.reduceAdd, d1] at g1 g2
  rw [show m.doorV fx l = (zdt 0 [] false, false) by unfold Msg.doorV; rw [hpair]; simp only [hrd]]
  refine ⟨.inr rfl, .tuple #[.agg zT.toArray, .bool false], ⟨_, _, ⟨_, g1, zoo hI r6 rfl⟩, rfl, by rw [g2]⟩, zT, rfl, zfr zie, m05.fresh m6 fun k o h => by have : k = w.heap.size := h; omega⟩
 | some x =>
  rw [hrd] at hpost
  obtain ⟨rfl, hc5, css, hrep, hr5, _⟩ := hpost
  simp +decide only [bK, run_isNil hms]
  refine hK1 _ _ (zd fun σ4 hσ => ?_)
  have d1 := hσ 1
  have d3 := hσ 3
  have d4 := hσ 4
  simp +decide only [bE, Nat.reduceBeqDiff, BEq.rfl, Nat.reduceAdd, b1, b3] at d1 d3 d4
  clear hσ hK1 K1
  refine W_if hlo d4 ?_
  simp only [Bool.false_eq_true, if_false]
  refine zaz (hK _ _ ?_)
  clear hK K
  have hov : m.fs.okV x := by
   unfold Msg.rd at hrd
   split at hrd
   ·cases hrd
   ·rename_i l' s' h1
    split at hrd
    ·cases hrd
    ·cases hrd; exact Fds.rd_ok _ _ m.fs D.dok _ _ _ h1
  refine zbq fun K hK => zx fun τ => ?_
  simp +decide only [bK, bE, Nat.reduceBeqDiff, BEq.rfl, Nat.reduceAdd]
  rw [zam D.tell.has]
  simp +decide only [bK, bE, BEq.rfl, Nat.reduceAdd, d3]
  refine (D.tell.ok w5 (GG w3.heap.size w4.heap.size w4.heap.size w5.heap.size) M 0 x css (fun k h => by rcases h with h | h <;> omega) (by omega) hov hrep hr5).mono ?_
  rintro v6 w6 ⟨cs, rfl, hrep6, m6⟩
  have s6 := m6.size
  have R6 := m6.rangeAt (by omega) (fun _ _ _ h => h) R5
  have T6 := m6.there (by omega) T5
  obtain ⟨w7, hal7, m7, s7, hres7⟩ := zhm hI w6
  obtain ⟨w8, hst8, m8, s8, r8, t8⟩ := zif hI hres7.r rfl hres7.t hrep6.len hrep6.one
  simp +decide only [bK, hal7, hst8]
  refine hK _ _ (zd fun σ5 hσ => ?_)
  have e1 := hσ 1
  have e3 := hσ 3
  have e5 := hσ 5
  simp +decide only [bE, Nat.reduceBeqDiff, BEq.rfl, Nat.reduceAdd, d1, d3] at e1 e3 e5
  clear hσ hK K
  have m58 : Mod w5 w8 zq := m6.trans' (m7.fresh m8 fun k o h => by have : k = w6.heap.size := h; omega)
  have hc8 : w8.cell? ⟨M, 0, none⟩ = some (.int .i16 ver) := by rw [m58.cell _ _ (by omega) fun h => h]; exact hc5
  obtain ⟨cv, ct, hcs, hct⟩ : ∃ (cv : Value) (ct : List Value), cs = .int .i64 0 :: ct ∧ ∀ w' (G : Nat → Prop), RepT w' G (m.fs.tr x) (.int .i64 0 :: ct) → RepT w' G (.mk ver [] false (m.fs.trs x) (m.fs.tgs x)) (.int .i64 ver :: ct) := by
   unfold Fds.tr at hrep6
   simp only [RepT] at hrep6
   obtain ⟨vs, vl, vu, rfl, _⟩ := hrep6
   refine ⟨vs, [vs, .bool false, vl, vu], rfl, fun w' G h => ?_⟩
   unfold Fds.tr at h
   simp only [RepT] at h ⊢
   obtain ⟨vs', vl', vu', e, h1, h2, h3⟩ := h
   simp only [List.cons.injEq, and_true, true_and] at e
   obtain ⟨rfl, rfl, rfl⟩ := e
   exact ⟨_, _, _, rfl, h1, h2, h3⟩
  have hcv := fun {w : World} => zbt (P := P) (w := w) (k' := .i16) B.int16 B.int64 (n := ver) ⟨_, rfl⟩
  rw [hverw] at hcv
  have st9 := B.int64.run_store1 (w := w8) (b := w6.heap.size) (o := 0) (v := .int .i64 ver) rfl (fun j hj => t8 j (by omega))
  obtain ⟨w9, hw9⟩ : ∃ w9, w9 = w8.setCell ⟨w6.heap.size, 0, none⟩ (.int .i64 ver) := ⟨_, rfl⟩
  have m9 : Mod w8 w9 (blk w6.heap.size) := by rw [hw9]; exact Mod.setCell fun _ => rfl
  have s9 : w9.heap.size = w8.heap.size := by rw [hw9]; simp [World.setCell]
  have r9 : w9.rangeAt w6.heap.size 0 (.int .i64 ver :: ct) := by
   rw [hcs] at r8
   have := zap [.int .i64 ver] 0 w8 (b := w6.heap.size) _ r8 (by simp)
   rw [hw9]
   simpa [World.setCells] using this
  refine zbq fun K hK => zx fun τ => ?_
  simp +decide only [bK, bE, Nat.reduceBeqDiff, BEq.rfl, Nat.reduceAdd, Nat.add_zero, e3, e5, D.msg.v0.run, B.int16.run_load1 rfl, hc8, hcv, hI.h0.run, st9]
  rw [← hw9]
  refine hK _ _ (zd fun σ6 hσ => ?_)
  have f1 := hσ 1
  have f5 := hσ 5
  simp +decide only [bE, Nat.reduceBeqDiff, Nat.reduceAdd, e1, e5] at f1 f5
  clear hσ hK K
  have m59 : Mod w5 w9 zq := m58.fresh m9 fun k o h => by have : k = w6.heap.size := h; omega
  have R9 := m59.rangeAt (by omega) (fun _ _ _ h => h) R5
  have T9 := m59.there (by omega) T5
  have hl9 : (Value.int .i64 ver :: ct).length = 5 := by
   have := hrep6.len
   rw [hcs] at this
   simpa using this
  have ho9 : ∀ c ∈ (Value.int .i64 ver :: ct), c.oneCell' = true := by
   intro c hc
   rcases List.mem_cons.1 hc with rfl | hc
   ·rfl
   ·exact hrep6.one c (by rw [hcs]; simp [hc])
  have hld := zwo hI (w1 := w9) r9 hl9
  obtain ⟨w10, hst, m10, s10, r10, t10⟩ := zif hI R9 rfl T9 hl9 ho9
  refine zbq fun K hK => zx fun τ => ?_
  simp +decide only [bK, bE, Nat.reduceBeqDiff, BEq.rfl, Nat.reduceAdd, f1, f5, hld, hst]
  refine hK _ _ (zd fun σ7 hσ => zbq fun K2 hK2 => zbm ?_)
  have g1 := hσ 1
  have g2 := hσ 2
  simp +decide only [bE, Nat.reduceBeqDiff, BEq.rfl, Nat.reduceAdd, f1] at g1 g2
  rw [show m.doorV fx l = (.mk ver [] false (m.fs.trs x) (m.fs.tgs x), true) by unfold Msg.doorV; rw [hpair]; simp only [hrd]]
  have m610 : Mod w6 w10 (fun k _ => k = w.heap.size) := ((m7.fresh m8 fun k o h => by have : k = w6.heap.size := h; omega).fresh m9 fun k o h => by have : k = w6.heap.size := h; omega).trans m10 fun k o _ h => h.elim False.elim id
  refine ⟨.inr rfl, .tuple #[.agg (.int .i64 ver :: ct).toArray, .bool true], ⟨_, _, ⟨_, g1, zoo hI r10 hl9⟩, rfl, by rw [g2]⟩, .int .i64 ver :: ct, rfl, ?_, (m05.trans' m59).fresh m10 fun k o h => by have : k = w.heap.size := h; omega⟩
  rw [hcs] at hrep6
  exact hct _ _ (RepT.mod (G := NB w5.heap.size w6.heap.size) m610 (fun k hk => ⟨hk.2, fun o h => by have := hk.1; omega, by have := hk.1; omega, by have := hk.2; omega⟩) _ hrep6)
end
def dKept (N : Nums) (M : zcd) : List ROp := [
 ⟨some 0, .move (V 1), 0, none, []⟩,
 ⟨some 1, .call ⟨.value (.func M.zeb), #[T 0, .const (.int .i64 2)], #[N.zav, N.zg]⟩, N.za, none, [0]⟩,
 ⟨some 2, .load M.zai (V 3), 0, none, []⟩,
 ⟨some 3, .move (V 1), 0, none, []⟩,
 ⟨some 4, .load N.zc (V 4), 0, none, []⟩,
 ⟨some 5, .call ⟨.value (.func M.zlq), #[T 2, T 3, T 4], #[M.zai, N.zg, N.zc]⟩, N.za, none, [2, 3, 4, 1]⟩,
 ⟨some 6, .call ⟨.builtin .append, #[T 1, T 5], #[N.za, N.za]⟩, N.za, none, [1, 5, 5]⟩,
 ⟨some 105, .assign (T 6), 0, none, [6, 6, 0, 1, 2, 3, 4, 5, 6]⟩]
def c_Kept (N : Nums) (M : zcd) : C := seqs [.ops [⟨some 103, .box M.zai (V 0), 0, none, []⟩, ⟨some 104, .box N.zc (V 2), 0, none, []⟩, ⟨some 105, .assign (.const (.slice none 0 0)), 0, none, []⟩], .draw (dKept N M), .ret]
section
variable {P : Program} {N : Nums} {M : zcd}
theorem W_kept (B : Base P N) (S : SpT P N M) (hW : SW P N M) {loc : List Nat} {N' : Nat} {Q : Exit → Env → World → Prop} {σ : Env} {w : World} {b3 b4 : Nat} {fv : Value} {fl v : Int} {fs : List Fld} {t : Tr} {cs : List Value} (h1 : fs.length < 1000) (hok : zov fs = true)
  (s1 : σ 1 = .int .i64 v) (s3 : σ 3 = .pointer (some ⟨b3, 0, none⟩)) (s4 : σ 4 = .pointer (some ⟨b4, 0, none⟩)) (r3 : w.rangeAt b3 0 [fv, .int .i64 fl]) (r4 : w.rangeAt b4 0 cs) (hf : zfs w fv fs) (ht : RepA w t cs) (hwf : wfT t)
  (hbig : (zdm (zih fl v) v fs t).length < 549755813888) (hQ : ∀ (σ' : Env) (w' : World), Gave w (fixB v 2 ++ zdm (zih fl v) v fs t) (σ' 5) w' → Q .normal σ' w') : W P loc N' (.draw (dKept N M)) Q σ w := by
 have md : Mod w w.drew zq := Mod.drew _ _
 obtain ⟨fsM, htM, _⟩ := S.msg.out
 have hlv : ∀ (f : Array Field) (x : List Value), ldv (.struct f) x = .agg x.toArray := fun _ _ => rfl
 refine zet B.mixed [true, false, true, true, true, false, false, false] (by kernel_rfl) (fun w' => Mod w w' zq) md fun τ => ?_
 unfold dKept
 refine zb (.int .i64 v) (fun w' hw => by
  rw [zan, ev_tmp]
  simp +decide only [bE, Nat.reduceAdd, s1]) rfl ?_
 simp only []
 refine zb (.agg [fv, .int .i64 fl].toArray) (fun w' hw => zi (by
  simp +decide only [bE, Nat.reduceBeqDiff, Nat.reduceAdd, ev_tmp, s3]
  have := htM.run_load (w := w') (b := b3) (o := 0) (zj hw r3) rfl (fun h => by cases h)
  rw [this]; rfl)) rfl ?_
 refine zb (.int .i64 v) (fun w' hw => by
  rw [zan, ev_tmp]
  simp +decide only [bE, Nat.reduceBeqDiff, Nat.reduceAdd, s1]) rfl ?_
 refine zb (.agg cs.toArray) (fun w' hw => zi (by
  simp +decide only [bE, Nat.reduceBeqDiff, Nat.reduceAdd, ev_tmp, s4]
  exact zcp S.tr (zj hw r4) ht.len)) rfl ?_
 simp only [zdf, zco, List.zip_cons_cons, List.zip_nil_right, List.zipWith_cons_cons, List.zipWith_nil_right, List.filter, Bool.not_true, Bool.not_false, List.map, zdg]
 rw [zbw hW.Fixed.has]
 simp +decide only [bK, bE, Nat.reduceBeqDiff, BEq.rfl]
 refine (zqt B hW.Fixed w.drew v 2 (by decide)).mono ?_
 rintro r1 w2 ⟨o2, m2⟩
 have m02 := md.trans' m2
 refine ⟨m02, ?_⟩
 rw [zin hW.Write.has]
 simp +decide only [bK, bE, Nat.reduceBeqDiff, BEq.rfl]
 refine (sp_Write B S hW h1 hok (hf.stay m02) (RepA.stay m02 _ ht) hwf hbig).mono ?_
 rintro r5 w3 ⟨o3, m3⟩
 have m03 := m02.trans' m3
 refine ⟨m03, ?_⟩
 have hs := md.size
 have hs2 := m2.size
 have hs3 := m3.size
 obtain ⟨v6, w4, h6, o6, m6, _⟩ := zgb (ty := N.za) B (Own.stay m3 (fun _ _ _ h => h) o2 : OwnB w3 w.drew.heap.size r1 (fixB v 2)) o3.octA (by omega) (by rw [zdh]; omega)
 simp +decide only [bK, h6]
 have m04 : Mod w w4 zq := m03.fresh m6 fun k o h => by have := (o2.blk h).1; omega
 refine ⟨m04, ?_⟩
 try simp +decide only [bK, bE, zft, Nat.reduceBeqDiff, decide_true, decide_false, BEq.rfl, beq_self_eq_true, reduceIte, Nat.reduceAdd, Nat.reduceSub, Nat.reduceLT, Nat.reduceEqDiff, Nat.reduceLeDiff, Nat.reduceMul, Nat.add_sub_cancel, Int.reduceToNat, Nat.add_zero, Nat.zero_add, Nat.mul_one, Nat.reduceBEq, reduceCtorEq, Nat.zero_ne_one, Nat.one_ne_zero, Nat.lt_irrefl, if_false, if_true, List.take_succ_cons, List.take_zero, List.drop_succ_cons, List.drop_zero, true_and, Option.map_some, Option.map_none]
 refine zd fun σ' hσ => hQ σ' w4 ?_
 have g5 := hσ 5
 simp +decide only [bE, BEq.rfl, Nat.reduceAdd] at g5
 rw [g5]
 exact ⟨o6, m04⟩
theorem sp_Kept (B : Base P N) (S : SpT P N M) (hW : SW P N M) {kp : FuncId} (hF : FOk P kp 3 (c_Kept N M) [.var 5]) {w : World} {fv : Value} {fl v : Int} {fs : List Fld} {t : Tr} {cs : List Value} (h1 : fs.length < 1000) (hok : zov fs = true) (hf : zfs w fv fs) (ht : RepA w t cs) (hwf : wfT t)
  (hbig : (zdm (zih fl v) v fs t).length < 549755813888) : Call P kp #[.agg [fv, .int .i64 fl].toArray, .int .i64 v, .agg cs.toArray] w (Gave w (fixB v 2 ++ zdm (zih fl v) v fs t)) := by
 refine hF.call rfl fun loc N' hlo => ?_
 unfold c_Kept
 refine zlc (by simp) ?_
 refine zbq fun K hK => zx fun τ => ?_
 simp +decide only [bK, bE, Nat.reduceBeqDiff, Nat.reduceAdd, Nat.zero_add]
 obtain ⟨w1, hw1⟩ : ∃ w1, w1 = w.alloc (.cells (Value.cells (.agg [fv, .int .i64 fl].toArray)) M.zai) := ⟨_, rfl⟩
 have m1 : Mod w w1 zq := by rw [hw1]; exact Mod.alloc _ _ _
 have r1 : w1.rangeAt w.heap.size 0 [fv, .int .i64 fl] := by rw [hw1]; exact zr w _ _ _
 have s1 : w1.heap.size = w.heap.size + 1 := by rw [hw1]; exact zak _ _
 rw [← hw1]
 clear hw1
 obtain ⟨w2, hw2⟩ : ∃ w2, w2 = w1.alloc (.cells (Value.cells (.agg cs.toArray)) N.zc) := ⟨_, rfl⟩
 have m2 : Mod w1 w2 zq := by rw [hw2]; exact Mod.alloc _ _ _
 have r2 : w2.rangeAt w1.heap.size 0 cs := by rw [hw2]; exact zr w1 _ _ _
 rw [← hw2]
 clear hw2
 have m02 := m1.trans' m2
 refine hK _ _ (zd fun σ1 hσ => ?_)
 have a1 := hσ 1
 have a3 := hσ 3
 have a4 := hσ 4
 simp +decide only [bE, Nat.reduceBeqDiff, BEq.rfl, Nat.reduceAdd, zma] at a1 a3 a4
 clear hσ hK K
 refine zbq fun K hK => W_kept B S hW h1 hok a1 a3 a4 (zj m2 r1) r2 (hf.stay m02) (RepA.stay m02 _ ht) hwf hbig fun σ' w' hg => hK _ _ (zbq fun K2 hK2 => zbm ⟨.inr rfl, _, rfl, ?_⟩)
 have hs := m02.size
 exact ⟨Own.mono_lo hs hg.1, m02.trans' hg.2⟩
end
section
variable {P : Program} {N : Nums} {M : zcd}
theorem rd_kept {m : Msg} {fx : Bool} {sf : List Fld} {fl : Int} {k : Nat} (hk : k < 32768) (hver : verB m fx sf fl k = true) {v : Nat} (hv : v ≤ k) {t : Tr} (hwf : wfT t) :
  ∃ x, m.doorV fx (fixB v 2 ++ zdm (zih fl v) v sf t) = (.mk v [] false (m.fs.trs x) (m.fs.tgs x), true) ∧ zpg (zih fl v) v sf t (m.fs.tr x) := by
 obtain ⟨g1, g2, g3⟩ := verB_at hver hv
 rw [← g3] at g1
 obtain ⟨p1, x, p2, p3⟩ := msg_rd (m := m) (fx := fx) (ver := v) hwf (by rw [← g3]; exact g1)
 rw [← g3] at p1 p2 p3
 refine ⟨x, ?_, p3⟩
 obtain ⟨s, hs⟩ : ∃ s, s = zdm (zih fl v) v sf t := ⟨_, rfl⟩
 rw [← hs] at p2 ⊢
 have hne : (fixB (v : Int) 2 ++ s).isEmpty = false := by
  cases hc : fixB (v : Int) 2 ++ s with
  | nil =>
   have : (fixB (v : Int) 2 ++ s).length = 0 := by rw [hc]; rfl
   rw [List.length_append, zdh] at this
   omega
  | cons a b => rfl
 have hrs : (⟨fixB (v : Int) 2 ++ s, false, (fixB (v : Int) 2 ++ s).isEmpty⟩ : RS) = rs (fixB v 2 ++ s) := by rw [hne]; rfl
 have h16 : PK.i16.rd (rs (fixB (v : Int) 2 ++ s)) = (.int .i16 v, rs s) := by
  show zee 2 (fun l => .int .i16 (IntKind.i16.wrap (be l))) (.int .i16 0) (rs (fixB (v : Int) 2 ++ s)) = _
  rw [zks (c := 2) (zdh (v : Int) 2)]
  have hb := zkx (v : Int) 2
  have e : (be (fixB (v : Int) 2) : Int) = v := by
   rw [hb]
   have : ((256 ^ 2 : Nat) : Int) = 65536 := by decide
   rw [this]; omega
  rw [e, zra (by omega)]
 unfold Msg.doorV
 rw [hrs, h16]
 simp only [p2]
theorem zyq {m : Msg} {fx : Bool} {d : zzb} (D : DoorV P N m fx d) (l : List UInt8) : okS (m.doorV fx l).1 ∧ okT (m.doorV fx l).1 := by
 unfold Msg.doorV
 split
 ·rename_i ver s h16
  split
  ·exact zdp _ _ _ (by simp)
  ·rename_i x hrd
   have hov : m.fs.okV x := by
    unfold Msg.rd at hrd
    split at hrd
    ·cases hrd
    ·rename_i l' s' h1
     split at hrd
     ·cases hrd
     ·cases hrd; exact Fds.rd_ok _ _ m.fs D.dok _ _ _ h1
   have := tr_short D.cnt D.shB hov
   unfold Fds.tr at this
   simp only [okS, okT] at this ⊢
   exact this
 ·exact zdp _ _ _ (by simp)
theorem exec_pick {ρ : Env} {d : Option Nat} {ty : TypeId} {c a b : Operand} {g : Option (Option Nat × Bool)} {af : List Nat} {w : World} {bb : Bool} (h : ev ρ c = .bool bb) : (exec ρ ⟨d, .pick c a b, ty, g, af⟩).run P w = .ok (.value (if bb then ev ρ a else ev ρ b)) w := by
 simp [exec, execOp, h, asBool]
end
def dTellV (N : Nums) (M : zcd) : List ROp := [
 ⟨some 0, .move (V 8), 0, none, []⟩,
 ⟨some 1, .move (T 0), 0, none, [0]⟩,
 ⟨some 2, .fieldAddr N.zz (V 7) 0, 0, some (some 1, true), [1]⟩,
 ⟨some 3, .load N.zav (T 2), 0, some (some 1, true), [2, 1]⟩,
 ⟨some 4, .move (V 6), 0, some (some 1, true), [1]⟩,
 ⟨some 5, .binOp .eql N.zav (T 3) (T 4) N.zav, 0, some (some 1, true), [3, 4, 1]⟩,
 ⟨some 6, .pick (T 1) (T 5) (.const (.bool false)), 0, none, [1, 5]⟩,
 ⟨some 7, .move (T 6), 0, none, [6, 1]⟩,
 ⟨some 8, .fieldAddr M.zai (V 5) 0, 0, some (some 7, true), [7]⟩,
 ⟨some 9, .load M.zac (T 8), 0, some (some 7, true), [8, 7]⟩,
 ⟨some 10, .move (V 6), 0, some (some 7, true), [7]⟩,
 ⟨some 11, .load M.zai (V 5), 0, some (some 7, true), [7]⟩,
 ⟨some 12, .move (V 6), 0, some (some 7, true), [7]⟩,
 ⟨some 13, .call ⟨.value (.func M.zea), #[T 11, T 12], #[M.zai, N.zg]⟩, N.zae, some (some 7, true), [11, 12, 7, 7]⟩,
 ⟨some 14, .load N.zc (V 2), 0, some (some 7, true), [7]⟩,
 ⟨some 15, .load N.zz (V 7), 0, some (some 7, true), [7]⟩,
 ⟨some 16, .call ⟨.value (.func N.zqn), #[T 15], #[N.zz]⟩, N.zc, some (some 7, true), [15, 13, 7]⟩,
 ⟨some 17, .call ⟨.value (.func M.zku), #[T 9, T 10, T 13, T 14, T 16], #[M.zac, N.zg, N.zae, N.zc, N.zc]⟩, N.zae, some (some 7, true), [9, 10, 13, 14, 16, 16, 7]⟩,
 ⟨some 18, .pick (T 7) (T 17) (.const (.bool false)), 0, none, [7, 17]⟩,
 ⟨some 103, .assign (T 18), 0, none, [18, 17, 0, 1, 2, 3, 4, 5, 6, 7, 8, 9, 10, 11, 12, 13, 14, 15, 16, 17, 18]⟩]
def c_lawTV (N : Nums) (M : zcd) (tTB tellI mk kept : Nat) (md : Int) : C := seqs [
 .ops [⟨some 102, .box N.zc (V 1), 0, none, []⟩, ⟨some 103, .assign (.const (.bool false)), 0, none, []⟩],
 .seq (.ops [⟨some 0, .load N.zc (V 2), 0, none, []⟩, ⟨some 1, .call ⟨.value (.func M.zrx), #[T 0], #[N.zc]⟩, N.zae, none, []⟩, ⟨some 104, .unOp .not N.zae (T 1), 0, none, []⟩]) (.cond 4 (.seq (zkc 3 (.bool true)) .ret) .skip),
 .ops [⟨some 0, .call ⟨.value (.func mk), #[], #[]⟩, M.zai, none, []⟩, ⟨some 1, .move (V 0), 0, none, []⟩, ⟨some 2, .convert N.zy N.zg (T 1), 0, none, []⟩, ⟨some 3, .binOp .rem N.zg (T 2) (.const (.int .i64 md)) N.zg, 0, none, []⟩,
  ⟨some 105, .alloc M.zai, 0, none, []⟩, ⟨none, .store M.zai (V 5) (T 0), 0, none, []⟩, ⟨some 106, .assign (T 3), 0, none, []⟩],
 .ops [⟨some 1, .load M.zai (V 5), 0, none, []⟩, ⟨some 2, .move (V 6), 0, none, []⟩, ⟨some 3, .load N.zc (V 2), 0, none, []⟩, ⟨some 4, .call ⟨.value (.func kept), #[T 1, T 2, T 3], #[M.zai, N.zg, N.zc]⟩, N.za, none, []⟩,
  ⟨some 5, .call ⟨.value (.func tellI), #[T 4], #[N.za]⟩, tTB, none, []⟩, ⟨some 0, .move (T 5), 0, none, []⟩, ⟨some 6, .extract (T 0) 0, 0, none, []⟩, ⟨some 7, .extract (T 0) 1, 0, none, []⟩, ⟨some 107, .alloc N.zz, 0, none, []⟩, ⟨none, .store N.zz (V 7) (T 6), 0, none, []⟩, ⟨some 108, .assign (T 7), 0, none, []⟩],
 .draw (dTellV N M), .ret]
structure LawTV (P : Program) (N : Nums) (M : zcd) (m : Msg) (fx : Bool) (d : zzb) (k : Nat) (mk kept : Nat) (sc : List SC) (fl : Int) : Prop where
 D : DoorV P N m fx d
 rf : FOk P d.readF 2 (c_rf N m.pT d.readf false) [.var 2]
 ti : FOk P d.tellI 1 (zyu N m.tT m.pT d.newP d.readF d.tell) [.cell 1 N.zz, .var 2]
 kk : k < 32767
 mf : FOk P mk 0 (c_msg M sc fl) [.cell 0 M.zai]
 kf : FOk P kept 3 (c_Kept N M) [.var 5]
 scb : scB sc = true
 sco : scOk P sc
 okf : zov (SC.flds sc) = true
 okl : okLsB (SC.flds sc) = true
 ver : verB m fx (SC.flds sc) fl k = true
section
variable {P : Program} {N : Nums} {M : zcd}
theorem toldFs_l {flex : Bool} {v : Int} : ∀ {fs : List Fld} {i : Nat} {t g g' : Tr}, g.l = g'.l → zjj flex v fs i t g → zjj flex v fs i t g'
 | [], _, _, _, _, _, _ => by rw [zjj]; trivial
 | f :: r, i, t, g, g', hl, h => by
  rw [zjj] at h ⊢
  exact ⟨fun y hy => h.1 y (by rw [hl]; exact hy), toldFs_l hl h.2⟩
theorem toldP_n {flex : Bool} {v n : Int} {fs : List Fld} {t : Tr} {l : List Tr} {u : List (Nat × List UInt8)} (h : zpg flex v fs t (.mk 0 [] false l u)) : zpg flex v fs t (.mk n [] false l u) :=
 ⟨h.1, toldFs_l (g := .mk 0 [] false l u) rfl h.2.1, h.2.2⟩
theorem W_tellV (B : Base P N) (F : Fns P N) (hI : zff P N) (S : SpT P N M) (hT : STo P N M) (hG : N.zqn ≠ 0) {loc : List Nat} {N' : Nat} {Q : Exit → Env → World → Prop} {σ : Env} {w : World} {bT bM b7 : Nat} {v fl : Int} {fs : List Fld} {fv : Value} {t : Tr} {yl : List Tr} {yu : List (Nat × List UInt8)} {ct : List Value}
  (h2 : σ 2 = .pointer (some ⟨bT, 0, none⟩)) (h5 : σ 5 = .pointer (some ⟨bM, 0, none⟩)) (h6 : σ 6 = .int .i64 v) (h7 : σ 7 = .pointer (some ⟨b7, 0, none⟩)) (h8 : σ 8 = .bool true)
  (rT : w.rangeAt bT 0 ct) (ht : RepA w t ct) (rM : w.rangeAt bM 0 [fv, .int .i64 fl]) (hf : zfs w fv fs) (p7 : Put w b7 (.mk v [] false yl yu)) (hs : okS (.mk v [] false yl yu)) (ok : ToldOk P M (zih fl v) v fs) (hy : zpg (zih fl v) v fs t (.mk v [] false yl yu))
  (hQ : ∀ (σ' : Env) (w' : World), σ' 3 = .bool true → Mod w w' zq → Q .normal σ' w') : W P loc N' (.draw (dTellV N M)) Q σ w := by
 have md : Mod w w.drew zq := Mod.drew _ _
 obtain ⟨c9, q9, r9, l9⟩ := p7
 obtain ⟨fsM, htM, _⟩ := S.msg.out
 have hc9 : ∃ ct9, c9 = .int .i64 v :: ct9 := by
  simp only [RepT] at q9
  obtain ⟨vs, vl, vu, rfl, _⟩ := q9
  exact ⟨_, rfl⟩
 obtain ⟨ct9, hc9⟩ := hc9
 refine zet B.mixed [true, true, true, true, true, true, true, true, true, true, true, true, true, false, true, true, false, false, false, false] (by kernel_rfl) (fun w' => Mod w w' zq) md fun τ => ?_
 unfold dTellV
 refine zb (.bool true) (fun w' hw => by
  rw [zan, ev_tmp]
  simp +decide only [bE, Nat.reduceAdd, h8]) rfl ?_
 refine zb (.bool true) (fun w' hw => by
  rw [zan, ev_tmp]
  simp +decide only [bE, BEq.rfl]) rfl ?_
 refine zcx (.pointer (some ⟨b7, 0, none⟩)) (by simp +decide only [zcf, bE, BEq.rfl]) (fun w' hw => zi (by
  simp +decide only [bE, Nat.reduceBeqDiff, Nat.reduceAdd, Nat.zero_add, ev_tmp, h7, hI.h0.run])) ?_
 refine zcx (.int .i64 v) (by simp +decide only [zcf, bE, Nat.reduceBeqDiff, BEq.rfl]) (fun w' hw => zi (by
  have := (hw.rangeAt l9 (fun _ _ _ h => h) r9) 0 (.int .i64 v) (by rw [hc9]; rfl)
  simp +decide only [Nat.zero_add] at this
  simp +decide only [bE, BEq.rfl, ev_tmp, B.int64.run_load1 rfl, this, ldc_some])) ?_
 refine zcx (.int .i64 v) (by simp +decide only [zcf, bE, Nat.reduceBeqDiff, BEq.rfl]) (fun w' hw => by
  rw [zan, ev_tmp]
  simp +decide only [bE, Nat.reduceBeqDiff, Nat.reduceAdd, h6]) ?_
 refine zcx (.bool true) (by simp +decide only [zcf, bE, Nat.reduceBeqDiff, BEq.rfl]) (fun w' hw => zi (by
  simp +decide only [bE, Nat.reduceBeqDiff, BEq.rfl, ev_tmp, zuz])) ?_
 refine zb (.bool true) (fun w' hw => by
  rw [exec_pick (bb := true) (by simp +decide only [ev_tmp, bE, Nat.reduceBeqDiff, BEq.rfl])]
  simp +decide only [if_true, ev_tmp, bE, BEq.rfl]) rfl ?_
 refine zb (.bool true) (fun w' hw => by
  rw [zan, ev_tmp]
  simp +decide only [bE, BEq.rfl]) rfl ?_
 refine zcx (.pointer (some ⟨bM, 0, none⟩)) (by simp +decide only [zcf, bE, BEq.rfl]) (fun w' hw => zi (by
  simp +decide only [bE, Nat.reduceBeqDiff, Nat.reduceAdd, Nat.zero_add, ev_tmp, h5, S.m0.run])) ?_
 refine zcx fv (by simp +decide only [zcf, bE, Nat.reduceBeqDiff, BEq.rfl]) (fun w' hw => zi (by
  have := zj hw rM 0 _ rfl
  simp +decide only [Nat.zero_add] at this
  simp +decide only [bE, BEq.rfl, ev_tmp, S.lf.run_load1 rfl, this, ldc_some])) ?_
 refine zcx (.int .i64 v) (by simp +decide only [zcf, bE, Nat.reduceBeqDiff, BEq.rfl]) (fun w' hw => by
  rw [zan, ev_tmp]
  simp +decide only [bE, Nat.reduceBeqDiff, Nat.reduceAdd, h6]) ?_
 refine zcx (.agg [fv, .int .i64 fl].toArray) (by simp +decide only [zcf, bE, Nat.reduceBeqDiff, BEq.rfl]) (fun w' hw => zi (by
  simp +decide only [bE, Nat.reduceBeqDiff, Nat.reduceAdd, ev_tmp, h5]
  have := htM.run_load (w := w') (b := bM) (o := 0) (zj hw rM) rfl (fun h => by cases h)
  rw [this]; rfl)) ?_
 refine zcx (.int .i64 v) (by simp +decide only [zcf, bE, Nat.reduceBeqDiff, BEq.rfl]) (fun w' hw => by
  rw [zan, ev_tmp]
  simp +decide only [bE, Nat.reduceBeqDiff, Nat.reduceAdd, h6]) ?_
 simp only []
 refine zcx (.agg ct.toArray) (by simp +decide only [zcf, bE, Nat.reduceBeqDiff, BEq.rfl]) (fun w' hw => zi (by
  simp +decide only [bE, Nat.reduceBeqDiff, Nat.reduceAdd, ev_tmp, h2]
  exact zcp S.tr (zj hw rT) ht.len)) ?_
 refine zcx (.agg c9.toArray) (by simp +decide only [zcf, bE, Nat.reduceBeqDiff, BEq.rfl]) (fun w' hw => zi (by
  simp +decide only [bE, Nat.reduceBeqDiff, Nat.reduceAdd, ev_tmp, h7]
  exact zwo hI (hw.rangeAt l9 (fun _ _ _ h => h) r9) q9.len)) ?_
 simp only [zdf, zco, List.zip_cons_cons, List.zip_nil_right, List.zipWith_cons_cons, List.zipWith_nil_right, List.filter, Bool.not_true, Bool.not_false, List.map, zdg]
 rw [zal (b := true) (by simp +decide only [bE, Nat.reduceBeqDiff, BEq.rfl]), zbw hT.Message_Flexible.has]
 simp +decide only [bK, bE, Nat.reduceBeqDiff, BEq.rfl]
 refine (zxy B S hT.Message_Flexible w.drew fv fl v).mono ?_
 rintro _ w2 ⟨rfl, m2⟩
 have m02 := md.trans' m2
 refine ⟨m02, ?_⟩
 rw [zal (b := true) (by simp +decide only [bE, Nat.reduceBeqDiff, BEq.rfl]), zam (F.got hG).has]
 simp +decide only [bK, bE, Nat.reduceBeqDiff, BEq.rfl]
 refine (gotT B F hG S.tr hI _ hs w2 (fun k => k < b7) c9 (fun k hk => Nat.lt_of_lt_of_le (Nat.lt_trans hk l9) m02.size) (RepT.stay m02 _ q9)).mono ?_
 rintro _ w3 ⟨d1, rfl, q3, m3⟩
 have m03 := m02.trans' m3
 refine ⟨m03, ?_⟩
 rw [zal (b := true) (by simp +decide only [bE, Nat.reduceBeqDiff, BEq.rfl]), zmi hT.Told.has]
 simp +decide only [bK, bE, Nat.reduceBeqDiff, BEq.rfl]
 refine (ok w3 fv t _ ct d1 (hf.stay m03) (RepA.stay m03 _ ht) (RepT.repA _ q3) hy).mono ?_
 rintro _ w4 ⟨rfl, m4⟩
 have m04 := m03.trans' m4
 refine ⟨m04, ?_⟩
 simp +decide only [bK, bE, Nat.reduceBeqDiff, BEq.rfl, if_true, zbj]
 refine ⟨m04, ?_⟩
 refine zd fun σ' hσ => hQ σ' _ ?_ m04
 have g := hσ 3
 simp +decide only [bE, BEq.rfl, Nat.reduceAdd] at g
 exact g
theorem call_lawTV (B : Base P N) (F : Fns P N) (hI : zff P N) (S : SpT P N M) (hZ : SZ P N M) (hW : SW P N M) (hT : STo P N M) (hN : N.zbu ≠ 0) (hG : N.zqn ≠ 0) {m : Msg} {fx : Bool} {d : zzb} {k mk kept : Nat} {sc : List SC} {fl : Int} (L : LawTV P N M m fx d k mk kept sc fl) {f tTB : Nat}
  (hf : FOk P f 2 (c_lawTV N M tTB d.tellI mk kept ((k : Int) + 1)) [.var 3]) {w : World} {t : Tr} {ct : List Value} {n : Int} {te : TypeId} {ve : Value} (hn : 0 ≤ n ∧ n ≤ 255) (ht : RepA w t ct) (hwf : wfT t) (hsz : szT t ≤ 1048576) (he : w.cell? ⟨N.zah, 0, none⟩ = some (.iface te ve)) :
  Call P f #[.int .u8 n, .agg ct.toArray] w fun v' w' => v' = .bool true ∧ Mod w w' zq := by
 refine hf.call rfl fun loc N' hlo => ?_
 unfold c_lawTV
 refine zlc (by simp) ?_
 refine zbq fun K hK => zx fun τ => ?_
 simp +decide only [bK, bE, Nat.reduceAdd]
 obtain ⟨w1, hw1⟩ : ∃ w1, w1 = w.alloc (.cells (Value.cells (.agg ct.toArray)) N.zc) := ⟨_, rfl⟩
 have m1 : Mod w w1 zq := by rw [hw1]; exact Mod.alloc _ _ _
 have r1 : w1.rangeAt w.heap.size 0 ct := by rw [hw1]; exact zr w _ _ _
 have s1 : w1.heap.size = w.heap.size + 1 := by rw [hw1]; exact zak _ _
 rw [← hw1]
 clear hw1
 refine hK _ _ (zd fun σ1 hσ => ?_)
 have a0 := hσ 0
 have a2 := hσ 2
 simp +decide only [bE, Nat.reduceBeqDiff, BEq.rfl, Nat.reduceAdd, Nat.zero_add, zmb] at a0 a2
 clear hσ hK K
 obtain ⟨bT, hbT⟩ : ∃ b, b = w.heap.size := ⟨_, rfl⟩
 rw [← hbT] at a2 r1
 have ht1 := RepA.stay m1 _ ht
 refine zbq fun K hK => ze fun K1 hK1 => zx fun τ => ?_
 simp +decide only [bK, bE, Nat.reduceAdd, a2, zcp S.tr r1 ht.len]
 rw [zam hZ.zzFits1.has]
 simp +decide only [bK, bE, BEq.rfl]
 refine (sp_fits1 B S hZ ht1 (fits_of hsz)).mono ?_
 rintro _ w2 ⟨rfl, m2⟩
 simp +decide only [bK]
 refine hK1 _ _ (zd fun σ2 hσ => ?_)
 have b0 := hσ 0
 have b2 := hσ 2
 have b4 := hσ 4
 simp +decide only [bE, Nat.reduceBeqDiff, BEq.rfl, Nat.reduceAdd, Nat.zero_add, a0, a2] at b0 b2 b4
 clear hσ hK1 K1 a0 a2
 refine W_if hlo b4 ?_
 simp only [Bool.not_true, Bool.false_eq_true, if_false]
 refine zaz (hK _ _ ?_)
 clear hK K b4
 have m02 := m1.trans' m2
 obtain ⟨v, hv⟩ : ∃ v : Nat, n.tmod (k + 1) = (v : Int) ∧ v ≤ k := by
  have h1 := Int.tmod_nonneg (k + 1 : Int) hn.1
  have h2 := Int.tmod_lt_of_pos n (show (0 : Int) < k + 1 by omega)
  exact ⟨(n.tmod (k + 1)).toNat, by omega, by omega⟩
 obtain ⟨fsM, htM, _⟩ := S.msg.out
 refine zbq fun K hK => zx fun τ => ?_
 simp +decide only [bK, bE, Nat.reduceBeqDiff, BEq.rfl, Nat.reduceAdd, Nat.zero_add]
 rw [zpj L.mf.has]
 refine (mk_msg S L.scb L.sco L.mf w2).mono ?_
 rintro _ w4 ⟨fv, rfl, hfv, m4⟩
 have hcv := zbt (P := P) (w := w4) (k' := .u8) B.uint8 B.int (n := n) ⟨_, rfl⟩
 rw [zhe (by omega) (by omega)] at hcv
 obtain ⟨w5, w6, hal, hst, _, m46, s6, r6, _⟩ := zkd (cs := [fv, .int .i64 fl]) htM (by decide) rfl rfl (by
  intro c hc; simp at hc; rcases hc with rfl | rfl
  ·exact hfv.one
  ·rfl) w4
 have hk1 : ((k : Int) + 1) ≠ 0 := by omega
 simp +decide only [bK, bE, Nat.reduceBeqDiff, BEq.rfl, b0, hcv, run_rem hk1, hv.1, hal, hst]
 refine hK _ _ (zd fun σ5 hσ => ?_)
 have e2 := hσ 2
 have e5 := hσ 5
 have e6 := hσ 6
 simp +decide only [bE, Nat.reduceBeqDiff, BEq.rfl, Nat.reduceAdd, b2] at e2 e5 e6
 clear hσ hK K b0 b2 hal hst
 obtain ⟨bM, hbM⟩ : ∃ b, b = w4.heap.size := ⟨_, rfl⟩
 rw [← hbM] at e5 r6
 have m06 := (m02.trans' m4).trans' m46
 have m16 := (m2.trans' m4).trans' m46
 have hf6 := hfv.stay m46
 have ht6 := RepA.stay m06 _ ht
 have rT6 := zj m16 r1
 have hbl : (zdm (zih fl v) v (SC.flds sc) t).length ≤ K0 * szT t := partB_len L.okf (by rw [SC.flds_len]; exact (zrj L.scb).2.2.2) hwf
 have hK0 : K0 * szT t ≤ 40000 * 1048576 := Nat.mul_le_mul (Nat.le_refl _) hsz
 have hbl2 : (zdm (zih fl v) v (SC.flds sc) t).length < 549755813888 := by omega
 obtain ⟨x, hx, p3⟩ := rd_kept (by have := L.kk; omega) L.ver hv.2 hwf
 have p3 : zpg (zih fl v) v (SC.flds sc) t (.mk v [] false (m.fs.trs x) (m.fs.tgs x)) := toldP_n p3
 have hld := htM.run_load (w := w6) (b := bM) (o := 0) r6 rfl (fun h => by cases h)
 have hlv : ∀ (f : Array Field) (x : List Value), ldv (.struct f) x = .agg x.toArray := fun _ _ => rfl
 rw [hlv] at hld
 have hgl : N.zah < w.heap.size := zay (by rw [he]; rfl)
 refine zbq fun K hK => zx fun τ => ?_
 simp +decide only [bK, bE, Nat.reduceBeqDiff, BEq.rfl, Nat.reduceAdd, e2, e5, e6, hld, zcp S.tr rT6 ht.len]
 rw [zin L.kf.has]
 simp +decide only [bK, bE, Nat.reduceBeqDiff, BEq.rfl]
 refine (sp_Kept B S hW L.kf (by rw [SC.flds_len]; exact (zrj L.scb).2.2.2) L.okf hf6 ht6 hwf hbl2).mono ?_
 rintro r w7 ⟨ho7, m7⟩
 have m07 := m06.trans' m7
 rw [zam L.ti.has]
 simp +decide only [bK, bE, BEq.rfl]
 refine (call_doorV B F hI L.D L.ti L.rf (te := te) (ve := ve) ho7.octA.argOct (by rw [List.length_append, zdh]; omega) (by rw [m07.cell _ _ hgl fun h => h]; exact he)).mono ?_
 rw [hx]
 rintro _ w8 ⟨cy, rfl, hrep, m8⟩
 obtain ⟨w9, hal, m9, s9, hres⟩ := zhm hI w8
 simp +decide only [bK, hal]
 obtain ⟨w10, hst, m10, s10, r10, t10⟩ := zif hI hres.r rfl hres.t hrep.len hrep.one
 simp +decide only [bK, hst]
 refine hK _ _ (zd fun σ6 hσ => ?_)
 have f2 := hσ 2
 have f5 := hσ 5
 have f6 := hσ 6
 have f7 := hσ 7
 have f8 := hσ 8
 simp +decide only [bE, Nat.reduceBeqDiff, BEq.rfl, Nat.reduceAdd, e2, e5, e6] at f2 f5 f6 f7 f8
 clear hσ hK K
 have m810 : Mod w8 w10 zq := m9.fresh m10 fun k o h => by have : k = w8.heap.size := h; omega
 have m610 := (m7.trans' m8).trans' m810
 have hput : Put w10 w8.heap.size (.mk v [] false (m.fs.trs x) (m.fs.tgs x)) := ⟨cy, RepT.mod (G := NB w7.heap.size w8.heap.size) m810 (fun k hk => ⟨hk.2, fun _ h => h, hk.2⟩) _ hrep, r10, by omega⟩
 have hsh := (zyq L.D (fixB v 2 ++ zdm (zih fl v) v (SC.flds sc) t)).1
 rw [hx] at hsh
 have htold : ToldOk P M (zih fl v) v (SC.flds sc) := sp_Told B F hN S hW hT (by rw [SC.flds_len]; exact Nat.lt_trans (zrj L.scb).2.2.2 (by decide)) (zyl B F hN S hW hT _ L.okf L.okl)
 refine zbq fun K hK => W_tellV B F hI S hT hG f2 f5 f6 f7 f8 (zj m610 rT6) (RepA.stay m610 _ ht6) (zj m610 r6) (hf6.stay m610) hput hsh htold p3 fun σ7 w11 h3 m11 => hK _ _ ?_
 exact zbq fun K2 hK2 => zbm ⟨.inr rfl, _, rfl, h3, (m06.trans' m610).trans' m11⟩
end
end Go.Kf
