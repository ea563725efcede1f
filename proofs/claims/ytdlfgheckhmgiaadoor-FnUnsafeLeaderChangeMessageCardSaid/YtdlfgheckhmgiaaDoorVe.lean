/- A part of the calculus by which the claim's proof goes: over any program and any numbering of its functions; no condition beyond those that each theorem names. -/
import Derived.ProofKit
import Derived.OpenShut
import Derived.ChangeSlices
import Derived.WideShapes
import Derived.Carry
import Derived.Laws.IdiomCopy
import Derived.Test.YtdlfgheckhmgiaaDoorVd
set_option linter.unusedSimpArgs false
set_option linter.unusedVariables false
namespace Go.Kf
open Go Go.RowKit
section
variable {P : Program} {N : Nums} {tf : TypeId → FuncId × FuncId}
mutual
theorem Ty.rep_len {w : World} {G : Nat → Prop} : ∀ (t : Ty) (v : Val) {cs : List Value}, t.okV v → Rep w G v cs → cs.length = t.sz
 | .pr k d, .num v, cs, hv, hr => by
  simp only [Rep] at hr
  subst hr
  cases k with
  | bool => obtain ⟨x, rfl⟩ := hv; rfl
  | uuid => obtain ⟨x, rfl, hx⟩ := hv; simpa [Value.cells, Ty.sz, PK.sz] using hx
  | _ => obtain ⟨x, rfl, _⟩ := hv; rfl
 | .txt k, v, cs, hv, hr => by
  cases k <;> cases v <;> simp only [Ty.okV, Txt.okV] at hv
  ·obtain ⟨x, rfl, _⟩ := hv; simp only [Rep] at hr; subst hr; rfl
  ·rename_i o
   cases o with
   | none => simp only [Rep] at hr; subst hr; rfl
   | some s => simp only [Rep] at hr; obtain ⟨b, rfl, _⟩ := hr; rfl
  ·simp only [Rep] at hr; obtain ⟨u, rfl, _⟩ := hr; rfl
  ·simp only [Rep] at hr; obtain ⟨u, rfl, _⟩ := hr; rfl
 | .arr st nul e, v, cs, hv, hr => by
  cases v <;> simp only [Ty.okV] at hv
  ·simp only [Rep] at hr; subst hr; rfl
  ·simp only [Rep] at hr; obtain ⟨b, c, css, rfl, _⟩ := hr; rfl
 | .tv k, v, cs, hv, hr => by
  cases v <;> simp only [Ty.okV, Txt.okV] at hv
  rename_i o
  cases o with
  | none => simp only [Rep] at hr; subst hr; rfl
  | some s => simp only [Rep] at hr; obtain ⟨b, rfl, _⟩ := hr; rfl
 | .row T pT d fs, v, cs, hv, hr => by
  cases v <;> simp only [Ty.okV] at hv
  simp only [Rep] at hr
  obtain ⟨css, rfl, hrl⟩ := hr
  simp only [Ty.sz]
  exact Fds.rep_len fs _ hv hrl
 | .pr _ _, .nstr _, _, hv, _ => by simp only [Ty.okV] at hv
 | .pr _ _, .oct _, _, hv, _ => by simp only [Ty.okV] at hv
 | .pr _ _, .nilA, _, hv, _ => by simp only [Ty.okV] at hv
 | .pr _ _, .arr _ _, _, hv, _ => by simp only [Ty.okV] at hv
 | .pr _ _, .row _, _, hv, _ => by simp only [Ty.okV] at hv
 | .pr _ _, .nilP, _, hv, _ => by simp only [Ty.okV] at hv
 | .pr _ _, .ptr _, _, hv, _ => by simp only [Ty.okV] at hv
 | .pr _ _, .tags _, _, hv, _ => by simp only [Ty.okV] at hv
theorem Fds.rep_len {w : World} {G : Nat → Prop} : ∀ (fs : Fds) (l : List Val) {css : List (List Value)}, fs.okV l → RepL w G l css → css.flatten.length = fs.sz
 | .nil, l, css, hv, hr => by
  simp only [Fds.okV] at hv
  subst hv
  simp only [RepL] at hr
  subst hr; rfl
 | .tags, l, css, hv, hr => by
  match l, hv with
  | [.tags u], _ =>
   obtain ⟨c, r, rfl, h1, h2⟩ := hr
   simp only [RepL] at h2
   subst h2
   simp only [Rep] at h1
   obtain ⟨v, rfl, _⟩ := h1
   rfl
 | .cons g t r, [], css, hv, hr => by simp only [Fds.okV] at hv
 | .cons g t r, v :: l, css, hv, hr => by
  obtain ⟨c, rest, rfl, h1, h2⟩ := hr
  rw [List.flatten_cons, List.length_append, Ty.rep_len t v hv.1 h1, Fds.rep_len r l hv.2 h2]
  rfl
end
theorem WL_fds (B : Base P N) (F : Fns P N) (hI : zeu P N) {loc : List Nat} {N' : Nat} (hlo : zfo loc N') {Q : Exit → Env → World → Prop} {w0 : World} {b oo Tt bT bL bR n : Nat} {G : Nat → Prop} {tl : List C}
  (hG : ∀ k, G k → k < w0.heap.size) (hb : b < w0.heap.size) : ∀ (fs : Fds) (l : List Val) (css : List (List Value)) (idx off i q k : Nat) (trs : List Tr) (σ : Env) (w : World), fs.okV l → RepL w0 G l css → w0.rangeAt b (oo + off) css.flatten → fs.tok P N tf → fs.hf P Tt idx off →
   TF w0 (.pointer (some ⟨b, oo, none⟩)) bT bL bR n i trs σ w → i + fs.count = n →
   (∀ σ' w', TF w0 (.pointer (some ⟨b, oo, none⟩)) bT bL bR n n (trs ++ fs.trs l) σ' w' → WL P loc N' tl Q σ' w') → WL P loc N' (fs.tgen N tf Tt idx i q k ++ tl) Q σ w
 | .nil, l, css, idx, off, i, q, k, trs, σ, w, hv, hr, hrg, ht, hh, h, hn, hQ => by
  simp only [Fds.count, Nat.add_zero] at hn
  subst hn
  exact hQ σ w (by simpa [Fds.trs] using h)
 | .tags, l, css, idx, off, i, q, k, trs, σ, w, hv, hr, hrg, ht, hh, h, hn, hQ => by
  simp only [Fds.count, Nat.add_zero] at hn
  subst hn
  exact hQ σ w (by simpa [Fds.trs] using h)
 | .cons g t r, [], css, idx, off, i, q, k, trs, σ, w, hv, hr, hrg, ht, hh, h, hn, hQ => by simp only [Fds.okV] at hv
 | .cons g t r, v :: l, css, idx, off, i, q, k, trs, σ, w, hv, hr, hrg, ht, hh, h, hn, hQ => by
  obtain ⟨c, rest, rfl, h1, h2⟩ := hr
  have hcl := Ty.rep_len t v hv.1 h1
  rw [List.flatten_cons, zq, hcl, Nat.add_assoc] at hrg
  simp only [Fds.count] at hn
  simp only [Fds.tgen, List.append_assoc]
  refine WL_ty B F hI hlo hG t v hv.1 h1 hb hrg.1 ht.1 h (by omega) hh.1 fun σ' w' h' => ?_
  refine WL_fds B F hI hlo hG hb r l rest (idx + 1) (off + t.sz) (i + 1) (q + t.tq) (k + t.tk) _ σ' w' hv.2 h2 hrg.2 ht.2 hh.2 h' (by omega) fun σ6 w6 h6 => hQ σ6 w6 ?_
  simpa [Fds.trs] using h6
theorem made_zs (n : Nat) : (madeCells (Value.cells (.agg zT.toArray)) (n * 5)).toList = zs zT n := by
 have := zkz (Value.cells (.agg zT.toArray)) n
 exact this
theorem tags_at : ∀ (fs : Fds) (l : List Val) (css : List (List Value)) {w : World} {G : Nat → Prop} {b o idx off ix : Nat} {Tt : TypeId}, fs.okV l → RepL w G l css → w.rangeAt b (o + off) css.flatten → fs.hf P Tt idx off → fs.tagIx idx = some ix →
  ∃ off' v u, HF P Tt ix off' ∧ w.cell? ⟨b, o + off', none⟩ = some v ∧ zsf w G v u ∧ fs.tgs l = zdr u ∧ u.length < big ∧ ∀ x ∈ u, x.2.length < big
 | .nil, l, css, w, G, b, o, idx, off, ix, Tt, hv, hr, hrg, hh, hx => by simp [Fds.tagIx] at hx
 | .tags, l, css, w, G, b, o, idx, off, ix, Tt, hv, hr, hrg, hh, hx => by
  match l, hv with
  | [.tags u], hv =>
   simp only [Fds.tagIx, Option.some.injEq] at hx
   subst hx
   obtain ⟨c, r, rfl, h1, h2⟩ := hr
   simp only [Rep] at h1
   obtain ⟨v, rfl, ht⟩ := h1
   exact ⟨off, v, u, hh, hrg 0 v rfl, ht, rfl, hv.1, hv.2⟩
 | .cons g t r, [], css, w, G, b, o, idx, off, ix, Tt, hv, hr, hrg, hh, hx => by simp only [Fds.okV] at hv
 | .cons g t r, v :: l, css, w, G, b, o, idx, off, ix, Tt, hv, hr, hrg, hh, hx => by
  obtain ⟨c, rest, rfl, h1, h2⟩ := hr
  rw [List.flatten_cons, zq, Ty.rep_len t v hv.1 h1, Nat.add_assoc] at hrg
  exact tags_at r l rest hv.2 h2 hrg.2 hh.2 hx
theorem no_tags : ∀ (fs : Fds) (l : List Val) {idx : Nat}, fs.okV l → fs.tagIx idx = none → fs.tgs l = []
 | .nil, l, idx, hv, _ => by simp only [Fds.okV] at hv; subst hv; rfl
 | .tags, l, idx, hv, h => by simp [Fds.tagIx] at h
 | .cons g t r, [], idx, hv, h => by simp only [Fds.okV] at hv
 | .cons g t r, v :: l, idx, hv, h => by simp only [Fds.tgs]; exact no_tags r l hv.2 h
structure TellN (P : Program) (N : Nums) : Prop where
 each : N.zge ≠ 0
 tags : N.zdi ≠ 0
 sorted : N.zml ≠ 0
 lu : LU P N
 so : SortOk P N
theorem RepU.of_own {w : World} {lo : Nat} {G : Nat → Prop} {v : Value} {u : List (Nat × List UInt8)} {cs : List Value} (ho : Own w lo 2 v u.length cs) (hu : UsG w (GX (fun _ => False) lo w v) u cs) (hG : ∀ k, lo ≤ k → k < w.heap.size → G k) : RepU w G v u := by
 rcases ho with ⟨e1, e2, _⟩ | ⟨b, c, e1, h1, h2, h3, _, h5, _⟩
 ·exact .inl ⟨e1, List.length_eq_zero_iff.1 e2⟩
 ·exact .inr ⟨b, c, cs, e1, h3, fun _ => hG b h1 h2, hu.mono fun k hk => hk.elim False.elim fun hk => hG k hk.1 hk.2.1, h5⟩
theorem tellP (B : Base P N) (F : Fns P N) (hI : zeu P N) (hN : TellN P N) {f f1 Tt idx0 off0 : Nat} {fs : Fds} (hF : FOk P f 1 (tellC N tf Tt idx0 f1 fs) [.cell 1 N.zy]) (hF1 : fs.tagIx idx0 ≠ none → FOk P f1 3 (cTagFn N) []) (ht : fs.tok P N tf) (hh : fs.hf P Tt idx0 off0) (hc : fs.count < 1048576) : TellP P f off0 fs := by
 refine ⟨hF.has, fun w0 G b o l css hG hb hv hrep hrg => ?_⟩
 obtain ⟨fsT, hI1⟩ := hI.ti
 refine hF.call rfl fun loc N' hlo => ?_
 unfold tellC
 rw [List.append_assoc, List.append_assoc]
 refine zky (by simp) ?_
 simp only [List.cons_append, List.nil_append]
 obtain ⟨σ, hσ⟩ : ∃ σ, σ = zda #[.pointer (some ⟨b, o, none⟩)] := ⟨_, rfl⟩
 have f0 : σ 0 = .pointer (some ⟨b, o, none⟩) := by rw [hσ]; rfl
 rw [← hσ]
 clear hσ
 obtain ⟨w1, hal, m1, s1, hres⟩ := zgg hI w0
 refine zbi fun K hK => zaa fun τ => ?_
 simp +decide only [bK, hal]
 refine hK _ _ (zf fun σ1 hσ => ?_)
 have g0 := hσ 0
 have g1 := hσ 1
 simp +decide only [bE, Nat.reduceBeqDiff, BEq.rfl, Nat.reduceAdd, Nat.zero_add, f0] at g0 g1
 clear hσ hK K hal
 obtain ⟨iT, hi, hsz, hby, hz⟩ := hI1.info
 have hmk : (Instr.makeSlice N.zr (.int .i64 fs.count) (.int .i64 fs.count)).run P w1 = .ok (.slice (some ⟨w1.heap.size, 0, none⟩) fs.count fs.count) (w1.alloc (.cells (madeCells (Value.cells (.agg zT.toArray)) (fs.count * 5)) N.zy)) := by
  have hr := run_make (P := P) w1 N.zr N.zy iT _ hI.lt.und hi hz .i64 .i64 (fs.count : Int) (fs.count : Int) (by omega) (Int.le_refl _) (by rw [hby]; omega) (by omega)
  rw [hsz] at hr
  simpa using hr
 obtain ⟨w2, hw2⟩ : ∃ w2, w2 = w1.alloc (.cells (madeCells (Value.cells (.agg zT.toArray)) (fs.count * 5)) N.zy) := ⟨_, rfl⟩
 have m2 : Mod w1 w2 zp := by rw [hw2]; exact Mod.alloc _ _ _
 have s2 : w2.heap.size = w1.heap.size + 1 := by rw [hw2]; exact zan _ _
 have r2 : w2.rangeAt w1.heap.size 0 (zs zT fs.count) := by
  have := zw w1 (madeCells (Value.cells (.agg zT.toArray)) (fs.count * 5)) N.zy (0, 0)
  rw [made_zs] at this
  rw [hw2]; exact this
 have t2 : w2.there w1.heap.size 0 (fs.count * 5) := by
  have := zbj w1 (madeCells (Value.cells (.agg zT.toArray)) (fs.count * 5)) N.zy
  rw [size_madeCells] at this
  rw [hw2]; exact this
 obtain ⟨w3, hst, m3, s3, r3, t3⟩ := zmi (z := zT) hI1 w2 [.int .i64 0, .slice none 0 0, .bool false, .slice (some ⟨w1.heap.size, 0, none⟩) fs.count fs.count, .slice none 0 0] rfl (fun c hc => by
  simp at hc; rcases hc with rfl | rfl | rfl | rfl | rfl <;> rfl)
 have e3 : ∀ ρ : Env, (#[(3, T 0)] : Array (Nat × Operand)).map (fun p => (p.1, ev ρ p.2)) = #[(3, ρ 0)] := fun ρ => by simp
 have hbl := buildL hI w2 (v := .slice (some ⟨w1.heap.size, 0, none⟩) fs.count fs.count) rfl
 refine zbi fun K hK => zaa fun τ => ?_
 simp +decide only [bK, bE, Nat.reduceBeqDiff, BEq.rfl, Nat.reduceAdd, zjn, hmk, ← hw2, e3, hbl, hI1.run_alloc, hst]
 refine hK _ _ (zf fun σ3 hσ => ?_)
 have p0 := hσ 0
 have p1 := hσ 1
 have p2 := hσ 2
 simp +decide only [bE, Nat.reduceBeqDiff, BEq.rfl, Nat.reduceAdd, Nat.zero_add, g0, g1] at p0 p1 p2
 clear hσ hK K hmk hst hbl hw2
 have m13 : Mod w1 w3 zp := m2.trans' m3
 have hTF : TF w0 (.pointer (some ⟨b, o, none⟩)) w2.heap.size w1.heap.size w0.heap.size fs.count 0 [] σ3 w3 :=
  ⟨p0, p1, p2, m1.trans' m13, r3, t3, m3.there (by omega) t2, ⟨zv m13 hres.r, m13.there (by omega) hres.t⟩, rfl, Nat.zero_le _, ⟨[], by simpa using zv m3 r2, by simp only [zcm]⟩, ⟨by omega, by omega⟩, ⟨by omega, by omega⟩, ⟨by omega, by omega⟩, by omega, by omega, by omega⟩
 clear p0 p1 p2 r3 t3 r2 t2 hres
 refine WL_fds B F hI hlo hG hb fs l css idx0 off0 0 0 0 [] σ3 w3 hv hrep hrg ht hh hTF (by omega) fun σ4 w4 h4 => ?_
 rw [List.nil_append] at h4
 obtain ⟨bT, hbT⟩ : ∃ x, x = w2.heap.size := ⟨_, rfl⟩
 obtain ⟨bL, hbL⟩ : ∃ x, x = w1.heap.size := ⟨_, rfl⟩
 obtain ⟨bR, hbR⟩ : ∃ x, x = w0.heap.size := ⟨_, rfl⟩
 rw [← hbT, ← hbL, ← hbR] at h4
 have fin : ∀ {σ5 : Env} {w5 : World} {vu : Value}, σ5 1 = .pointer (some ⟨bR, 0, none⟩) → σ5 2 = .pointer (some ⟨bT, 0, none⟩) → Mod w4 w5 (fun k o => k = bT ∧ o = 4) → w5.cell? ⟨bT, 4, none⟩ = some vu → vu.oneCell' = true →
   RepU w5 (fun k => NB w0.heap.size w5.heap.size k ∧ k ≠ bR) vu (fs.tgs l) → WL P loc N' [.ops [⟨some 0, .load N.zy (V 2), 0, none, []⟩, ⟨none, .store N.zy (V 1) (T 0), 0, none, []⟩], .ret] (retQ P [.cell 1 N.zy] (Told w0 (fs.tr l))) σ5 w5 := by
  intro σ5 w5 vu k1 k2 m5 c5 ho5 hu5
  obtain ⟨_, _, _, mod, tc, tt, tl, res, len, le, ⟨cs4, hr4, hrep4⟩, l1, l2, l3, l4, l5, l6⟩ := h4
  have s5 := m5.size
  have m05 : Mod w0 w5 zp := mod.fresh m5 fun k o e => by omega
  have q := (zq (cs := [.int .i64 0, .slice none 0 0, .bool false, .slice (some ⟨bL, 0, none⟩) fs.count fs.count]) (ds := [.slice none 0 0])).1 tc
  have r5 : w5.rangeAt bT 0 [.int .i64 0, .slice none 0 0, .bool false, .slice (some ⟨bL, 0, none⟩) fs.count fs.count, vu] :=
   (zq (cs := [.int .i64 0, .slice none 0 0, .bool false, .slice (some ⟨bL, 0, none⟩) fs.count fs.count]) (ds := [vu])).2 ⟨m5.rangeAt (by omega) (fun j h1 h2 e => by simp at h2; omega) q.1, zfw.2 c5⟩
  have hld := hI1.run_load (w := w5) (b := bT) (o := 0) r5 rfl (fun h => by cases h)
  have hlv : ∀ (f : Array Field) (x : List Value), ldv (.struct f) x = .agg x.toArray := fun _ _ => rfl
  have rR : w5.rangeAt bR 0 zT := m5.rangeAt (by omega) (fun _ _ _ e => by omega) res.r
  have tR : w5.there bR 0 5 := m5.there (by omega) res.t
  obtain ⟨w6, hst6, m6, s6, r6, t6⟩ := zhh hI (cs := [.int .i64 0, .slice none 0 0, .bool false, .slice (some ⟨bL, 0, none⟩) fs.count fs.count, vu]) rR rfl tR rfl (fun c hc => by
   simp at hc; rcases hc with rfl | rfl | rfl | rfl | rfl
   ·rfl
   ·rfl
   ·rfl
   ·rfl
   ·exact ho5)
  refine zbi fun K hK => zaa fun τ => ?_
  simp +decide only [bK, bE, Nat.reduceBeqDiff, BEq.rfl, Nat.reduceAdd, k1, k2, hld, hlv, hst6]
  refine hK _ _ (zf fun σ6 hσ => zbi fun K2 hK2 => zbx ?_)
  have u1 := hσ 1
  simp +decide only [bE, Nat.reduceBeqDiff, Nat.reduceAdd, k1] at u1
  refine W_hand hI (loc := loc) (N' := N') (by omega) m05 (t := fs.tr l) ?_ m6 s6 r6 u1 (by omega)
  simp only [Fds.tr, RepT]
  refine ⟨_, _, _, rfl, zhz, .inr ⟨bL, fs.count, cs4, by rw [len], by rw [len]; exact Nat.le_refl _, fun _ => ⟨⟨by omega, by omega⟩, by omega⟩, ?_, ?_⟩, hu5⟩
  ·exact zcm.mod m5 (fun k hk => ⟨hk.1.2, fun o e => hk.2.1 e.1, ⟨hk.1.1, by have := hk.1.2; omega⟩, hk.2.2.2⟩) _ hrep4
  ·have := (zq.1 hr4).1
   exact m5.rangeAt (by omega) (fun _ _ _ e => by omega) this
 have l1 := h4.lt
 have c4 : w4.cell? ⟨bT, 4, none⟩ = some (.slice none 0 0) := h4.tc 4 _ rfl
 cases hix : fs.tagIx idx0 with
 | none =>
  exact fin h4.f1 h4.f2 (.refl _ _) c4 rfl (by rw [no_tags fs l hv hix]; exact .inl ⟨rfl, rfl⟩)
 | some ix =>
  obtain ⟨off', v, u, hTix, hcv, htg, hgs, hul, hux⟩ := tags_at fs l css hv hrep hrg hh hix
  rw [hgs] at fin
  simp only [List.cons_append, List.nil_append]
  have hFt := hF1 (by rw [hix]; simp)
  have m04 := h4.mod
  have s04 := m04.size
  have hc4 : w4.cell? ⟨b, o + off', none⟩ = some v := by rw [m04.cell _ _ hb (fun h => h)]; exact hcv
  have htg4 : zsf w4 G v u := htg.mod m04 fun k hk => ⟨hG k hk, fun _ h => h, hk⟩
  have hSl : (zdr u).length = u.length := (zef u).length_eq
  have hEach := call_Each B F hN.each hN.tags hN.lu hN.so (f := f1) (cap := .pointer (some ⟨bT, 0, none⟩)) hc4 (fun k hk => by have := hG k hk; omega) htg4 hFt.has hul (UI bT) (fun k o => k = bT ∧ o = 4) (fun k o h => by omega) (fun h => by omega) (fun k hk o h => by have := hG k hk; omega)
   (fun w' m => ⟨.slice none 0 0, [], by rw [m.cell _ _ (by omega) (fun h => h)]; exact c4, fun j hj => by
    have := (m.there (by omega) h4.tt : w'.there bT 0 5) (4 + j) (by omega)
    rwa [show 0 + (4 + j) = 4 + j by omega] at this, .inl ⟨rfl, rfl, rfl⟩, by simp only [UsG]⟩)
   (fun lo hlo2 => tag_cb B hI hFt (by omega) (by rw [hSl]; exact hul) fun x hx => hux x ((zef u).mem_iff.1 hx))
  have k0 := h4.f0
  have k1 := h4.f1
  have k2 := h4.f2
  refine zbi fun K hK => zaa fun τ => ?_
  have e5 : ∀ ρ : Env, ρ 102 = .pointer (some ⟨bT, 0, none⟩) → (#[V 2] : Array Operand).map (ev ρ) = #[.pointer (some ⟨bT, 0, none⟩)] := fun ρ h => by simp [h]
  have e4 : ∀ ρ : Env, (#[] : Array Operand).map (ev ρ) = #[] := fun ρ => by simp
  simp +decide only [bK, bE, Nat.zero_add, k0]
  rw [zai rfl]
  simp +decide only [bK, bE, BEq.rfl, hTix.run, zoa, zsw]
  rw [zcs (F.PTags_Each hN.each).1.has]
  simp +decide only [bK, bE, Nat.reduceBeqDiff, BEq.rfl, e4]
  rw [e5 _ (by simp +decide only [bE, Nat.reduceBeqDiff, k2])]
  refine Call.mono (Rt' := _) hEach ?_
  rintro _ w5 ⟨lo, hlo1, hlo2, ⟨vu, cs5, c5, t5, ho5, hus5⟩, m5⟩
  refine zf (K := fun σ' w' => zdy K _ .normal σ' w') fun σ5 hσ => hK _ _ ?_
  have u0 := hσ 0
  have u1 := hσ 1
  have u2 := hσ 2
  simp +decide only [bE, Nat.reduceBeqDiff, Nat.reduceAdd, Nat.zero_add, k0, k1, k2] at u0 u1 u2
  clear hσ hK K hEach
  have hru : RepU w5 (fun k => NB w0.heap.size w5.heap.size k ∧ k ≠ bR) vu (zdr u) := RepU.of_own ho5 hus5 fun k h1 h2 => ⟨⟨by omega, h2⟩, by omega⟩
  have hknd : (u.map Prod.fst).Nodup := by
   rcases htg with ⟨_, h⟩ | ⟨_, _, _, _, _, _, _, _, _, h, _⟩
   ·rw [h]; simp
   ·exact h
  have hso := zxw B F hI hN.sorted hru (by rw [hSl]; have : u.length < 1099511627776 := hul; omega) (zxf hknd)
  refine zbi fun K hK => zaa fun τ => ?_
  simp +decide only [bK, bE, BEq.rfl, Nat.reduceAdd, Nat.zero_add, u2, hI.h4.run, hI.lg.run_load1 rfl, c5]
  rw [zal (F.sorted hN.sorted).has]
  simp +decide only [bK, bE, BEq.rfl]
  refine Call.mono (Rt' := _) hso ?_
  rintro _ w6 m6
  refine zf (K := fun σ' w' => zdy K _ .normal σ' w') fun σ6 hσ => hK _ _ ?_
  have y1 := hσ 1
  have y2 := hσ 2
  simp +decide only [bE, Nat.reduceBeqDiff, Nat.reduceAdd, u1, u2] at y1 y2
  have s6 := m6.size
  have s5 := m5.size
  exact fin y1 y2 (m5.trans' (m6.mono fun _ _ _ h => h.elim)) (by rw [m6.cell _ _ (by omega) (fun h => h)]; exact c5) ho5.one (hru.mod m6 fun k hk => ⟨hk.1.2, fun _ h => h, ⟨hk.1.1, by have := hk.1.2; omega⟩, hk.2⟩)
end
theorem wrap_again {k : IntKind} (hk : k = .i8 ∨ k = .i16 ∨ k = .i32 ∨ k = .i64) (x : Int) : IntKind.i64.wrap (k.wrap x) = k.wrap x := by
 refine wrap_i64 ?_ ?_ <;> rcases hk with rfl | rfl | rfl | rfl <;> simp [IntKind.wrap, IntKind.bits, IntKind.signed] <;> split <;> omega
mutual
def El.dOk' : El → Prop
 | .row _ _ _ fs => fs.dOk
 | _ => True
def Fds.dOk : Fds → Prop
 | .cons _ (.pr k d) r => k.okV (d.getD k.zero) ∧ r.dOk
 | .cons _ (.arr _ _ e) r => e.dOk' ∧ r.dOk
 | .cons _ (.row _ _ _ fs) r => fs.dOk ∧ r.dOk
 | .cons _ (.txt _) r => r.dOk
 | .cons _ (.tv _) r => r.dOk
 | _ => True
end
theorem zod (n : Int) (s : RS) : (zee n s).length ≤ n.toNat := by
 unfold zee
 split
 ·simp
 ·rw [List.length_take]; omega
theorem be2_lt : ∀ {l : List UInt8}, l.length ≤ 2 → be l < 65536
 | [], _ => by decide
 | [x], _ => by have := x.toNat_lt; simp [be]; omega
 | [x, y], _ => by have := x.toNat_lt; have := y.toNat_lt; simp [be]; omega
 | _ :: _ :: _ :: _, h => by simp at h
theorem pk_rdV (k : PK) (s : RS) : k.okV (k.rd s).1 := by
 have num : ∀ (ik : IntKind) (n : Nat), (ik = .i8 ∨ ik = .i16 ∨ ik = .i32 ∨ ik = .i64) → ∃ x, (zdz n (fun l => .int ik (ik.wrap (be l))) (.int ik 0) s).1 = .int ik x ∧ IntKind.i64.wrap x = x := by
  intro ik n h
  unfold zdz
  split
  ·exact ⟨0, rfl, by decide⟩
  ·exact ⟨_, rfl, wrap_again h _⟩
 cases k with
 | bool =>
  simp only [PK.rd, PK.okV, zdz]
  split
  ·exact ⟨_, rfl⟩
  ·exact ⟨_, rfl⟩
 | i8 => exact num .i8 1 (.inl rfl)
 | en t => exact num .i8 1 (.inl rfl)
 | i16 => exact num .i16 2 (.inr (.inl rfl))
 | u16 =>
  show ∃ n, (zdz 2 (fun l => Value.int .u16 (be l)) (.int .u16 0) s).1 = .int .u16 n ∧ IntKind.i64.wrap n = n
  unfold zdz
  split
  ·exact ⟨0, rfl, by decide⟩
  ·refine ⟨_, rfl, ?_⟩
   have := be2_lt (l := s.l.take 2) (by rw [List.length_take]; omega)
   exact wrap_i64 (by omega) (by omega)
 | i32 => exact num .i32 4 (.inr (.inr (.inl rfl)))
 | i64 => exact num .i64 8 (.inr (.inr (.inr rfl)))
 | uuid =>
  simp only [PK.rd, PK.okV, uuidV]
  refine ⟨_, rfl, ?_⟩
  rw [List.length_take, List.length_append, List.length_replicate]
  omega
theorem u_span (s : RS) (t : RS) : (zee ((uvN s).1 - 1 : Int) t).length < big := by
 have := zod ((uvN s).1 - 1 : Int) t
 have := zqp s
 unfold big; omega
theorem i16_span (s : RS) (t : RS) : (zee (i16N s).1 t).length < big := by
 have := zod (i16N s).1 t
 have := zgn s
 unfold big; omega
theorem i32_span (s : RS) (t : RS) : (zee (i32N s).1 t).length < big := by
 have := zod (i32N s).1 t
 have := zin s
 unfold big; omega
theorem zoe {n : Int} {t : RS} (h : (zee n t).length < big) : ((zof n t).getD []).length < big := by
 unfold zof
 split
 ·exact (by decide : ([] : List UInt8).length < big)
 ·exact h
theorem txt_rd (fl : Bool) (k : Txt) (s : RS) : k.okV (k.rd fl s).1 := by
 have hb : ([] : List UInt8).length < big := by decide
 cases k <;> cases fl <;> simp only [Txt.rd, Txt.okV, Bool.false_eq_true, if_false, if_true]
 ·exact ⟨_, rfl, i16_span s _⟩
 ·exact ⟨_, rfl, u_span s _⟩
 ·unfold zmo strR; split
  ·exact hb
  ·exact i16_span s _
 ·unfold zhv zix; split
  ·exact hb
  ·exact u_span s _
 ·unfold bytR; split
  ·exact hb
  ·exact zoe (i32_span s _)
 ·unfold zuo; split
  ·exact hb
  ·exact zoe (u_span s _)
 ·unfold zre; split
  ·exact hb
  ·exact zoe (i32_span s _)
 ·unfold zln; split
  ·exact hb
  ·exact zoe (u_span s _)
theorem txt_ini (k : Txt) : k.okV k.iniV := by
 cases k
 ·exact ⟨[], rfl, by decide⟩
 ·show ([] : List UInt8).length < big; decide
 ·show ([] : List UInt8).length < big; decide
 ·show ([] : List UInt8).length < big; decide
theorem rdN_ok {f : RS → Option (Val × RS)} {p : Val → Prop} (hf : ∀ s v s', f s = some (v, s') → p v) : ∀ (n : Nat) (s : RS) (l : List Val) (s' : RS), rdN f n s = some (l, s') → l.length = n ∧ ∀ v ∈ l, p v
 | 0, s, l, s', h => by simp [rdN] at h; obtain ⟨rfl, rfl⟩ := h; simp
 | n + 1, s, l, s', h => by
  simp only [rdN] at h
  split at h
  ·cases h
  ·rename_i v s1 h1
   split at h
   ·cases h
   ·rename_i l1 s2 h2
    simp only [Option.some.injEq, Prod.mk.injEq] at h
    obtain ⟨rfl, rfl⟩ := h
    obtain ⟨a, b⟩ := rdN_ok hf n s1 l1 s2 h2
    refine ⟨by simp [a], fun x hx => ?_⟩
    rcases List.mem_cons.1 hx with rfl | hx
    ·exact hf _ _ _ h1
    ·exact b x hx
theorem tput_len (l : List (Nat × List UInt8)) (k : Nat) (v : List UInt8) : (tput l k v).length ≤ l.length + 1 := by
 unfold tput
 split <;> simp
theorem tput_big {l : List (Nat × List UInt8)} {k : Nat} {v : List UInt8} (hl : ∀ x ∈ l, x.2.length < big) (hv : v.length < big) : ∀ x ∈ tput l k v, x.2.length < big := by
 intro x hx
 unfold tput at hx
 split at hx
 ·obtain ⟨y, hy, rfl⟩ := List.mem_map.1 hx
  split
  ·exact hv
  ·exact hl y hy
 ·rcases List.mem_append.1 hx with h | h
  ·exact hl x h
  ·simp at h; subst h; exact hv
theorem tagsN_ok : ∀ (n : Nat) (l : List (Nat × List UInt8)) (s : RS), (∀ x ∈ l, x.2.length < big) → (zsh n l s).1.length ≤ l.length + n ∧ ∀ x ∈ (zsh n l s).1, x.2.length < big
 | 0, l, s, h => ⟨Nat.le_refl _, h⟩
 | n + 1, l, s, h => by
  simp only [zsh]
  have hv : (zee ((uvN (uvN s).2).1 : Int) (uvN (uvN s).2).2).length < big := by
   have := zod ((uvN (uvN s).2).1 : Int) (uvN (uvN s).2).2
   have := zqp (uvN s).2
   unfold big; omega
  obtain ⟨a, b⟩ := tagsN_ok n (tput l (uvN s).1 (zee ((uvN (uvN s).2).1 : Int) (uvN (uvN s).2).2)) (zii ((uvN (uvN s).2).1 : Int) (uvN (uvN s).2).2) (tput_big h hv)
  have := tput_len l (uvN s).1 (zee ((uvN (uvN s).2).1 : Int) (uvN (uvN s).2).2)
  exact ⟨by omega, b⟩
theorem tagsR_ok (s : RS) : (zsg s).1.length < big ∧ ∀ x ∈ (zsg s).1, x.2.length < big := by
 obtain ⟨a, b⟩ := tagsN_ok (uvN s).1 [] (uvN s).2 (fun x hx => by simp at hx)
 have := zqp s
 simp only [List.length_nil, Nat.zero_add] at a
 exact ⟨by unfold zsg big; omega, b⟩
section
variable (ver : Int) (fl : Bool)
mutual
theorem Ty.rd_ok : ∀ (t : Ty) (g : Gd) (r : Fds), (Fds.cons g t r).dOk → ∀ (s : RS) (v : Val) (s' : RS), t.rd ver fl s = some (v, s') → t.okV v
 | .pr k d, _, _, _, s, v, s', h => by
  simp only [Ty.rd, Option.some.injEq, Prod.mk.injEq] at h
  obtain ⟨rfl, rfl⟩ := h
  exact pk_rdV k s
 | .txt k, _, _, _, s, v, s', h => by
  simp only [Ty.rd, Option.some.injEq] at h
  simp only [Ty.okV]
  rw [show v = (k.rd fl s).1 by rw [h]]
  exact txt_rd fl k s
 | .arr st nul e, _, _, hd, s, v, s', h => by
  simp only [Ty.rd] at h
  have hbnd := zta fl s
  simp only [lenX] at hbnd
  generalize (if fl = true then znq s else arrR s) = X at h hbnd
  split at h
  ·cases h
  ·split at h
   ·split at h
    ·cases h
    ·rename_i l s1 hr
     simp only [Option.some.injEq, Prod.mk.injEq] at h
     obtain ⟨rfl, rfl⟩ := h
     obtain ⟨a, b⟩ := rdN_ok (p := e.okV) (fun s v s' hh => El.rd_ok e hd.1 s v s' hh) _ _ _ _ hr
     refine ⟨rfl, ?_, b⟩
     unfold big; omega
   ·simp only [Option.some.injEq, Prod.mk.injEq] at h
    obtain ⟨rfl, rfl⟩ := h
    cases nul with
    | none => trivial
    | some n =>
     simp only
     split
     ·exact ⟨rfl, by decide, fun v hv => by simp at hv⟩
     ·trivial
 | .tv k, _, _, _, s, v, s', h => by
  simp only [Ty.rd, Option.some.injEq] at h
  simp only [Ty.okV]
  split at h
  ·have hs := txt_rd fl .str s
   simp only [Txt.rd] at hs
   simp only [Prod.mk.injEq] at h
   obtain ⟨rfl, _⟩ := h
   obtain ⟨l, hl, hb⟩ := hs
   have hl : strV (if fl = true then zix s else strR s).1 = strV l := hl
   have : (if fl = true then zix s else strR s).1 = l := by rw [← zmd (if fl = true then zix s else strR s).1, hl, zmd]
   show ((some (if fl = true then zix s else strR s).1).getD []).length < big
   rw [this]; exact hb
  ·rw [show v = (Txt.rd fl .nstr s).1 by rw [h]]
   exact txt_rd fl .nstr s
 | .row T pT d fs, _, _, hd, s, v, s', h => by
  simp only [Ty.rd] at h
  split at h
  ·cases h
  ·rename_i l s1 hr
   simp only [Option.some.injEq, Prod.mk.injEq] at h
   obtain ⟨rfl, rfl⟩ := h
   exact Fds.rd_ok fs hd.1 s l s1 hr
theorem El.rd_ok : ∀ (e : El), e.dOk' → ∀ (s : RS) (v : Val) (s' : RS), e.rd ver fl s = some (v, s') → e.okV v
 | .pr k, _, s, v, s', h => by
  simp only [El.rd, Option.some.injEq, Prod.mk.injEq] at h
  obtain ⟨rfl, rfl⟩ := h
  exact pk_rdV k s
 | .txt k, _, s, v, s', h => by
  simp only [El.rd, Option.some.injEq] at h
  simp only [El.okV]
  rw [show v = (k.rd fl s).1 by rw [h]]
  exact txt_rd fl k s
 | .row T pT d fs, hd, s, v, s', h => by
  simp only [El.rd] at h
  split at h
  ·cases h
  ·rename_i l s1 hr
   simp only [Option.some.injEq, Prod.mk.injEq] at h
   obtain ⟨rfl, rfl⟩ := h
   exact Fds.rd_ok fs hd s l s1 hr
theorem Fds.rd_ok : ∀ (fs : Fds), fs.dOk → ∀ (s : RS) (l : List Val) (s' : RS), fs.rd ver fl s = some (l, s') → fs.okV l
 | .nil, _, s, l, s', h => by
  simp only [Fds.rd, Option.some.injEq, Prod.mk.injEq] at h
  obtain ⟨rfl, rfl⟩ := h
  rfl
 | .tags, _, s, l, s', h => by
  simp only [Fds.rd] at h
  split at h
  ·simp only [Option.some.injEq, Prod.mk.injEq] at h
   obtain ⟨rfl, rfl⟩ := h
   exact tagsR_ok s
  ·simp only [Option.some.injEq, Prod.mk.injEq] at h
   obtain ⟨rfl, rfl⟩ := h
   exact ⟨by decide, fun x hx => by simp at hx⟩
 | .cons g t r, hd, s, l, s', h => by
  simp only [Fds.rd] at h
  split at h
  ·cases h
  ·rename_i v s1 h1
   split at h
   ·cases h
   ·rename_i l1 s2 h2
    simp only [Option.some.injEq, Prod.mk.injEq] at h
    obtain ⟨rfl, rfl⟩ := h
    have hr : r.dOk := by cases t <;> first | exact hd.2 | exact hd
    refine ⟨?_, Fds.rd_ok r hr s1 l1 s2 h2⟩
    split at h1
    ·exact Ty.rd_ok t g r hd s v s1 h1
    ·simp only [Option.some.injEq, Prod.mk.injEq] at h1
     obtain ⟨rfl, rfl⟩ := h1
     exact Ty.ini_ok t g r hd
theorem Ty.ini_ok : ∀ (t : Ty) (g : Gd) (r : Fds), (Fds.cons g t r).dOk → t.okV t.iniV
 | .pr k d, _, _, hd => hd.1
 | .txt k, _, _, _ => txt_ini k
 | .arr .., _, _, _ => trivial
 | .row T pT d fs, _, _, hd => Fds.ini_ok fs hd.1
 | .tv _, _, _, _ => txt_ini .nstr
theorem Fds.ini_ok : ∀ (fs : Fds), fs.dOk → fs.okV fs.iniV
 | .nil, _ => rfl
 | .tags, _ => ⟨by decide, fun x hx => by simp at hx⟩
 | .cons g t r, hd => by
  have hr : r.dOk := by cases t <;> first | exact hd.2 | exact hd
  exact ⟨Ty.ini_ok t g r hd, Fds.ini_ok r hr⟩
end
end
mutual
def Ty.shB : Ty → Bool
 | .arr _ _ e => e.shB
 | .row _ _ _ fs => Nat.blt fs.count 1048576 && fs.shB
 | _ => true
def El.shB : El → Bool
 | .row _ _ _ fs => Nat.blt fs.count 1048576 && fs.shB
 | _ => true
def Fds.shB : Fds → Bool
 | .cons _ t r => t.shB && r.shB
 | _ => true
end
theorem zdl (n : Int) (s : List UInt8) (nl : Bool) (h : s.length < 4611686018427387904) : okS (zdq n s nl) ∧ okT (zdq n s nl) :=
 ⟨⟨⟨by decide, by decide⟩, trivial⟩, ⟨⟨h, by decide, by decide, fun x hx => by simp at hx⟩, trivial⟩⟩
theorem ztt : ∀ (fs : Fds) (l : List Val), (fs.trs l).length ≤ fs.count
 | .nil, _ => Nat.zero_le _
 | .tags, _ => Nat.zero_le _
 | .cons _ _ r, [] => Nat.zero_le _
 | .cons _ _ r, v :: l => by simp only [Fds.trs, List.length_cons, Fds.count]; have := ztt r l; omega
theorem zqt : ∀ (fs : Fds) (l : List Val), fs.okV l → (fs.tgs l).length < big ∧ ∀ x ∈ fs.tgs l, x.2.length < big
 | .nil, _, _ => ⟨by simp [Fds.tgs, big], fun x hx => by simp [Fds.tgs] at hx⟩
 | .tags, l, hv => by
  match l, hv with
  | [.tags u], hv =>
   simp only [Fds.tgs]
   exact ⟨by rw [(zef u).length_eq]; exact hv.1, fun x hx => hv.2 x ((zef u).mem_iff.1 hx)⟩
 | .cons _ _ r, [], hv => by simp only [Fds.okV] at hv
 | .cons _ _ r, v :: l, hv => by simp only [Fds.tgs]; exact zqt r l hv.2
theorem zui {n : Int} {nl : Bool} {l : List Tr} {u : List (Nat × List UInt8)} (h1 : l.length < 1048576) (h2 : okSs l) (h3 : okTs l) (h4 : u.length < big) (h5 : ∀ x ∈ u, x.2.length < big) : okS (.mk n [] nl l u) ∧ okT (.mk n [] nl l u) := by
 have hb : big = 1099511627776 := rfl
 exact ⟨⟨⟨by omega, by omega⟩, h2⟩, ⟨⟨by decide, by omega, by omega, fun x hx => by have := h5 x hx; omega⟩, h3⟩⟩
mutual
theorem Ty.tr_short : ∀ (t : Ty) (v : Val), t.shB = true → t.okV v → okS (t.tr v) ∧ okT (t.tr v)
 | .pr k d, v, _, hv => by
  cases v <;> simp only [Ty.okV] at hv
  cases k with
  | uuid => obtain ⟨l, rfl, hl⟩ := hv; simp only [Ty.tr, PK.tr, znu]; exact zdl _ _ _ (by omega)
  | _ => exact zdl _ _ _ (by simp)
 | .txt k, v, _, hv => by
  have hb : big < 4611686018427387904 := by decide
  cases k <;> cases v <;> simp only [Ty.okV, Txt.okV] at hv
  ·obtain ⟨l, rfl, hl⟩ := hv; simp only [Ty.tr, zmd]; exact zdl _ _ _ (by omega)
  ·exact zdl _ _ _ (by omega)
  ·exact zdl _ _ _ (by omega)
  ·exact zdl _ _ _ (by omega)
 | .arr st nul e, v, hs, hv => by
  cases v <;> simp only [Ty.okV] at hv
  ·exact ⟨⟨⟨by decide, by decide⟩, trivial⟩, ⟨⟨by decide, by decide, by decide, fun x hx => by simp at hx⟩, trivial⟩⟩
  ·rename_i sz l
   obtain ⟨_, hl, hok⟩ := hv
   have hb : big = 1099511627776 := rfl
   have key : okSs (l.map e.tr) ∧ okTs (l.map e.tr) := by
    clear hl
    induction l with
    | nil => exact ⟨trivial, trivial⟩
    | cons v l ih =>
     obtain ⟨a, b⟩ := El.tr_short e v hs (hok v (by simp))
     obtain ⟨c, d⟩ := ih fun x hx => hok x (by simp [hx])
     exact ⟨⟨a, c⟩, ⟨b, d⟩⟩
   simp only [Ty.tr]
   exact ⟨⟨⟨by rw [List.length_map]; omega, by decide⟩, key.1⟩, ⟨⟨by decide, by rw [List.length_map]; omega, by decide, fun x hx => by simp at hx⟩, key.2⟩⟩
 | .tv k, v, _, hv => by
  have hb : big < 4611686018427387904 := by decide
  cases v <;> simp only [Ty.okV, Txt.okV] at hv
  exact zdl _ _ _ (by omega)
 | .row T pT d fs, v, hs, hv => by
  cases v <;> simp only [Ty.okV] at hv
  rename_i l
  simp only [Ty.shB, Bool.and_eq_true] at hs
  obtain ⟨a, b⟩ := Fds.tr_short fs l hs.2 hv
  have h1 := ztt fs l
  have h2 : fs.count < 1048576 := by simpa using hs.1
  exact zui (by omega) a b (zqt fs l hv).1 (zqt fs l hv).2
theorem El.tr_short : ∀ (e : El) (v : Val), e.shB = true → e.okV v → okS (e.tr v) ∧ okT (e.tr v)
 | .pr k, v, _, hv => by
  cases v <;> simp only [El.okV] at hv
  cases k with
  | uuid => obtain ⟨l, rfl, hl⟩ := hv; simp only [El.tr, PK.tr, znu]; exact zdl _ _ _ (by omega)
  | _ => exact zdl _ _ _ (by simp)
 | .txt k, v, _, hv => by
  have hb : big < 4611686018427387904 := by decide
  cases k <;> cases v <;> simp only [El.okV, Txt.okV] at hv
  ·obtain ⟨l, rfl, hl⟩ := hv; simp only [El.tr, zmd]; exact zdl _ _ _ (by omega)
  ·exact zdl _ _ _ (by omega)
  ·exact zdl _ _ _ (by omega)
  ·exact zdl _ _ _ (by omega)
 | .row T pT d fs, v, hs, hv => by
  cases v <;> simp only [El.okV] at hv
  rename_i l
  simp only [El.shB, Bool.and_eq_true] at hs
  obtain ⟨a, b⟩ := Fds.tr_short fs l hs.2 hv
  have h1 := ztt fs l
  have h2 : fs.count < 1048576 := by simpa using hs.1
  exact zui (by omega) a b (zqt fs l hv).1 (zqt fs l hv).2
theorem Fds.tr_short : ∀ (fs : Fds) (l : List Val), fs.shB = true → fs.okV l → okSs (fs.trs l) ∧ okTs (fs.trs l)
 | .nil, _, _, _ => ⟨trivial, trivial⟩
 | .tags, _, _, _ => ⟨trivial, trivial⟩
 | .cons _ t r, [], _, hv => by simp only [Fds.okV] at hv
 | .cons _ t r, v :: l, hs, hv => by
  simp only [Fds.shB, Bool.and_eq_true] at hs
  obtain ⟨a, b⟩ := Ty.tr_short t v hs.1 hv.1
  obtain ⟨c, d⟩ := Fds.tr_short r l hs.2 hv.2
  exact ⟨⟨a, c⟩, ⟨b, d⟩⟩
end
theorem tr_short {fs : Fds} {l : List Val} (hc : fs.count < 1048576) (hs : fs.shB = true) (hv : fs.okV l) : okS (fs.tr l) ∧ okT (fs.tr l) := by
 obtain ⟨a, b⟩ := Fds.tr_short fs l hs hv
 have := ztt fs l
 exact zui (by omega) a b (zqt fs l hv).1 (zqt fs l hv).2
structure zyf where
 newP : Nat := 0
 setV : Nat := 0
 maxV : Nat := 0
 readF : Nat := 0
 unsF : Nat := 0
 readf : Nat := 0
 tell : Nat := 0
 maxI : Nat := 0
 tellI : Nat := 0
 unsI : Nat := 0
section
variable (N : Nums)
def c_rf (pT readf : Nat) (u : Bool) : C := seqs [zht 2 .nilIface, .ops [⟨some 0, .move (V 0), 0, none, []⟩, ⟨some 1, .move (V 1), 0, none, []⟩, ⟨some 2, .call ⟨.value (.func readf), #[T 0, T 1, .const (.bool u)], #[pT, N.za, N.zah]⟩, N.zgi, none, []⟩, ⟨some 102, .assign (T 2), 0, none, []⟩], .ret]
end
section
variable {P : Program} {N : Nums}
def zkc (w : World) (v : Value) (l : List UInt8) : Prop :=
 (∃ ad c, v = .slice ad 0 c ∧ l = []) ∨ ∃ a c, v = .slice (some a) l.length c ∧ l.length ≤ c ∧ a.block < w.heap.size ∧ ∀ j x, l[j]? = some x → w.cell? (a.add j) = some (zbf x)
theorem zkc.stay {w w' : World} (m : Mod w w' zp) {v : Value} {l : List UInt8} (h : zkc w v l) (hs : ∀ a : Addr, a.block < w.heap.size → w'.cell? a = w.cell? a) : zkc w' v l := by
 rcases h with h | ⟨a, c, h1, h2, h3, h4⟩
 ·exact .inl h
 ·exact .inr ⟨a, c, h1, h2, Nat.lt_of_lt_of_le h3 m.size, fun j x hj => by rw [hs _ (by unfold Addr.add; split <;> exact h3)]; exact h4 j x hj⟩
theorem zxm (B : Base P N) {w : World} {v : Value} {l : List UInt8} {ty : TypeId} (h : zkc w v l) (hl : l.length < 1099511627776) :
  ∃ v' w', (Builtin.append_ #[N.za, N.za] ty #[.slice none 0 0, v]).run P w = .ok v' w' ∧ zbq w' w.heap.size w'.heap.size v' l.isEmpty l ∧ Mod w w' zp := by
 have empty : ∀ {ad : Option Addr} {c : Nat}, v = .slice ad 0 c → l = [] → ∃ v' w', (Builtin.append_ #[N.za, N.za] ty #[.slice none 0 0, v]).run P w = .ok v' w' ∧ zbq w' w.heap.size w'.heap.size v' l.isEmpty l ∧ Mod w w' zp := by
  intro ad c e1 e2
  subst e1 e2
  exact ⟨_, _, zng B.Lu8 B.uint8, .inl ⟨rfl, rfl, rfl⟩, .refl _ _⟩
 rcases h with ⟨ad, c, h1, h2⟩ | ⟨a, c, e, _, _, h3⟩
 ·exact empty h1 h2
 ·cases l with
  | nil => exact empty e rfl
  | cons x l =>
   obtain ⟨i, hi, hsz, hbytes, hzero⟩ := B.uint8.info
   have hsrc : Src P i.size N.za v (x :: l).length ((x :: l).map zbf) w := by
    rw [e]
    exact Src.ofSlice w B.Lu8.und a _ c _ (by rw [hsz]; simp) (fun j u hj => by
     rw [List.getElem?_map] at hj
     cases hx : (x :: l)[j]? with
     | none => rw [hx] at hj; simp at hj
     | some y => rw [hx] at hj; simp at hj; subst hj; exact h3 j y hx) (ztk _)
   have hfit : Builtin.nextslicecap (0 + (x :: l).length) 0 * i.bytes ≤ 281474976710656 := by
    have := nextslicecap_le (show 0 < 0 + (x :: l).length by simp)
    rw [hbytes]; omega
   have hrun := run_append_grow_src (P := P) w N.za N.za ty N.zx i _ B.Lu8.und hi hzero none 0 0 [] rfl v _ _ hsrc (by simp) (by omega) hfit
   refine ⟨_, _, hrun, .inr ⟨w.heap.size, 0, _, rfl, by rw [Nat.zero_add], by exact grownCap_ge w (x :: l).length 0 N.zx, fun _ => ⟨Nat.le_refl _, by rw [zan]; exact Nat.lt_succ_self _⟩, ?_⟩, (Mod.drew w _).trans' (Mod.alloc _ _ _)⟩
   have hr := zw w.drew (([] ++ (x :: l).map zbf).toArray ++ Builtin.zeroCells (Value.cells (.int .u8 0)) (grownCap w (0 + (x :: l).length) 0 N.zx - (0 + (x :: l).length))) N.zx (0, 0)
   exact (zq.1 (by simpa using hr)).1
end
def Doored (w : World) (t : Tr) (ok : Bool) (v : Value) (w' : World) : Prop := ∃ cs, v = .tuple #[.agg cs.toArray, .bool ok] ∧ RepT w' (NB w.heap.size w'.heap.size) t cs ∧ Mod w w' zp
section
variable {P : Program} {N : Nums}
theorem run_beql {t : TypeId} {sz by' : Nat} {z : Value} (h : TI P t .bool sz by' z) {x y : Operand} {a b : Bool} {w : World} :
  (do eqGuard .eql t x y (.bool a) (.bool b); binOp .eql t (.bool a) (.bool b) : Sem Value).run P w = .ok (.bool (a == b)) w := by
 have e : (Op.equal t (.bool a) (.bool b)).run P w = .ok (a == b) w := by
  unfold Op.equal Op.maxDepth
  rw [show (10000 : Nat) = 9999 + 1 from rfl]
  unfold Op.equalIn
  rw [Sem.run_bind, run_underlying h.und, Result.andThen_ok]
  rfl
 have e1 : (eqGuard .eql t x y (.bool a) (.bool b)).run P w = .ok () w := rfl
 rw [Sem.run_bind, e1, Result.andThen_ok]
 show ((do pure (.bool (← Op.equal t (.bool a) (.bool b)))) : Sem Value).run P w = _
 rw [Sem.run_bind, e, Result.andThen_ok]
 rfl
theorem run_isNil {t : TypeId} {ms : Array (String × TypeId)} {sz by' : Nat} {z : Value} (h : TI P t (.interface ms) sz by' z) {x : Operand} {w : World} :
  (do eqGuard .neq t x (.const .nilIface) .nilIface .nilIface; binOp .neq t .nilIface .nilIface : Sem Value).run P w = .ok (.bool false) w := by
 have e : (Op.equal t .nilIface .nilIface).run P w = .ok true w := by
  unfold Op.equal Op.maxDepth
  rw [show (10000 : Nat) = 9999 + 1 from rfl]
  unfold Op.equalIn
  rw [Sem.run_bind, run_underlying h.und, Result.andThen_ok]
  rfl
 have e1 : (eqGuard .neq t x (.const .nilIface) .nilIface .nilIface).run P w = .ok () w := by simp [eqGuard]
 rw [Sem.run_bind, e1, Result.andThen_ok]
 show ((do pure (.bool (!(← Op.equal t .nilIface .nilIface)))) : Sem Value).run P w = _
 rw [Sem.run_bind, e, Result.andThen_ok]
 rfl
theorem run_isErr {t : TypeId} {ms : Array (String × TypeId)} {sz by' : Nat} {z : Value} (h : TI P t (.interface ms) sz by' z) {x : Operand} {w : World} {te : TypeId} {ve : Value} :
  (do eqGuard .neq t x (.const .nilIface) (.iface te ve) .nilIface; binOp .neq t (.iface te ve) .nilIface : Sem Value).run P w = .ok (.bool true) w := by
 have e : (Op.equal t (.iface te ve) .nilIface).run P w = .ok false w := by
  unfold Op.equal Op.maxDepth
  rw [show (10000 : Nat) = 9999 + 1 from rfl]
  unfold Op.equalIn
  rw [Sem.run_bind, run_underlying h.und, Result.andThen_ok]
  rfl
 have e1 : (eqGuard .neq t x (.const .nilIface) (.iface te ve) .nilIface).run P w = .ok () w := by simp [eqGuard]
 rw [Sem.run_bind, e1, Result.andThen_ok]
 show ((do pure (.bool (!(← Op.equal t (.iface te ve) .nilIface)))) : Sem Value).run P w = _
 rw [Sem.run_bind, e, Result.andThen_ok]
 rfl
end
section
variable {P : Program} {N : Nums}
theorem zgb {Cw : World → Prop} {K : Env → Prop} {o : ROp} {r : List (ROp × Bool)} {ρ : Env} (v : Value) (hg : zcq ρ o.guard = true) (h : ∀ w, Cw w → (exec ρ o).run P w = .ok (.value v) w) (hr : zde P Cw K r (put ρ o.dst v)) : zde P Cw K ((o, true) :: r) ρ :=
 ⟨v, fun w hw => .inl ⟨hg, h w hw⟩, hr⟩
theorem zvs {Cw : World → Prop} {K : Env → Prop} {o : ROp} {r : List (ROp × Bool)} {ρ : Env} (hg : zcq ρ o.guard = false) (hr : zde P Cw K r (put ρ o.dst undef)) : zde P Cw K ((o, true) :: r) ρ :=
 ⟨undef, fun w hw => .inr ⟨hg, rfl⟩, hr⟩
theorem zkc.run_len (B : Base P N) {w : World} {v : Value} {l : List UInt8} (h : zkc w v l) {ty : TypeId} : (Builtin.len_ #[N.za] ty #[v]).run P w = .ok (.int .i64 l.length) w := by
 rcases h with ⟨ad, c, rfl, rfl⟩ | ⟨a, c, rfl, _⟩
 ·exact B.Lu8.run_len
 ·exact B.Lu8.run_len
theorem zrf {tt tg lt lg : TypeId} (hT : zfi P N tt tg lt lg) {w1 : World} {b : Nat} {cs : List Value} (hr : w1.rangeAt b 0 cs) (hl : cs.length = 5) : (Instr.loadAt tt (.pointer (some ⟨b, 0, none⟩))).run P w1 = .ok (.agg cs.toArray) w1 := by
 obtain ⟨fs, h⟩ := hT.ti
 have hlv : ∀ (f : Array Field) (x : List Value), ldv (.struct f) x = .agg x.toArray := fun _ _ => rfl
 have hl2 := h.run_load (w := w1) (b := b) (o := 0) hr hl (fun h => by cases h)
 rw [hl2, hlv]
def Put (w : World) (b : Nat) (t : Tr) : Prop := ∃ cs, RepT w (fun k => k < b) t cs ∧ w.rangeAt b 0 cs ∧ b < w.heap.size
theorem Put.stay {w w' : World} (m : Mod w w' zp) {b : Nat} {t : Tr} (h : Put w b t) : Put w' b t := by
 obtain ⟨cs, h1, h2, h3⟩ := h
 exact ⟨cs, RepT.stay m t h1, m.rangeAt h3 (fun _ _ _ h => h) h2, Nat.lt_of_lt_of_le h3 m.size⟩
end
section
variable {P : Program} {N : Nums}
end
section
variable {P : Program} {N : Nums}
end
section
open Go Go.RowKit Go.ChangeShapes Go.WideShapes
theorem octet_of {z : Int} (h : (Lit.int .u8 z).wf = true) : Value.int .u8 z = zbf (UInt8.ofNat z.toNat) := by
 have h2 : 0 ≤ z ∧ z ≤ 255 := by
  simp [Lit.wf, IntKind.min, IntKind.max, IntKind.signed, IntKind.bits] at h
  omega
 unfold zbf
 congr 1
 rw [UInt8.toNat_ofNat']
 omega
theorem argOct_of {H : Type} {enc : TypeId × Value → H} {P : Program} {W : World} {t e : TypeId} {v : Value} {d : DataW H} {p : List MemPlace} {base : Nat}
  (ht : P.underlying t = some (.slice e)) (he : P.underlying e = some (.int .u8)) (hc : P.cellsOf e = 1) (hok : Value.okWide P W .any base t v) (h : DataW.Trod enc P W 0 (fun _ => true) true t v d p) : ∃ l, zkc W v l := by
 obtain ⟨a, len, cap, rfl⟩ := okWide_slice ht hok
 obtain ⟨fuel, hf⟩ := h
 rcases open_ints ht he hc hf with ⟨hcs, _⟩ | ⟨x, l, c, zs, hcs, _, hl, hm, hz, _, hcell, hwz⟩
 ·simp [Value.cells] at hcs
  obtain ⟨rfl, rfl, rfl⟩ := hcs
  exact ⟨[], .inl ⟨_, _, rfl, rfl⟩⟩
 ·simp [Value.cells] at hcs
  obtain ⟨rfl, rfl, rfl⟩ := hcs
  by_cases h0 : len = 0
  ·subst h0
   exact ⟨[], .inl ⟨_, _, rfl, rfl⟩⟩
  ·have hz : zs.length = cap := by simpa using hz
   have hll : ((zs.take len).map fun z : Int => UInt8.ofNat z.toNat).length = len := by simp; omega
   have hcl : ∀ j y, ((zs.take len).map fun z : Int => UInt8.ofNat z.toNat)[j]? = some y → W.cell? (x.add j) = some (zbf y) := by
    intro j y hj
    rw [List.getElem?_map] at hj
    cases hg : (zs.take len)[j]? with
    | none => rw [hg] at hj; simp at hj
    | some z =>
     rw [hg] at hj
     simp at hj
     subst hj
     have hjl : j < len := by
      have := (List.getElem?_eq_some_iff.1 hg).1
      rw [List.length_take] at this; omega
     rw [List.getElem?_take_of_lt hjl] at hg
     have hjz : j < zs.length := (List.getElem?_eq_some_iff.1 hg).1
     rw [hcell j hjz, List.getD, hg]
     exact congrArg some (octet_of (hwz z (List.mem_of_getElem? hg)))
   refine ⟨_, .inr ⟨x, cap, by rw [hll], by rw [hll]; exact hl, ?_, hcl⟩⟩
   have h1 := hcell 0 (by omega)
   have h2 : (W.cell? x).isSome = true := by
    have e : x.add 0 = x := by unfold Addr.add; simp
    rw [e] at h1; rw [h1]; rfl
   unfold World.cell? at h2
   cases hh : W.heap[x.block]? with
   | none => rw [hh] at h2; simp at h2
   | some o => exact (Array.getElem?_eq_some_iff.1 hh).1
theorem el_ti {P : Program} {N : Nums} {fx : Bool} (B : Base P N) (F : Fns P N) (e : El) (h : e.okB P N fx = true) (hd : e.dfs P N) : ∃ d by' z, TI P (e.ty N) d e.sz by' z := by
 obtain ⟨d, by', z, h, _⟩ := (El.ok_of B F e h hd).2.1
 exact ⟨d, by', z, h⟩
end
structure zci where
 zed : Nat := 0
 zeo : Nat := 0
 zdw : Nat := 0
 zko : Nat := 0
 zrk : Nat := 0
 zlk : Nat := 0
 zco : Nat := 0
 zlj : Nat := 0
 zgp : Nat := 0
 zdp : Nat := 0
 zhq : Nat := 0
 zhp : Nat := 0
 zkn : Nat := 0
 zir : Nat := 0
 zgo : Nat := 0
 zno : Nat := 0
 zhi : Nat := 0
 zpr : Nat := 0
 zho : Nat := 0
 zdv : Nat := 0
 zje : Nat := 0
 f_zzFits1 : Nat := 0
 zwg : Nat := 0
 zwf : Nat := 0
 zae : Nat := 0
 zg : Nat := 0
 zaq : Nat := 0
def c_zzFits3 (N : Nums) (M : zci) : C :=
 .seq (
 .ops [
 ⟨some (1+100), .box N.zz (V 0), 0, none, []⟩,
 ⟨some (2+100), .assign (.const (.bool false)), 0, none, []⟩]) (
 .seq (
 .seq (
 .ops [
 ⟨some 0, .fieldAddr N.zz (V 1) 1, 0, none, []⟩,
 ⟨some 1, .load N.za (T 0), 0, none, []⟩,
 ⟨some 2, .call ⟨.builtin .len, #[T 1], #[N.za]⟩, N.ze, none, []⟩,
 ⟨some (3+100), .binOp .gtr N.ze (T 2) (.const (.int .i64 2147483647)) N.ze, 0, none, []⟩]) (
 .cond 3 (
 .seq (
 .ops [
 ⟨some (2+100), .assign (.const (.bool false)), 0, none, []⟩]) (
 .ret)) (
 .skip))) (
 .seq (
 .ops [
 ⟨some (2+100), .assign (.const (.bool true)), 0, none, []⟩]) (
 .ret)))
def c_zzFits2 (N : Nums) (M : zci) : C :=
 .seq (
 .ops [
 ⟨some (1+100), .assign (.const (.bool false)), 0, none, []⟩]) (
 .seq (
 .seq (
 .ops [
 ⟨some 0, .move (V 0), 0, none, []⟩,
 ⟨some 1, .call ⟨.builtin .len, #[T 0], #[N.zh]⟩, N.ze, none, []⟩,
 ⟨some (2+100), .binOp .gtr N.ze (T 1) (.const (.int .i64 2147483647)) N.ze, 0, none, []⟩]) (
 .cond 2 (
 .seq (
 .ops [
 ⟨some (1+100), .assign (.const (.bool false)), 0, none, []⟩]) (
 .ret)) (
 .skip))) (
 .seq (
 .seq (
 .ops [
 ⟨some (3+100), .move (V 0), 0, none, []⟩,
 ⟨some (4+100), .call ⟨.builtin .len, #[V 3], #[N.zh]⟩, N.ze, none, []⟩,
 ⟨some (5+100), .move (.const (.int .i64 0)), 0, none, []⟩]) (
 .block 0 (
 .loop (
 .seq (
 .ops [
 ⟨some (6+100), .binOp .lss N.ze (V 5) (V 4) N.ze, 0, none, []⟩]) (
 .seq (
 .cond 6 (
 .skip) (
 .exit 0)) (
 .seq (
 .block 1 (
 .seq (
 .ops [
 ⟨some 0, .indexAddr N.zh (V 3) (V 5), 0, none, []⟩,
 ⟨some 1, .load N.zz (T 0), 0, none, []⟩,
 ⟨some (7+100), .alloc N.zz, 0, none, []⟩,
 ⟨none, .store N.zz (V 7) (T 1), 0, none, []⟩]) (
 .seq (
 .ops [
 ⟨some 0, .load N.zz (V 7), 0, none, []⟩,
 ⟨some 1, .call ⟨.value (.func M.zwf), #[T 0], #[N.zz]⟩, N.zah, none, []⟩,
 ⟨some (8+100), .unOp .not N.zah (T 1), 0, none, []⟩]) (
 .cond 8 (
 .seq (
 .ops [
 ⟨some (1+100), .assign (.const (.bool false)), 0, none, []⟩]) (
 .ret)) (
 .skip))))) (
 .ops [
 ⟨some 0, .binOp .add N.ze (V 5) (.const (.int .i64 1)) N.ze, 0, none, []⟩,
 ⟨some (5+100), .move (T 0), 0, none, []⟩]))))))) (
 .seq (
 .ops [
 ⟨some (1+100), .assign (.const (.bool true)), 0, none, []⟩]) (
 .ret))))
def c_zzFits1 (N : Nums) (M : zci) : C :=
 .seq (
 .ops [
 ⟨some (1+100), .box N.zb (V 0), 0, none, []⟩,
 ⟨some (2+100), .assign (.const (.bool false)), 0, none, []⟩]) (
 .seq (
 .seq (
 .ops [
 ⟨some 0, .fieldAddr N.zb (V 1) 1, 0, none, []⟩,
 ⟨some 1, .load N.za (T 0), 0, none, []⟩,
 ⟨some 2, .call ⟨.builtin .len, #[T 1], #[N.za]⟩, N.ze, none, []⟩,
 ⟨some (3+100), .binOp .gtr N.ze (T 2) (.const (.int .i64 2147483647)) N.ze, 0, none, []⟩]) (
 .cond 3 (
 .seq (
 .ops [
 ⟨some (2+100), .assign (.const (.bool false)), 0, none, []⟩]) (
 .ret)) (
 .skip))) (
 .seq (
 .seq (
 .ops [
 ⟨some 0, .fieldAddr N.zb (V 1) 3, 0, none, []⟩,
 ⟨some 1, .load N.zk (T 0), 0, none, []⟩,
 ⟨some 2, .call ⟨.builtin .len, #[T 1], #[N.zk]⟩, N.ze, none, []⟩,
 ⟨some (4+100), .binOp .gtr N.ze (T 2) (.const (.int .i64 2147483647)) N.ze, 0, none, []⟩]) (
 .cond 4 (
 .seq (
 .ops [
 ⟨some (2+100), .assign (.const (.bool false)), 0, none, []⟩]) (
 .ret)) (
 .skip))) (
 .seq (
 .seq (
 .ops [
 ⟨some 0, .fieldAddr N.zb (V 1) 4, 0, none, []⟩,
 ⟨some 1, .load N.zh (T 0), 0, none, []⟩,
 ⟨some 2, .call ⟨.value (.func M.zwg), #[T 1], #[N.zh]⟩, N.zah, none, []⟩,
 ⟨some (5+100), .unOp .not N.zah (T 2), 0, none, []⟩]) (
 .cond 5 (
 .seq (
 .ops [
 ⟨some (2+100), .assign (.const (.bool false)), 0, none, []⟩]) (
 .ret)) (
 .skip))) (
 .seq (
 .ops [
 ⟨some (2+100), .assign (.const (.bool true)), 0, none, []⟩]) (
 .ret)))))
def zhs (N : Nums) (M : zci) : C :=
 .seq (
 .ops [
 ⟨some (2+100), .box M.zg (V 0), 0, none, []⟩,
 ⟨some (3+100), .assign (.const (.bool false)), 0, none, []⟩]) (
 .seq (
 .ops [
 ⟨some 0, .fieldAddr M.zg (V 2) 1, 0, none, []⟩,
 ⟨some 1, .load N.ze (T 0), 0, none, []⟩,
 ⟨some 2, .move (V 1), 0, none, []⟩,
 ⟨some 3, .binOp .leq N.ze (T 1) (T 2) N.ze, 0, none, []⟩,
 ⟨some 4, .move (T 3), 0, none, []⟩,
 ⟨some 5, .fieldAddr M.zg (V 2) 2, 0, (some (some 4, true)), []⟩,
 ⟨some 6, .load N.ze (T 5), 0, (some (some 4, true)), []⟩,
 ⟨some 7, .binOp .lss N.ze (T 6) (.const (.int .i64 0)) N.ze, 0, (some (some 4, true)), []⟩,
 ⟨some 8, .move (T 7), 0, (some (some 4, true)), []⟩,
 ⟨some 9, .move (V 1), 0, (some (some 8, false)), []⟩,
 ⟨some 10, .fieldAddr M.zg (V 2) 2, 0, (some (some 8, false)), []⟩,
 ⟨some 11, .load N.ze (T 10), 0, (some (some 8, false)), []⟩,
 ⟨some 12, .binOp .leq N.ze (T 9) (T 11) N.ze, 0, (some (some 8, false)), []⟩,
 ⟨some 13, .pick (T 8) (.const (.bool true)) (T 12), 0, (some (some 4, true)), []⟩,
 ⟨some 14, .pick (T 4) (T 13) (.const (.bool false)), 0, none, []⟩,
 ⟨some (3+100), .assign (T 14), 0, none, []⟩]) (
 .ret))
def zhf (N : Nums) (M : zci) : C :=
 .seq (
 .ops [
 ⟨some (3+100), .box M.zg (V 0), 0, none, []⟩,
 ⟨some (4+100), .box N.zb (V 2), 0, none, []⟩,
 ⟨some (5+100), .assign (.const (.bool false)), 0, none, []⟩]) (
 .seq (
 .ops [
 ⟨some 0, .fieldAddr N.zb (V 4) 2, 0, none, []⟩,
 ⟨some 1, .load N.zah (T 0), 0, none, []⟩,
 ⟨some 2, .move (T 1), 0, none, []⟩,
 ⟨some 3, .fieldAddr M.zg (V 3) 3, 0, (some (some 2, true)), []⟩,
 ⟨some 4, .load N.ze (T 3), 0, (some (some 2, true)), []⟩,
 ⟨some 5, .binOp .geq N.ze (T 4) (.const (.int .i64 0)) N.ze, 0, (some (some 2, true)), []⟩,
 ⟨some 6, .pick (T 2) (T 5) (.const (.bool false)), 0, none, []⟩,
 ⟨some 7, .move (T 6), 0, none, []⟩,
 ⟨some 8, .move (V 1), 0, (some (some 7, true)), []⟩,
 ⟨some 9, .fieldAddr M.zg (V 3) 3, 0, (some (some 7, true)), []⟩,
 ⟨some 10, .load N.ze (T 9), 0, (some (some 7, true)), []⟩,
 ⟨some 11, .binOp .geq N.ze (T 8) (T 10) N.ze, 0, (some (some 7, true)), []⟩,
 ⟨some 12, .pick (T 7) (T 11) (.const (.bool false)), 0, none, []⟩,
 ⟨some (5+100), .assign (T 12), 0, none, []⟩]) (
 .ret))
def zlp (N : Nums) (M : zci) : C :=
 .seq (
 .ops [
 ⟨some (1+100), .assign (.const (.slice none 0 0)), 0, none, []⟩]) (
 .seq (
 .ops [
 ⟨some 0, .move (V 0), 0, none, []⟩,
 ⟨some 1, .move (V 0), 0, none, []⟩,
 ⟨some 2, .call ⟨.builtin .len, #[T 1], #[N.za]⟩, N.ze, none, []⟩,
 ⟨some 3, .call ⟨.builtin .min, #[(T 2), (.const (.int .i64 32767))], #[N.ze, N.ze]⟩, N.ze, none, []⟩,
 ⟨some 4, .slice N.za (T 0) none (some (T 3)) none, 0, none, []⟩,
 ⟨some (1+100), .assign (T 4), 0, none, []⟩]) (
 .ret))
def zkp (N : Nums) (M : zci) : C :=
 .seq (
 .ops [
 ⟨some (1+100), .assign (.const (.slice none 0 0)), 0, none, []⟩]) (
 .seq (
 .ops [
 ⟨some 0, .move (V 0), 0, none, []⟩,
 ⟨some 1, .move (V 0), 0, none, []⟩,
 ⟨some 2, .call ⟨.builtin .len, #[T 1], #[N.zk]⟩, N.ze, none, []⟩,
 ⟨some 3, .call ⟨.builtin .min, #[(T 2), (.const (.int .i64 32767))], #[N.ze, N.ze]⟩, N.ze, none, []⟩,
 ⟨some 4, .slice N.zk (T 0) none (some (T 3)) none, 0, none, []⟩,
 ⟨some (1+100), .assign (T 4), 0, none, []⟩]) (
 .ret))
def zrp (N : Nums) (M : zci) : C :=
 .seq (
 .ops [
 ⟨some (2+100), .box N.zb (V 0), 0, none, []⟩,
 ⟨some (3+100), .alloc N.zb, 0, none, []⟩]) (
 .seq (
 .seq (
 .ops [
 ⟨some 0, .move (V 1), 0, none, []⟩,
 ⟨some 1, .fieldAddr N.zb (V 2) 3, 0, none, []⟩,
 ⟨some 2, .load N.zk (T 1), 0, none, []⟩,
 ⟨some 3, .call ⟨.builtin .len, #[T 2], #[N.zk]⟩, N.ze, none, []⟩,
 ⟨some (4+100), .binOp .lss N.ze (T 0) (T 3) N.ze, 0, none, []⟩]) (
 .cond 4 (
 .seq (
 .ops [
 ⟨some 0, .fieldAddr N.zb (V 2) 3, 0, none, []⟩,
 ⟨some 1, .load N.zk (T 0), 0, none, []⟩,
 ⟨some 2, .move (V 1), 0, none, []⟩,
 ⟨some 3, .indexAddr N.zk (T 1) (T 2), 0, none, []⟩,
 ⟨some 4, .load N.zb (T 3), 0, none, []⟩,
 ⟨none, .store N.zb (V 3) (T 4), 0, none, []⟩]) (
 .ret)) (
 .skip))) (
 .seq (
 .ops [
 ⟨some 0, .build N.zb #[], 0, none, []⟩,
 ⟨none, .store N.zb (V 3) (T 0), 0, none, []⟩]) (
 .ret)))
def zhj (N : Nums) (M : zci) : C :=
 .seq (
 .ops [
 ⟨some (1+100), .assign (.const (.slice none 0 0)), 0, none, []⟩]) (
 .seq (
 .ops [
 ⟨some (2+100), .assign (.const (.slice none 0 0)), 0, none, []⟩]) (
 .seq (
 .block 0 (
 .loop (
 .seq (
 .seq (
 .ops [
 ⟨some 0, .move (V 0), 0, none, []⟩,
 ⟨some (3+100), .binOp .gtr N.zar (T 0) (.const (.int .u64 127)) N.zar, 0, none, []⟩]) (
 .cond 3 (
 .skip) (
 .exit 0))) (
 .block 1 (
 .seq (
 .ops [
 ⟨some 0, .move (V 2), 0, none, []⟩,
 ⟨some 1, .move (V 0), 0, none, []⟩,
 ⟨some 2, .binOp .and N.zar (T 1) (.const (.int .u64 127)) N.zar, 0, none, []⟩,
 ⟨some 3, .convert N.zar N.zx (T 2), 0, none, []⟩,
 ⟨some 4, .binOp .or N.zx (T 3) (.const (.int .u8 128)) N.zx, 0, none, []⟩,
 ⟨some 5, .buildSlice N.za 1 #[(0, (T 4))], 0, none, []⟩,
 ⟨some 6, .call ⟨.builtin .append, #[T 0, T 5], #[N.za, N.za]⟩, N.za, none, []⟩,
 ⟨some (2+100), .assign (T 6), 0, none, []⟩]) (
 .ops [
 ⟨some 0, .move (V 0), 0, none, []⟩,
 ⟨some 1, .binOp .shr N.zar (T 0) (.const (.int .u64 7)) N.zgt, 0, none, []⟩,
 ⟨some (0+100), .assign (T 1), 0, none, []⟩])))))) (
 .seq (
 .ops [
 ⟨some 0, .move (V 2), 0, none, []⟩,
 ⟨some 1, .move (V 0), 0, none, []⟩,
 ⟨some 2, .convert N.zar N.zx (T 1), 0, none, []⟩,
 ⟨some 3, .buildSlice N.za 1 #[(0, (T 2))], 0, none, []⟩,
 ⟨some 4, .call ⟨.builtin .append, #[T 0, T 3], #[N.za, N.za]⟩, N.za, none, []⟩,
 ⟨some (1+100), .assign (T 4), 0, none, []⟩]) (
 .ret))))
def zjf (N : Nums) (M : zci) : C :=
 .seq (
 .ops [
 ⟨some (2+100), .assign (.const (.slice none 0 0)), 0, none, []⟩]) (
 .seq (
 .ops [
 ⟨some (3+100), .assign (.const (.slice none 0 0)), 0, none, []⟩]) (
 .seq (
 .seq (
 .ops [
 ⟨some 0, .move (V 1), 0, none, []⟩,
 ⟨some 1, .binOp .sub N.ze (T 0) (.const (.int .i64 1)) N.ze, 0, none, []⟩,
 ⟨some (4+100), .assign (T 1), 0, none, []⟩]) (
 .block 0 (
 .loop (
 .seq (
 .seq (
 .ops [
 ⟨some 0, .move (V 4), 0, none, []⟩,
 ⟨some (5+100), .binOp .geq N.ze (T 0) (.const (.int .i64 0)) N.ze, 0, none, []⟩]) (
 .cond 5 (
 .skip) (
 .exit 0))) (
 .seq (
 .block 1 (
 .ops [
 ⟨some 0, .move (V 3), 0, none, []⟩,
 ⟨some 1, .move (V 0), 0, none, []⟩,
 ⟨some 2, .move (V 4), 0, none, []⟩,
 ⟨some 3, .binOp .mul N.ze (.const (.int .i64 8)) (T 2) N.ze, 0, none, []⟩,
 ⟨some 4, .binOp .shr N.zbe (T 1) (T 3) N.ze, 0, none, []⟩,
 ⟨some 5, .convert N.zbe N.zx (T 4), 0, none, []⟩,
 ⟨some 6, .buildSlice N.za 1 #[(0, (T 5))], 0, none, []⟩,
 ⟨some 7, .call ⟨.builtin .append, #[T 0, T 6], #[N.za, N.za]⟩, N.za, none, []⟩,
 ⟨some (3+100), .assign (T 7), 0, none, []⟩])) (
 .ops [
 ⟨some 0, .move (V 4), 0, none, []⟩,
 ⟨some 1, .binOp .sub N.ze (T 0) (.const (.int .i64 1)) N.ze, 0, none, []⟩,
 ⟨some (4+100), .assign (T 1), 0, none, []⟩])))))) (
 .seq (
 .ops [
 ⟨some 0, .move (V 3), 0, none, []⟩,
 ⟨some (2+100), .assign (T 0), 0, none, []⟩]) (
 .ret))))
def zlo (N : Nums) (M : zci) : C :=
 .seq (
 .ops [
 ⟨some (1+100), .assign (.const (.int .i64 0)), 0, none, []⟩]) (
 .seq (
 .seq (
 .ops [
 ⟨some (2+100), .move (V 0), 0, none, []⟩]) (
 .block 0 (
 .seq (
 .ops [
 ⟨some 0, .binOp .eql N.ze (V 2) (.const (.int .i64 1)) N.ze, 0, none, []⟩,
 ⟨some (3+100), .assign (T 0), 0, none, []⟩]) (
 .cond 3 (
 .seq (
 .ops [
 ⟨some (1+100), .assign (.const (.int .i64 1)), 0, none, []⟩]) (
 .ret)) (
 .seq (
 .seq (
 .ops [
 ⟨some 0, .binOp .eql N.ze (V 2) (.const (.int .i64 2)) N.ze, 0, none, []⟩,
 ⟨some (4+100), .assign (T 0), 0, none, []⟩]) (
 .cond 4 (
 .skip) (
 .ops [
 ⟨some 0, .binOp .eql N.ze (V 2) (.const (.int .i64 5)) N.ze, 0, none, []⟩,
 ⟨some (4+100), .assign (T 0), 0, none, []⟩]))) (
 .cond 4 (
 .seq (
 .ops [
 ⟨some (1+100), .assign (.const (.int .i64 2)), 0, none, []⟩]) (
 .ret)) (
 .seq (
 .ops [
 ⟨some 0, .binOp .eql N.ze (V 2) (.const (.int .i64 3)) N.ze, 0, none, []⟩,
 ⟨some (5+100), .assign (T 0), 0, none, []⟩]) (
 .cond 5 (
 .seq (
 .ops [
 ⟨some (1+100), .assign (.const (.int .i64 4)), 0, none, []⟩]) (
 .ret)) (
 .skip))))))))) (
 .seq (
 .ops [
 ⟨some (1+100), .assign (.const (.int .i64 8)), 0, none, []⟩]) (
 .ret)))
def zjo (N : Nums) (M : zci) : C :=
 .seq (
 .ops [
 ⟨some (4+100), .assign (.const (.slice none 0 0)), 0, none, []⟩]) (
 .seq (
 .block 0 (
 .seq (
 .ops [
 ⟨some 0, .move (V 0), 0, none, []⟩,
 ⟨some 1, .move (T 0), 0, none, []⟩,
 ⟨some 2, .move (V 1), 0, (some (some 1, true)), []⟩,
 ⟨some 3, .pick (T 1) (T 2) (.const (.bool false)), 0, none, []⟩,
 ⟨some (5+100), .assign (T 3), 0, none, []⟩]) (
 .cond 5 (
 .seq (
 .ops [
 ⟨some 0, .buildSlice N.za 1 #[(0, (.const (.int .u8 0)))], 0, none, []⟩,
 ⟨some (4+100), .assign (T 0), 0, none, []⟩]) (
 .ret)) (
 .seq (
 .ops [
 ⟨some 0, .move (V 0), 0, none, []⟩,
 ⟨some (6+100), .assign (T 0), 0, none, []⟩]) (
 .cond 6 (
 .seq (
 .ops [
 ⟨some 0, .move (V 2), 0, none, []⟩,
 ⟨some 1, .convert N.ze N.zar (T 0), 0, none, []⟩,
 ⟨some 2, .binOp .add N.zar (T 1) (.const (.int .u64 1)) N.zar, 0, none, []⟩,
 ⟨some 3, .call ⟨.value (.func M.zco), #[T 2], #[N.zar]⟩, N.za, none, []⟩,
 ⟨some (4+100), .assign (T 3), 0, none, []⟩]) (
 .ret)) (
 .seq (
 .ops [
 ⟨some 0, .move (V 1), 0, none, []⟩,
 ⟨some (7+100), .assign (T 0), 0, none, []⟩]) (
 .cond 7 (
 .seq (
 .ops [
 ⟨some 0, .move (V 3), 0, none, []⟩,
 ⟨some 1, .call ⟨.value (.func M.zdw), #[(.const (.int .i64 (-1))), (T 0)], #[N.zbe, N.ze]⟩, N.za, none, []⟩,
 ⟨some (4+100), .assign (T 1), 0, none, []⟩]) (
 .ret)) (
 .skip)))))))) (
 .seq (
 .ops [
 ⟨some 0, .move (V 2), 0, none, []⟩,
 ⟨some 1, .move (V 3), 0, none, []⟩,
 ⟨some 2, .call ⟨.value (.func M.zdw), #[T 0, T 1], #[N.zbe, N.ze]⟩, N.za, none, []⟩,
 ⟨some (4+100), .assign (T 2), 0, none, []⟩]) (
 .ret)))
def zpu (N : Nums) (M : zci) : C :=
 .seq (
 .ops [
 ⟨some (6+100), .box N.zb (V 5), 0, none, []⟩,
 ⟨some (7+100), .assign (.const (.slice none 0 0)), 0, none, []⟩]) (
 .seq (
 .seq (
 .ops [
 ⟨some (8+100), .move (V 0), 0, none, []⟩]) (
 .block 0 (
 .seq (
 .ops [
 ⟨some 0, .binOp .eql N.ze (V 8) (.const (.int .i64 0)) N.ze, 0, none, []⟩,
 ⟨some (9+100), .assign (T 0), 0, none, []⟩]) (
 .cond 9 (
 .seq (
 .ops [
 ⟨some 0, .fieldAddr N.zb (V 6) 0, 0, none, []⟩,
 ⟨some 1, .load N.zbe (T 0), 0, none, []⟩,
 ⟨some 2, .binOp .and N.zbe (T 1) (.const (.int .i64 1)) N.zbe, 0, none, []⟩,
 ⟨some 3, .convert N.zbe N.zx (T 2), 0, none, []⟩,
 ⟨some 4, .buildSlice N.za 1 #[(0, (T 3))], 0, none, []⟩,
 ⟨some (7+100), .assign (T 4), 0, none, []⟩]) (
 .ret)) (
 .seq (
 .ops [
 ⟨some 0, .binOp .eql N.ze (V 8) (.const (.int .i64 7)) N.ze, 0, none, []⟩,
 ⟨some (10+100), .assign (T 0), 0, none, []⟩]) (
 .cond 10 (
 .seq (
 .ops [
 ⟨some 0, .makeSlice N.za (.const (.int .i64 16)) (.const (.int .i64 16)), 0, none, []⟩,
 ⟨some (11+100), .assign (T 0), 0, none, []⟩]) (
 .seq (
 .ops [
 ⟨some 0, .move (V 11), 0, none, []⟩,
 ⟨some 1, .fieldAddr N.zb (V 6) 1, 0, none, []⟩,
 ⟨some 2, .load N.za (T 1), 0, none, []⟩,
 ⟨some 3, .call ⟨.builtin .copy, #[T 0, T 2], #[N.za, N.za]⟩, N.ze, none, []⟩]) (
 .seq (
 .ops [
 ⟨some 0, .move (V 11), 0, none, []⟩,
 ⟨some (7+100), .assign (T 0), 0, none, []⟩]) (
 .ret)))) (
 .seq (
 .ops [
 ⟨some 0, .binOp .eql N.ze (V 8) (.const (.int .i64 8)) N.ze, 0, none, []⟩,
 ⟨some (12+100), .assign (T 0), 0, none, []⟩]) (
 .cond 12 (
 .seq (
 .ops [
 ⟨some 0, .fieldAddr N.zb (V 6) 1, 0, none, []⟩,
 ⟨some 1, .load N.za (T 0), 0, none, []⟩,
 ⟨some 2, .call ⟨.value (.func M.zdv), #[T 1], #[N.za]⟩, N.za, none, []⟩,
 ⟨some (13+100), .assign (T 2), 0, none, []⟩]) (
 .seq (
 .seq (
 .ops [
 ⟨some (14+100), .move (V 2), 0, none, []⟩]) (
 .cond 14 (
 .ops [
 ⟨some (13+100), .assign (.const (.slice none 0 0)), 0, none, []⟩]) (
 .skip))) (
 .seq (
 .ops [
 ⟨some 0, .move (V 4), 0, none, []⟩,
 ⟨some 1, .move (V 2), 0, none, []⟩,
 ⟨some 2, .move (V 13), 0, none, []⟩,
 ⟨some 3, .call ⟨.builtin .len, #[T 2], #[N.za]⟩, N.ze, none, []⟩,
 ⟨some 4, .call ⟨.value (.func M.zdp), #[(T 0), (T 1), (T 3), (.const (.int .i64 2))], #[N.zah, N.zah, N.ze, N.ze]⟩, N.za, none, []⟩,
 ⟨some 5, .move (V 13), 0, none, []⟩,
 ⟨some 6, .call ⟨.builtin .append, #[T 4, T 5], #[N.za, N.za]⟩, N.za, none, []⟩,
 ⟨some (7+100), .assign (T 6), 0, none, []⟩]) (
 .ret)))) (
 .seq (
 .ops [
 ⟨some 0, .binOp .eql N.ze (V 8) (.const (.int .i64 9)) N.ze, 0, none, []⟩,
 ⟨some (15+100), .assign (T 0), 0, none, []⟩]) (
 .cond 15 (
 .seq (
 .ops [
 ⟨some 0, .fieldAddr N.zb (V 6) 1, 0, none, []⟩,
 ⟨some 1, .load N.za (T 0), 0, none, []⟩,
 ⟨some 2, .call ⟨.value (.func M.zdv), #[T 1], #[N.za]⟩, N.za, none, []⟩,
 ⟨some (16+100), .assign (T 2), 0, none, []⟩]) (
 .seq (
 .seq (
 .ops [
 ⟨some (17+100), .move (V 2), 0, none, []⟩]) (
 .cond 17 (
 .ops [
 ⟨some (16+100), .assign (.const (.slice none 0 0)), 0, none, []⟩]) (
 .skip))) (
 .seq (
 .ops [
 ⟨some 0, .move (V 4), 0, none, []⟩,
 ⟨some 1, .move (V 2), 0, none, []⟩,
 ⟨some 2, .move (V 16), 0, none, []⟩,
 ⟨some 3, .call ⟨.builtin .len, #[T 2], #[N.za]⟩, N.ze, none, []⟩,
 ⟨some 4, .call ⟨.value (.func M.zdp), #[(T 0), (T 1), (T 3), (.const (.int .i64 4))], #[N.zah, N.zah, N.ze, N.ze]⟩, N.za, none, []⟩,
 ⟨some 5, .move (V 16), 0, none, []⟩,
 ⟨some 6, .call ⟨.builtin .append, #[T 4, T 5], #[N.za, N.za]⟩, N.za, none, []⟩,
 ⟨some (7+100), .assign (T 6), 0, none, []⟩]) (
 .ret)))) (
 .seq (
 .ops [
 ⟨some 0, .binOp .eql N.ze (V 8) (.const (.int .i64 10)) N.ze, 0, none, []⟩,
 ⟨some (18+100), .assign (T 0), 0, none, []⟩]) (
 .cond 18 (
 .seq (
 .ops [
 ⟨some 0, .move (V 1), 0, none, []⟩,
 ⟨some 1, .move (V 3), 0, none, []⟩,
 ⟨some 2, .move (V 4), 0, none, []⟩,
 ⟨some 3, .load N.zb (V 6), 0, none, []⟩,
 ⟨some 4, .call ⟨.value (.func M.zir), #[T 0, T 1, T 2, T 3], #[M.zae, N.ze, N.zah, N.zb]⟩, N.za, none, []⟩,
 ⟨some (7+100), .assign (T 4), 0, none, []⟩]) (
 .ret)) (
 .skip))))))))))))) (
 .seq (
 .draw [
 ⟨some 0, .fieldAddr N.zb (V 6) 0, 0, none, []⟩,
 ⟨some 1, .load N.zbe (T 0), 0, none, [0]⟩,
 ⟨some 2, .move (V 0), 0, none, []⟩,
 ⟨some 3, .call ⟨.value (.func M.zje), #[T 2], #[N.ze]⟩, N.ze, none, [2]⟩,
 ⟨some 4, .call ⟨.value (.func M.zdw), #[T 1, T 3], #[N.zbe, N.ze]⟩, N.za, none, [1, 3, 3]⟩,
 ⟨some (7+100), .assign (T 4), 0, none, [4, 4, 0, 1, 2, 3, 4]⟩]) (
 .ret)))
def zpv (N : Nums) (M : zci) : C :=
 .seq (
 .ops [
 ⟨some (4+100), .box M.zg (V 0), 0, none, []⟩,
 ⟨some (5+100), .box N.zb (V 3), 0, none, []⟩,
 ⟨some (6+100), .assign (.const (.slice none 0 0)), 0, none, []⟩]) (
 .seq (
 .ops [
 ⟨some 0, .load M.zg (V 4), 0, none, []⟩,
 ⟨some 1, .move (V 1), 0, none, []⟩,
 ⟨some 2, .load N.zb (V 5), 0, none, []⟩,
 ⟨some 3, .call ⟨.value (.func M.zeo), #[T 0, T 1, T 2], #[M.zg, N.ze, N.zb]⟩, N.zah, none, []⟩,
 ⟨some (7+100), .assign (T 3), 0, none, []⟩]) (
 .seq (
 .seq (
 .ops [
 ⟨some 0, .fieldAddr M.zg (V 4) 0, 0, none, []⟩,
 ⟨some 1, .load N.ze (T 0), 0, none, []⟩,
 ⟨some (8+100), .binOp .eql N.ze (T 1) (.const (.int .i64 11)) N.ze, 0, none, []⟩]) (
 .cond 8 (
 .seq (
 .ops [
 ⟨some 0, .fieldAddr N.zb (V 5) 3, 0, none, []⟩,
 ⟨some 1, .load N.zk (T 0), 0, none, []⟩,
 ⟨some 2, .call ⟨.value (.func M.zgo), #[T 1], #[N.zk]⟩, N.zk, none, []⟩,
 ⟨some (9+100), .assign (T 2), 0, none, []⟩]) (
 .seq (
 .seq (
 .ops [
 ⟨some (10+100), .move (V 7), 0, none, []⟩]) (
 .cond 10 (
 .ops [
 ⟨some (9+100), .assign (.const (.slice none 0 0)), 0, none, []⟩]) (
 .skip))) (
 .seq (
 .ops [
 ⟨some 0, .move (V 2), 0, none, []⟩,
 ⟨some 1, .move (V 7), 0, none, []⟩,
 ⟨some 2, .move (V 9), 0, none, []⟩,
 ⟨some 3, .call ⟨.builtin .len, #[T 2], #[N.zk]⟩, N.ze, none, []⟩,
 ⟨some 4, .call ⟨.value (.func M.zdp), #[(T 0), (T 1), (T 3), (.const (.int .i64 4))], #[N.zah, N.zah, N.ze, N.ze]⟩, N.za, none, []⟩,
 ⟨some (11+100), .assign (T 4), 0, none, []⟩]) (
 .seq (
 .seq (
 .ops [
 ⟨some 0, .move (V 9), 0, none, []⟩,
 ⟨some (12+100), .call ⟨.builtin .len, #[T 0], #[N.zk]⟩, N.ze, none, []⟩,
 ⟨some (13+100), .move (.const (.int .i64 0)), 0, none, []⟩]) (
 .block 0 (
 .loop (
 .seq (
 .ops [
 ⟨some (14+100), .binOp .lss N.ze (V 13) (V 12) N.ze, 0, none, []⟩]) (
 .seq (
 .cond 14 (
 .skip) (
 .exit 0)) (
 .seq (
 .block 1 (
 .seq (
 .ops [
 ⟨some 0, .move (V 13), 0, none, []⟩,
 ⟨some (15+100), .assign (T 0), 0, none, []⟩]) (
 .draw [
 ⟨some 0, .move (V 11), 0, none, []⟩,
 ⟨some 1, .fieldAddr M.zg (V 4) 6, 0, none, []⟩,
 ⟨some 2, .load N.ze (T 1), 0, none, [1]⟩,
 ⟨some 3, .fieldAddr M.zg (V 4) 7, 0, none, []⟩,
 ⟨some 4, .load M.zae (T 3), 0, none, [3]⟩,
 ⟨some 5, .move (V 1), 0, none, []⟩,
 ⟨some 6, .move (V 2), 0, none, []⟩,
 ⟨some 7, .move (V 9), 0, none, []⟩,
 ⟨some 8, .move (V 15), 0, none, []⟩,
 ⟨some 9, .indexAddr N.zk (T 7) (T 8), 0, none, [7, 8]⟩,
 ⟨some 10, .load N.zb (T 9), 0, none, [9]⟩,
 ⟨some 11, .call ⟨.value (.func M.zho), #[(T 2), (T 4), (.const (.bool false)), (T 5), (T 6), (T 10)], #[N.ze, M.zae, N.zah, N.ze, N.zah, N.zb]⟩, N.za, none, [2, 4, 5, 6, 10]⟩,
 ⟨some 12, .call ⟨.builtin .append, #[T 0, T 11], #[N.za, N.za]⟩, N.za, none, [0, 11, 11]⟩,
 ⟨some (11+100), .assign (T 12), 0, none, [12, 12, 0, 1, 2, 3, 4, 5, 6, 7, 8, 9, 10, 11, 12]⟩]))) (
 .ops [
 ⟨some 0, .binOp .add N.ze (V 13) (.const (.int .i64 1)) N.ze, 0, none, []⟩,
 ⟨some (13+100), .move (T 0), 0, none, []⟩]))))))) (
 .seq (
 .ops [
 ⟨some 0, .move (V 11), 0, none, []⟩,
 ⟨some (6+100), .assign (T 0), 0, none, []⟩]) (
 .ret)))))) (
 .skip))) (
 .seq (
 .seq (
 .ops [
 ⟨some 0, .fieldAddr M.zg (V 4) 0, 0, none, []⟩,
 ⟨some 1, .load N.ze (T 0), 0, none, []⟩,
 ⟨some 2, .binOp .eql N.ze (T 1) (.const (.int .i64 10)) N.ze, 0, none, []⟩,
 ⟨some 3, .move (T 2), 0, none, []⟩,
 ⟨some 4, .fieldAddr M.zg (V 4) 3, 0, (some (some 3, true)), []⟩,
 ⟨some 5, .load N.ze (T 4), 0, (some (some 3, true)), []⟩,
 ⟨some 6, .binOp .geq N.ze (T 5) (.const (.int .i64 0)) N.ze, 0, (some (some 3, true)), []⟩,
 ⟨some (16+100), .pick (T 3) (T 6) (.const (.bool false)), 0, none, []⟩]) (
 .cond 16 (
 .seq (
 .seq (
 .ops [
 ⟨some (17+100), .move (V 7), 0, none, []⟩]) (
 .cond 17 (
 .seq (
 .ops [
 ⟨some 0, .call ⟨.value (.func M.zdw), #[(.const (.int .i64 (-1))), (.const (.int .i64 1))], #[N.zbe, N.ze]⟩, N.za, none, []⟩,
 ⟨some (6+100), .assign (T 0), 0, none, []⟩]) (
 .ret)) (
 .skip))) (
 .seq (
 .draw [
 ⟨some 0, .call ⟨.value (.func M.zdw), #[(.const (.int .i64 1)), (.const (.int .i64 1))], #[N.zbe, N.ze]⟩, N.za, none, []⟩,
 ⟨some 1, .fieldAddr M.zg (V 4) 7, 0, none, []⟩,
 ⟨some 2, .load M.zae (T 1), 0, none, [1]⟩,
 ⟨some 3, .move (V 1), 0, none, []⟩,
 ⟨some 4, .move (V 2), 0, none, []⟩,
 ⟨some 5, .load N.zb (V 5), 0, none, []⟩,
 ⟨some 6, .call ⟨.value (.func M.zir), #[T 2, T 3, T 4, T 5], #[M.zae, N.ze, N.zah, N.zb]⟩, N.za, none, [2, 3, 4, 5, 0]⟩,
 ⟨some 7, .call ⟨.builtin .append, #[T 0, T 6], #[N.za, N.za]⟩, N.za, none, [0, 6, 6]⟩,
 ⟨some (6+100), .assign (T 7), 0, none, [7, 7, 0, 1, 2, 3, 4, 5, 6, 7]⟩]) (
 .ret))) (
 .skip))) (
 .seq (
 .ops [
 ⟨some 0, .fieldAddr M.zg (V 4) 0, 0, none, []⟩,
 ⟨some 1, .load N.ze (T 0), 0, none, []⟩,
 ⟨some 2, .fieldAddr M.zg (V 4) 7, 0, none, []⟩,
 ⟨some 3, .load M.zae (T 2), 0, none, []⟩,
 ⟨some 4, .move (V 7), 0, none, []⟩,
 ⟨some 5, .move (V 1), 0, none, []⟩,
 ⟨some 6, .move (V 2), 0, none, []⟩,
 ⟨some 7, .load N.zb (V 5), 0, none, []⟩,
 ⟨some 8, .call ⟨.value (.func M.zho), #[T 1, T 3, T 4, T 5, T 6, T 7], #[N.ze, M.zae, N.zah, N.ze, N.zah, N.zb]⟩, N.za, none, []⟩,
 ⟨some (6+100), .assign (T 8), 0, none, []⟩]) (
 .ret)))))
def zlq (N : Nums) (M : zci) : C :=
 .seq (
 .ops [
 ⟨some (1+100), .assign (.const (.int .u32 0)), 0, none, []⟩]) (
 .seq (
 .ops [
 ⟨some (2+100), .assign (.const (.int .u32 0)), 0, none, []⟩]) (
 .seq (
 .seq (
 .ops [
 ⟨some (3+100), .move (V 0), 0, none, []⟩,
 ⟨some (4+100), .call ⟨.builtin .len, #[V 3], #[M.zae]⟩, N.ze, none, []⟩,
 ⟨some (5+100), .move (.const (.int .i64 0)), 0, none, []⟩]) (
 .block 0 (
 .loop (
 .seq (
 .ops [
 ⟨some (6+100), .binOp .lss N.ze (V 5) (V 4) N.ze, 0, none, []⟩]) (
 .seq (
 .cond 6 (
 .skip) (
 .exit 0)) (
 .seq (
 .block 1 (
 .seq (
 .ops [
 ⟨some 0, .indexAddr M.zae (V 3) (V 5), 0, none, []⟩,
 ⟨some 1, .load M.zg (T 0), 0, none, []⟩,
 ⟨some (7+100), .alloc M.zg, 0, none, []⟩,
 ⟨none, .store M.zg (V 7) (T 1), 0, none, []⟩]) (
 .seq (
 .ops [
 ⟨some 0, .fieldAddr M.zg (V 7) 4, 0, none, []⟩,
 ⟨some 1, .load N.ze (T 0), 0, none, []⟩,
 ⟨some (8+100), .binOp .geq N.ze (T 1) (.const (.int .i64 0)) N.ze, 0, none, []⟩]) (
 .cond 8 (
 .ops [
 ⟨some 0, .move (V 2), 0, none, []⟩,
 ⟨some 1, .fieldAddr M.zg (V 7) 4, 0, none, []⟩,
 ⟨some 2, .load N.ze (T 1), 0, none, []⟩,
 ⟨some 3, .convert N.ze N.zj (T 2), 0, none, []⟩,
 ⟨some 4, .binOp .add N.zj (T 3) (.const (.int .u32 1)) N.zj, 0, none, []⟩,
 ⟨some 5, .call ⟨.builtin .max, #[T 0, T 4], #[N.zj, N.zj]⟩, N.zj, none, []⟩,
 ⟨some (2+100), .assign (T 5), 0, none, []⟩]) (
 .skip))))) (
 .ops [
 ⟨some 0, .binOp .add N.ze (V 5) (.const (.int .i64 1)) N.ze, 0, none, []⟩,
 ⟨some (5+100), .move (T 0), 0, none, []⟩]))))))) (
 .seq (
 .ops [
 ⟨some 0, .move (V 2), 0, none, []⟩,
 ⟨some (1+100), .assign (T 0), 0, none, []⟩]) (
 .ret))))
def zmv (N : Nums) (M : zci) : C :=
 .seq (
 .ops [
 ⟨some (2+100), .assign (.const (.slice none 0 0)), 0, none, []⟩]) (
 .seq (
 .ops [
 ⟨some 0, .move (V 0), 0, none, []⟩,
 ⟨some 1, .call ⟨.value (.func M.zhp), #[T 0], #[M.zae]⟩, N.zj, none, []⟩,
 ⟨some (3+100), .assign (T 1), 0, none, []⟩]) (
 .seq (
 .ops [
 ⟨some (4+100), .assign (.const (.slice none 0 0)), 0, none, []⟩]) (
 .seq (
 .seq (
 .ops [
 ⟨some 0, .move (V 1), 0, none, []⟩,
 ⟨some 1, .move (V 1), 0, none, []⟩,
 ⟨some 2, .call ⟨.builtin .len, #[T 1], #[N.zh]⟩, N.ze, none, []⟩,
 ⟨some 3, .call ⟨.builtin .min, #[(T 2), (.const (.int .i64 32767))], #[N.ze, N.ze]⟩, N.ze, none, []⟩,
 ⟨some (5+100), .slice N.zh (T 0) none (some (T 3)) none, 0, none, []⟩,
 ⟨some (6+100), .call ⟨.builtin .len, #[V 5], #[N.zh]⟩, N.ze, none, []⟩,
 ⟨some (7+100), .move (.const (.int .i64 0)), 0, none, []⟩]) (
 .block 0 (
 .loop (
 .seq (
 .ops [
 ⟨some (8+100), .binOp .lss N.ze (V 7) (V 6) N.ze, 0, none, []⟩]) (
 .seq (
 .cond 8 (
 .skip) (
 .exit 0)) (
 .seq (
 .block 1 (
 .seq (
 .ops [
 ⟨some 0, .indexAddr N.zh (V 5) (V 7), 0, none, []⟩,
 ⟨some 1, .load N.zz (T 0), 0, none, []⟩,
 ⟨some (9+100), .alloc N.zz, 0, none, []⟩,
 ⟨none, .store N.zz (V 9) (T 1), 0, none, []⟩]) (
 .seq (
 .ops [
 ⟨some (10+100), .assign (.const (.int .i64 0)), 0, none, []⟩]) (
 .seq (
 .block 2 (
 .loop (
 .seq (
 .seq (
 .draw [
 ⟨some 0, .move (V 10), 0, none, []⟩,
 ⟨some 1, .move (V 4), 0, none, []⟩,
 ⟨some 2, .call ⟨.builtin .len, #[T 1], #[N.zh]⟩, N.ze, none, [1]⟩,
 ⟨some 3, .binOp .lss N.ze (T 0) (T 2) N.ze, 0, none, [0, 2]⟩,
 ⟨some 4, .move (T 3), 0, none, [3]⟩,
 ⟨some 5, .move (V 4), 0, (some (some 4, true)), [4]⟩,
 ⟨some 6, .move (V 10), 0, (some (some 4, true)), [4]⟩,
 ⟨some 7, .indexAddr N.zh (T 5) (T 6), 0, (some (some 4, true)), [5, 6, 4]⟩,
 ⟨some 8, .fieldAddr N.zz (T 7) 0, 0, (some (some 4, true)), [7, 4]⟩,
 ⟨some 9, .load N.zj (T 8), 0, (some (some 4, true)), [8, 4]⟩,
 ⟨some 10, .fieldAddr N.zz (V 9) 0, 0, (some (some 4, true)), [4]⟩,
 ⟨some 11, .load N.zj (T 10), 0, (some (some 4, true)), [10, 4]⟩,
 ⟨some 12, .binOp .lss N.zj (T 9) (T 11) N.zj, 0, (some (some 4, true)), [9, 11, 4]⟩,
 ⟨some (11+100), .pick (T 4) (T 12) (.const (.bool false)), 0, none, [4, 12]⟩]) (
 .cond 11 (
 .skip) (
 .exit 2))) (
 .block 3 (
 .ops [
 ⟨some 0, .move (V 10), 0, none, []⟩,
 ⟨some 1, .binOp .add N.ze (T 0) (.const (.int .i64 1)) N.ze, 0, none, []⟩,
 ⟨some (10+100), .assign (T 1), 0, none, []⟩]))))) (
 .seq (
 .seq (
 .draw [
 ⟨some 0, .fieldAddr N.zz (V 9) 0, 0, none, []⟩,
 ⟨some 1, .load N.zj (T 0), 0, none, [0]⟩,
 ⟨some 2, .move (V 3), 0, none, []⟩,
 ⟨some 3, .binOp .lss N.zj (T 1) (T 2) N.zj, 0, none, [1, 2]⟩,
 ⟨some 4, .move (T 3), 0, none, [3]⟩,
 ⟨some 5, .move (V 10), 0, (some (some 4, false)), [4]⟩,
 ⟨some 6, .move (V 4), 0, (some (some 4, false)), [4]⟩,
 ⟨some 7, .call ⟨.builtin .len, #[T 6], #[N.zh]⟩, N.ze, (some (some 4, false)), [6, 4]⟩,
 ⟨some 8, .binOp .lss N.ze (T 5) (T 7) N.ze, 0, (some (some 4, false)), [5, 7, 4]⟩,
 ⟨some 9, .move (T 8), 0, (some (some 4, false)), [8, 4, 4]⟩,
 ⟨some 10, .move (V 4), 0, (some (some 9, true)), [9]⟩,
 ⟨some 11, .move (V 10), 0, (some (some 9, true)), [9]⟩,
 ⟨some 12, .indexAddr N.zh (T 10) (T 11), 0, (some (some 9, true)), [10, 11, 9]⟩,
 ⟨some 13, .fieldAddr N.zz (T 12) 0, 0, (some (some 9, true)), [12, 9]⟩,
 ⟨some 14, .load N.zj (T 13), 0, (some (some 9, true)), [13, 9]⟩,
 ⟨some 15, .fieldAddr N.zz (V 9) 0, 0, (some (some 9, true)), [9]⟩,
 ⟨some 16, .load N.zj (T 15), 0, (some (some 9, true)), [15, 9]⟩,
 ⟨some 17, .binOp .eql N.zj (T 14) (T 16) N.zj, 0, (some (some 9, true)), [14, 16, 9]⟩,
 ⟨some 18, .pick (T 9) (T 17) (.const (.bool false)), 0, (some (some 4, false)), [9, 17, 4]⟩,
 ⟨some (12+100), .pick (T 4) (.const (.bool true)) (T 18), 0, none, [4, 18]⟩]) (
 .cond 12 (
 .exit 1) (
 .skip))) (
 .seq (
 .ops [
 ⟨some 0, .move (V 4), 0, none, []⟩,
 ⟨some 1, .build N.zz #[], 0, none, []⟩,
 ⟨some 2, .buildSlice N.zh 1 #[(0, (T 1))], 0, none, []⟩,
 ⟨some 3, .call ⟨.builtin .append, #[T 0, T 2], #[N.zh, N.zh]⟩, N.zh, none, []⟩,
 ⟨some (4+100), .assign (T 3), 0, none, []⟩]) (
 .seq (
 .seq (
 .ops [
 ⟨some 0, .move (V 4), 0, none, []⟩,
 ⟨some 1, .call ⟨.builtin .len, #[T 0], #[N.zh]⟩, N.ze, none, []⟩,
 ⟨some 2, .binOp .sub N.ze (T 1) (.const (.int .i64 1)) N.ze, 0, none, []⟩,
 ⟨some (13+100), .assign (T 2), 0, none, []⟩]) (
 .block 4 (
 .loop (
 .seq (
 .seq (
 .ops [
 ⟨some 0, .move (V 13), 0, none, []⟩,
 ⟨some 1, .move (V 10), 0, none, []⟩,
 ⟨some (14+100), .binOp .gtr N.ze (T 0) (T 1) N.ze, 0, none, []⟩]) (
 .cond 14 (
 .skip) (
 .exit 4))) (
 .seq (
 .block 5 (
 .ops [
 ⟨some 0, .move (V 4), 0, none, []⟩,
 ⟨some 1, .move (V 13), 0, none, []⟩,
 ⟨some 2, .move (V 4), 0, none, []⟩,
 ⟨some 3, .move (V 13), 0, none, []⟩,
 ⟨some 4, .binOp .sub N.ze (T 3) (.const (.int .i64 1)) N.ze, 0, none, []⟩,
 ⟨some 5, .indexAddr N.zh (T 2) (T 4), 0, none, []⟩,
 ⟨some 6, .load N.zz (T 5), 0, none, []⟩,
 ⟨some 7, .indexAddr N.zh (T 0) (T 1), 0, none, []⟩,
 ⟨none, .store N.zz (T 7) (T 6), 0, none, []⟩])) (
 .ops [
 ⟨some 0, .move (V 13), 0, none, []⟩,
 ⟨some 1, .binOp .sub N.ze (T 0) (.const (.int .i64 1)) N.ze, 0, none, []⟩,
 ⟨some (13+100), .assign (T 1), 0, none, []⟩])))))) (
 .ops [
 ⟨some 0, .move (V 4), 0, none, []⟩,
 ⟨some 1, .move (V 10), 0, none, []⟩,
 ⟨some 2, .load N.zz (V 9), 0, none, []⟩,
 ⟨some 3, .indexAddr N.zh (T 0) (T 1), 0, none, []⟩,
 ⟨none, .store N.zz (T 3) (T 2), 0, none, []⟩])))))))) (
 .ops [
 ⟨some 0, .binOp .add N.ze (V 7) (.const (.int .i64 1)) N.ze, 0, none, []⟩,
 ⟨some (7+100), .move (T 0), 0, none, []⟩]))))))) (
 .seq (
 .ops [
 ⟨some 0, .move (V 4), 0, none, []⟩,
 ⟨some (2+100), .assign (T 0), 0, none, []⟩]) (
 .ret)))))
def zro (N : Nums) (M : zci) : C :=
 .seq (
 .ops [
 ⟨some (4+100), .box N.zb (V 3), 0, none, []⟩,
 ⟨some (5+100), .assign (.const (.slice none 0 0)), 0, none, []⟩]) (
 .seq (
 .ops [
 ⟨some (6+100), .assign (.const (.slice none 0 0)), 0, none, []⟩,
 ⟨some (7+100), .assign (.const (.slice none 0 0)), 0, none, []⟩]) (
 .seq (
 .ops [
 ⟨some (8+100), .assign (.const (.int .i64 0)), 0, none, []⟩]) (
 .seq (
 .seq (
 .ops [
 ⟨some (9+100), .move (V 0), 0, none, []⟩,
 ⟨some (10+100), .call ⟨.builtin .len, #[V 9], #[M.zae]⟩, N.ze, none, []⟩,
 ⟨some (11+100), .move (.const (.int .i64 0)), 0, none, []⟩]) (
 .block 0 (
 .loop (
 .seq (
 .ops [
 ⟨some (12+100), .binOp .lss N.ze (V 11) (V 10) N.ze, 0, none, []⟩]) (
 .seq (
 .cond 12 (
 .skip) (
 .exit 0)) (
 .seq (
 .block 1 (
 .seq (
 .ops [
 ⟨some 0, .move (V 11), 0, none, []⟩,
 ⟨some 1, .indexAddr M.zae (V 9) (V 11), 0, none, []⟩,
 ⟨some 2, .load M.zg (T 1), 0, none, []⟩,
 ⟨some (13+100), .alloc M.zg, 0, none, []⟩,
 ⟨some (14+100), .assign (T 0), 0, none, []⟩,
 ⟨none, .store M.zg (V 13) (T 2), 0, none, []⟩]) (
 .seq (
 .ops [
 ⟨some 0, .fieldAddr M.zg (V 13) 4, 0, none, []⟩,
 ⟨some 1, .load N.ze (T 0), 0, none, []⟩,
 ⟨some 2, .binOp .lss N.ze (T 1) (.const (.int .i64 0)) N.ze, 0, none, []⟩,
 ⟨some 3, .move (T 2), 0, none, []⟩,
 ⟨some 4, .load M.zg (V 13), 0, (some (some 3, true)), []⟩,
 ⟨some 5, .move (V 1), 0, (some (some 3, true)), []⟩,
 ⟨some 6, .call ⟨.value (.func M.zed), #[T 4, T 5], #[M.zg, N.ze]⟩, N.zah, (some (some 3, true)), []⟩,
 ⟨some (15+100), .pick (T 3) (T 6) (.const (.bool false)), 0, none, []⟩]) (
 .cond 15 (
 .draw [
 ⟨some 0, .move (V 6), 0, none, []⟩,
 ⟨some 1, .load M.zg (V 13), 0, none, []⟩,
 ⟨some 2, .move (V 1), 0, none, []⟩,
 ⟨some 3, .move (V 2), 0, none, []⟩,
 ⟨some 4, .load N.zb (V 4), 0, none, []⟩,
 ⟨some 5, .move (V 14), 0, none, []⟩,
 ⟨some 6, .call ⟨.value (.func M.zgp), #[T 4, T 5], #[N.zb, N.ze]⟩, N.zb, none, [4, 5]⟩,
 ⟨some 7, .call ⟨.value (.func M.zhq), #[T 1, T 2, T 3, T 6], #[M.zg, N.ze, N.zah, N.zb]⟩, N.za, none, [1, 2, 3, 6, 6]⟩,
 ⟨some 8, .call ⟨.builtin .append, #[T 0, T 7], #[N.za, N.za]⟩, N.za, none, [0, 7, 7]⟩,
 ⟨some (6+100), .assign (T 8), 0, none, [8, 8, 0, 1, 2, 3, 4, 5, 6, 7, 8]⟩]) (
 .skip))))) (
 .ops [
 ⟨some 0, .binOp .add N.ze (V 11) (.const (.int .i64 1)) N.ze, 0, none, []⟩,
 ⟨some (11+100), .move (T 0), 0, none, []⟩]))))))) (
 .seq (
 .seq (
 .ops [
 ⟨some 0, .move (V 2), 0, none, []⟩,
 ⟨some (16+100), .unOp .not N.zah (T 0), 0, none, []⟩]) (
 .cond 16 (
 .seq (
 .ops [
 ⟨some 0, .move (V 6), 0, none, []⟩,
 ⟨some (5+100), .assign (T 0), 0, none, []⟩]) (
 .ret)) (
 .skip))) (
 .seq (
 .seq (
 .ops [
 ⟨some 0, .move (V 0), 0, none, []⟩,
 ⟨some 1, .call ⟨.value (.func M.zhp), #[T 0], #[M.zae]⟩, N.zj, none, []⟩,
 ⟨some (17+100), .convert N.zj N.ze (T 1), 0, none, []⟩,
 ⟨some (18+100), .move (.const (.int .i64 0)), 0, none, []⟩]) (
 .block 2 (
 .loop (
 .seq (
 .ops [
 ⟨some (19+100), .binOp .lss N.ze (V 18) (V 17) N.ze, 0, none, []⟩]) (
 .seq (
 .cond 19 (
 .skip) (
 .exit 2)) (
 .seq (
 .block 3 (
 .seq (
 .ops [
 ⟨some 0, .move (V 18), 0, none, []⟩,
 ⟨some (20+100), .assign (T 0), 0, none, []⟩]) (
 .seq (
 .ops [
 ⟨some (21+100), .move (V 0), 0, none, []⟩,
 ⟨some (22+100), .call ⟨.builtin .len, #[V 21], #[M.zae]⟩, N.ze, none, []⟩,
 ⟨some (23+100), .move (.const (.int .i64 0)), 0, none, []⟩]) (
 .block 4 (
 .loop (
 .seq (
 .ops [
 ⟨some (24+100), .binOp .lss N.ze (V 23) (V 22) N.ze, 0, none, []⟩]) (
 .seq (
 .cond 24 (
 .skip) (
 .exit 4)) (
 .seq (
 .block 5 (
 .seq (
 .ops [
 ⟨some 0, .move (V 23), 0, none, []⟩,
 ⟨some 1, .indexAddr M.zae (V 21) (V 23), 0, none, []⟩,
 ⟨some 2, .load M.zg (T 1), 0, none, []⟩,
 ⟨some (25+100), .alloc M.zg, 0, none, []⟩,
 ⟨some (26+100), .assign (T 0), 0, none, []⟩,
 ⟨none, .store M.zg (V 25) (T 2), 0, none, []⟩]) (
 .seq (
 .draw [
 ⟨some 0, .fieldAddr M.zg (V 25) 4, 0, none, []⟩,
 ⟨some 1, .load N.ze (T 0), 0, none, [0]⟩,
 ⟨some 2, .move (V 20), 0, none, []⟩,
 ⟨some 3, .binOp .eql N.ze (T 1) (T 2) N.ze, 0, none, [1, 2]⟩,
 ⟨some 4, .move (T 3), 0, none, [3]⟩,
 ⟨some 5, .load M.zg (V 25), 0, (some (some 4, true)), [4]⟩,
 ⟨some 6, .load N.zb (V 4), 0, (some (some 4, true)), [4]⟩,
 ⟨some 7, .move (V 26), 0, (some (some 4, true)), [4]⟩,
 ⟨some 8, .call ⟨.value (.func M.zgp), #[T 6, T 7], #[N.zb, N.ze]⟩, N.zb, (some (some 4, true)), [6, 7, 4, 4]⟩,
 ⟨some 9, .call ⟨.value (.func M.zpr), #[T 5, T 8], #[M.zg, N.zb]⟩, N.zah, (some (some 4, true)), [5, 8, 8, 4]⟩,
 ⟨some 10, .unOp .not N.zah (T 9), 0, (some (some 4, true)), [9, 4]⟩,
 ⟨some (27+100), .pick (T 4) (T 10) (.const (.bool false)), 0, none, [4, 10]⟩]) (
 .cond 27 (
 .seq (
 .draw [
 ⟨some 0, .load M.zg (V 25), 0, none, []⟩,
 ⟨some 1, .move (V 1), 0, none, []⟩,
 ⟨some 2, .move (V 2), 0, none, []⟩,
 ⟨some 3, .load N.zb (V 4), 0, none, []⟩,
 ⟨some 4, .move (V 26), 0, none, []⟩,
 ⟨some 5, .call ⟨.value (.func M.zgp), #[T 3, T 4], #[N.zb, N.ze]⟩, N.zb, none, [3, 4]⟩,
 ⟨some 6, .call ⟨.value (.func M.zhq), #[T 0, T 1, T 2, T 5], #[M.zg, N.ze, N.zah, N.zb]⟩, N.za, none, [0, 1, 2, 5, 5]⟩,
 ⟨some (28+100), .assign (T 6), 0, none, [6, 6, 0, 1, 2, 3, 4, 5, 6]⟩]) (
 .seq (
 .ops [
 ⟨some 0, .move (V 7), 0, none, []⟩,
 ⟨some 1, .move (V 20), 0, none, []⟩,
 ⟨some 2, .convert N.ze N.zar (T 1), 0, none, []⟩,
 ⟨some 3, .call ⟨.value (.func M.zco), #[T 2], #[N.zar]⟩, N.za, none, []⟩,
 ⟨some 4, .call ⟨.builtin .append, #[T 0, T 3], #[N.za, N.za]⟩, N.za, none, []⟩,
 ⟨some 5, .move (V 28), 0, none, []⟩,
 ⟨some 6, .call ⟨.builtin .len, #[T 5], #[N.za]⟩, N.ze, none, []⟩,
 ⟨some 7, .convert N.ze N.zar (T 6), 0, none, []⟩,
 ⟨some 8, .call ⟨.value (.func M.zco), #[T 7], #[N.zar]⟩, N.za, none, []⟩,
 ⟨some 9, .call ⟨.builtin .append, #[T 4, T 8], #[N.za, N.za]⟩, N.za, none, []⟩,
 ⟨some 10, .move (V 28), 0, none, []⟩,
 ⟨some 11, .call ⟨.builtin .append, #[T 9, T 10], #[N.za, N.za]⟩, N.za, none, []⟩,
 ⟨some (7+100), .assign (T 11), 0, none, []⟩]) (
 .ops [
 ⟨some 0, .move (V 8), 0, none, []⟩,
 ⟨some 1, .binOp .add N.ze (T 0) (.const (.int .i64 1)) N.ze, 0, none, []⟩,
 ⟨some (8+100), .assign (T 1), 0, none, []⟩]))) (
 .skip))))) (
 .ops [
 ⟨some 0, .binOp .add N.ze (V 23) (.const (.int .i64 1)) N.ze, 0, none, []⟩,
 ⟨some (23+100), .move (T 0), 0, none, []⟩]))))))))) (
 .ops [
 ⟨some 0, .binOp .add N.ze (V 18) (.const (.int .i64 1)) N.ze, 0, none, []⟩,
 ⟨some (18+100), .move (T 0), 0, none, []⟩]))))))) (
 .seq (
 .seq (
 .ops [
 ⟨some 0, .move (V 0), 0, none, []⟩,
 ⟨some 1, .fieldAddr N.zb (V 4) 4, 0, none, []⟩,
 ⟨some 2, .load N.zh (T 1), 0, none, []⟩,
 ⟨some (29+100), .call ⟨.value (.func M.zhi), #[T 0, T 2], #[M.zae, N.zh]⟩, N.zh, none, []⟩,
 ⟨some (30+100), .call ⟨.builtin .len, #[V 29], #[N.zh]⟩, N.ze, none, []⟩,
 ⟨some (31+100), .move (.const (.int .i64 0)), 0, none, []⟩]) (
 .block 6 (
 .loop (
 .seq (
 .ops [
 ⟨some (32+100), .binOp .lss N.ze (V 31) (V 30) N.ze, 0, none, []⟩]) (
 .seq (
 .cond 32 (
 .skip) (
 .exit 6)) (
 .seq (
 .block 7 (
 .seq (
 .ops [
 ⟨some 0, .indexAddr N.zh (V 29) (V 31), 0, none, []⟩,
 ⟨some 1, .load N.zz (T 0), 0, none, []⟩,
 ⟨some (33+100), .alloc N.zz, 0, none, []⟩,
 ⟨none, .store N.zz (V 33) (T 1), 0, none, []⟩]) (
 .seq (
 .ops [
 ⟨some 0, .fieldAddr N.zz (V 33) 1, 0, none, []⟩,
 ⟨some 1, .load N.za (T 0), 0, none, []⟩,
 ⟨some 2, .call ⟨.value (.func M.zdv), #[T 1], #[N.za]⟩, N.za, none, []⟩,
 ⟨some (34+100), .assign (T 2), 0, none, []⟩]) (
 .seq (
 .ops [
 ⟨some 0, .move (V 7), 0, none, []⟩,
 ⟨some 1, .fieldAddr N.zz (V 33) 0, 0, none, []⟩,
 ⟨some 2, .load N.zj (T 1), 0, none, []⟩,
 ⟨some 3, .convert N.zj N.zar (T 2), 0, none, []⟩,
 ⟨some 4, .call ⟨.value (.func M.zco), #[T 3], #[N.zar]⟩, N.za, none, []⟩,
 ⟨some 5, .call ⟨.builtin .append, #[T 0, T 4], #[N.za, N.za]⟩, N.za, none, []⟩,
 ⟨some 6, .move (V 34), 0, none, []⟩,
 ⟨some 7, .call ⟨.builtin .len, #[T 6], #[N.za]⟩, N.ze, none, []⟩,
 ⟨some 8, .convert N.ze N.zar (T 7), 0, none, []⟩,
 ⟨some 9, .call ⟨.value (.func M.zco), #[T 8], #[N.zar]⟩, N.za, none, []⟩,
 ⟨some 10, .call ⟨.builtin .append, #[T 5, T 9], #[N.za, N.za]⟩, N.za, none, []⟩,
 ⟨some 11, .move (V 34), 0, none, []⟩,
 ⟨some 12, .call ⟨.builtin .append, #[T 10, T 11], #[N.za, N.za]⟩, N.za, none, []⟩,
 ⟨some (7+100), .assign (T 12), 0, none, []⟩]) (
 .ops [
 ⟨some 0, .move (V 8), 0, none, []⟩,
 ⟨some 1, .binOp .add N.ze (T 0) (.const (.int .i64 1)) N.ze, 0, none, []⟩,
 ⟨some (8+100), .assign (T 1), 0, none, []⟩]))))) (
 .ops [
 ⟨some 0, .binOp .add N.ze (V 31) (.const (.int .i64 1)) N.ze, 0, none, []⟩,
 ⟨some (31+100), .move (T 0), 0, none, []⟩]))))))) (
 .seq (
 .ops [
 ⟨some 0, .move (V 6), 0, none, []⟩,
 ⟨some 1, .move (V 8), 0, none, []⟩,
 ⟨some 2, .convert N.ze N.zar (T 1), 0, none, []⟩,
 ⟨some 3, .call ⟨.value (.func M.zco), #[T 2], #[N.zar]⟩, N.za, none, []⟩,
 ⟨some 4, .call ⟨.builtin .append, #[T 0, T 3], #[N.za, N.za]⟩, N.za, none, []⟩,
 ⟨some 5, .move (V 7), 0, none, []⟩,
 ⟨some 6, .call ⟨.builtin .append, #[T 4, T 5], #[N.za, N.za]⟩, N.za, none, []⟩,
 ⟨some (5+100), .assign (T 6), 0, none, []⟩]) (
 .ret))))))))
def zpw (N : Nums) (M : zci) : C :=
 .seq (
 .ops [
 ⟨some (3+100), .box M.zaq (V 0), 0, none, []⟩,
 ⟨some (4+100), .box N.zb (V 2), 0, none, []⟩,
 ⟨some (5+100), .assign (.const (.slice none 0 0)), 0, none, []⟩]) (
 .seq (
 .ops [
 ⟨some 0, .fieldAddr M.zaq (V 3) 0, 0, none, []⟩,
 ⟨some 1, .load M.zae (T 0), 0, none, []⟩,
 ⟨some 2, .move (V 1), 0, none, []⟩,
 ⟨some 3, .fieldAddr M.zaq (V 3) 1, 0, none, []⟩,
 ⟨some 4, .load N.ze (T 3), 0, none, []⟩,
 ⟨some 5, .binOp .geq N.ze (T 4) (.const (.int .i64 0)) N.ze, 0, none, []⟩,
 ⟨some 6, .move (T 5), 0, none, []⟩,
 ⟨some 7, .move (V 1), 0, (some (some 6, true)), []⟩,
 ⟨some 8, .fieldAddr M.zaq (V 3) 1, 0, (some (some 6, true)), []⟩,
 ⟨some 9, .load N.ze (T 8), 0, (some (some 6, true)), []⟩,
 ⟨some 10, .binOp .geq N.ze (T 7) (T 9) N.ze, 0, (some (some 6, true)), []⟩,
 ⟨some 11, .pick (T 6) (T 10) (.const (.bool false)), 0, none, []⟩,
 ⟨some 12, .load N.zb (V 4), 0, none, []⟩,
 ⟨some 13, .call ⟨.value (.func M.zir), #[T 1, T 2, T 11, T 12], #[M.zae, N.ze, N.zah, N.zb]⟩, N.za, none, []⟩,
 ⟨some (5+100), .assign (T 13), 0, none, []⟩]) (
 .ret))
def zur (N : Nums) (M : zci) : C :=
 .seq (
 .ops [
 ⟨some (2+100), .assign (.const (.int .i64 0)), 0, none, []⟩]) (
 .seq (
 .seq (
 .ops [
 ⟨some (3+100), .move (V 0), 0, none, []⟩]) (
 .block 0 (
 .seq (
 .ops [
 ⟨some 0, .binOp .eql N.ze (V 3) (.const (.int .i64 0)) N.ze, 0, none, []⟩,
 ⟨some (4+100), .assign (T 0), 0, none, []⟩]) (
 .cond 4 (
 .seq (
 .ops [
 ⟨some 0, .move (V 1), 0, none, []⟩,
 ⟨some 1, .binOp .and N.zbe (T 0) (.const (.int .i64 1)) N.zbe, 0, none, []⟩,
 ⟨some (2+100), .assign (T 1), 0, none, []⟩]) (
 .ret)) (
 .seq (
 .ops [
 ⟨some 0, .binOp .eql N.ze (V 3) (.const (.int .i64 1)) N.ze, 0, none, []⟩,
 ⟨some (5+100), .assign (T 0), 0, none, []⟩]) (
 .cond 5 (
 .seq (
 .ops [
 ⟨some 0, .move (V 1), 0, none, []⟩,
 ⟨some 1, .convert N.zbe N.zih (T 0), 0, none, []⟩,
 ⟨some 2, .convert N.zih N.zbe (T 1), 0, none, []⟩,
 ⟨some (2+100), .assign (T 2), 0, none, []⟩]) (
 .ret)) (
 .seq (
 .ops [
 ⟨some 0, .binOp .eql N.ze (V 3) (.const (.int .i64 2)) N.ze, 0, none, []⟩,
 ⟨some (6+100), .assign (T 0), 0, none, []⟩]) (
 .cond 6 (
 .seq (
 .ops [
 ⟨some 0, .move (V 1), 0, none, []⟩,
 ⟨some 1, .convert N.zbe N.zce (T 0), 0, none, []⟩,
 ⟨some 2, .convert N.zce N.zbe (T 1), 0, none, []⟩,
 ⟨some (2+100), .assign (T 2), 0, none, []⟩]) (
 .ret)) (
 .seq (
 .ops [
 ⟨some 0, .binOp .eql N.ze (V 3) (.const (.int .i64 3)) N.ze, 0, none, []⟩,
 ⟨some (7+100), .assign (T 0), 0, none, []⟩]) (
 .cond 7 (
 .seq (
 .ops [
 ⟨some 0, .move (V 1), 0, none, []⟩,
 ⟨some 1, .convert N.zbe N.zcr (T 0), 0, none, []⟩,
 ⟨some 2, .convert N.zcr N.zbe (T 1), 0, none, []⟩,
 ⟨some (2+100), .assign (T 2), 0, none, []⟩]) (
 .ret)) (
 .seq (
 .ops [
 ⟨some 0, .binOp .eql N.ze (V 3) (.const (.int .i64 5)) N.ze, 0, none, []⟩,
 ⟨some (8+100), .assign (T 0), 0, none, []⟩]) (
 .cond 8 (
 .seq (
 .ops [
 ⟨some 0, .move (V 1), 0, none, []⟩,
 ⟨some 1, .convert N.zbe N.zfj (T 0), 0, none, []⟩,
 ⟨some 2, .convert N.zfj N.zbe (T 1), 0, none, []⟩,
 ⟨some (2+100), .assign (T 2), 0, none, []⟩]) (
 .ret)) (
 .skip))))))))))))) (
 .seq (
 .ops [
 ⟨some 0, .move (V 1), 0, none, []⟩,
 ⟨some (2+100), .assign (T 0), 0, none, []⟩]) (
 .ret)))
def zwn (N : Nums) (M : zci) : C :=
 .seq (
 .ops [
 ⟨some (2+100), .box N.zb (V 1), 0, none, []⟩,
 ⟨some (3+100), .assign (.const (.bool false)), 0, none, []⟩]) (
 .seq (
 .seq (
 .ops [
 ⟨some 0, .fieldAddr N.zb (V 2) 4, 0, none, []⟩,
 ⟨some 1, .load N.zh (T 0), 0, none, []⟩,
 ⟨some 2, .call ⟨.builtin .len, #[T 1], #[N.zh]⟩, N.ze, none, []⟩,
 ⟨some (4+100), .binOp .gtr N.ze (T 2) (.const (.int .i64 0)) N.ze, 0, none, []⟩]) (
 .cond 4 (
 .seq (
 .ops [
 ⟨some (3+100), .assign (.const (.bool false)), 0, none, []⟩]) (
 .ret)) (
 .skip))) (
 .seq (
 .seq (
 .ops [
 ⟨some (5+100), .move (V 0), 0, none, []⟩,
 ⟨some (6+100), .call ⟨.builtin .len, #[V 5], #[M.zae]⟩, N.ze, none, []⟩,
 ⟨some (7+100), .move (.const (.int .i64 0)), 0, none, []⟩]) (
 .block 0 (
 .loop (
 .seq (
 .ops [
 ⟨some (8+100), .binOp .lss N.ze (V 7) (V 6) N.ze, 0, none, []⟩]) (
 .seq (
 .cond 8 (
 .skip) (
 .exit 0)) (
 .seq (
 .block 1 (
 .seq (
 .ops [
 ⟨some 0, .move (V 7), 0, none, []⟩,
 ⟨some 1, .indexAddr M.zae (V 5) (V 7), 0, none, []⟩,
 ⟨some 2, .load M.zg (T 1), 0, none, []⟩,
 ⟨some (9+100), .alloc M.zg, 0, none, []⟩,
 ⟨some (10+100), .assign (T 0), 0, none, []⟩,
 ⟨none, .store M.zg (V 9) (T 2), 0, none, []⟩]) (
 .seq (
 .ops [
 ⟨some 0, .load N.zb (V 2), 0, none, []⟩,
 ⟨some 1, .move (V 10), 0, none, []⟩,
 ⟨some 2, .call ⟨.value (.func M.zgp), #[T 0, T 1], #[N.zb, N.ze]⟩, N.zb, none, []⟩,
 ⟨some (11+100), .alloc N.zb, 0, none, []⟩,
 ⟨none, .store N.zb (V 11) (T 2), 0, none, []⟩]) (
 .seq (
 .ops [
 ⟨some 0, .fieldAddr M.zg (V 9) 0, 0, none, []⟩,
 ⟨some (12+100), .load N.ze (T 0), 0, none, []⟩]) (
 .block 2 (
 .seq (
 .ops [
 ⟨some 0, .binOp .eql N.ze (V 12) (.const (.int .i64 8)) N.ze, 0, none, []⟩,
 ⟨some (13+100), .assign (T 0), 0, none, []⟩]) (
 .cond 13 (
 .seq (
 .ops [
 ⟨some 0, .fieldAddr N.zb (V 11) 2, 0, none, []⟩,
 ⟨some 1, .load N.zah (T 0), 0, none, []⟩,
 ⟨some 2, .fieldAddr M.zg (V 9) 3, 0, none, []⟩,
 ⟨some 3, .load N.ze (T 2), 0, none, []⟩,
 ⟨some 4, .binOp .geq N.ze (T 3) (.const (.int .i64 0)) N.ze, 0, none, []⟩,
 ⟨some 5, .binOp .neq N.zah (T 1) (T 4) N.zah, 0, none, []⟩,
 ⟨some 6, .move (T 5), 0, none, []⟩,
 ⟨some 7, .fieldAddr N.zb (V 11) 1, 0, (some (some 6, false)), []⟩,
 ⟨some 8, .load N.za (T 7), 0, (some (some 6, false)), []⟩,
 ⟨some 9, .call ⟨.builtin .len, #[T 8], #[N.za]⟩, N.ze, (some (some 6, false)), []⟩,
 ⟨some 10, .binOp .gtr N.ze (T 9) (.const (.int .i64 0)) N.ze, 0, (some (some 6, false)), []⟩,
 ⟨some (14+100), .pick (T 6) (.const (.bool true)) (T 10), 0, none, []⟩]) (
 .cond 14 (
 .seq (
 .ops [
 ⟨some (3+100), .assign (.const (.bool false)), 0, none, []⟩]) (
 .ret)) (
 .skip))) (
 .seq (
 .ops [
 ⟨some 0, .binOp .eql N.ze (V 12) (.const (.int .i64 7)) N.ze, 0, none, []⟩,
 ⟨some (15+100), .assign (T 0), 0, none, []⟩]) (
 .cond 15 (
 .seq (
 .draw [
 ⟨some 0, .fieldAddr N.zb (V 11) 1, 0, none, []⟩,
 ⟨some 1, .load N.za (T 0), 0, none, [0]⟩,
 ⟨some 2, .makeSlice N.za (.const (.int .i64 16)) (.const (.int .i64 16)), 0, none, []⟩,
 ⟨some 3, .call ⟨.value (.func N.zdc), #[T 1, T 2], #[N.za, N.za]⟩, N.zah, none, [1, 2]⟩,
 ⟨some (16+100), .unOp .not N.zah (T 3), 0, none, [3]⟩]) (
 .cond 16 (
 .seq (
 .ops [
 ⟨some (3+100), .assign (.const (.bool false)), 0, none, []⟩]) (
 .ret)) (
 .skip))) (
 .seq (
 .seq (
 .ops [
 ⟨some 0, .binOp .eql N.ze (V 12) (.const (.int .i64 9)) N.ze, 0, none, []⟩,
 ⟨some (17+100), .assign (T 0), 0, none, []⟩]) (
 .cond 17 (
 .skip) (
 .ops [
 ⟨some 0, .binOp .eql N.ze (V 12) (.const (.int .i64 11)) N.ze, 0, none, []⟩,
 ⟨some (17+100), .assign (T 0), 0, none, []⟩]))) (
 .cond 17 (
 .seq (
 .ops [
 ⟨some 0, .fieldAddr N.zb (V 11) 1, 0, none, []⟩,
 ⟨some 1, .load N.za (T 0), 0, none, []⟩,
 ⟨some 2, .call ⟨.builtin .len, #[T 1], #[N.za]⟩, N.ze, none, []⟩,
 ⟨some 3, .binOp .gtr N.ze (T 2) (.const (.int .i64 0)) N.ze, 0, none, []⟩,
 ⟨some 4, .move (T 3), 0, none, []⟩,
 ⟨some 5, .fieldAddr N.zb (V 11) 3, 0, (some (some 4, false)), []⟩,
 ⟨some 6, .load N.zk (T 5), 0, (some (some 4, false)), []⟩,
 ⟨some 7, .call ⟨.builtin .len, #[T 6], #[N.zk]⟩, N.ze, (some (some 4, false)), []⟩,
 ⟨some 8, .binOp .gtr N.ze (T 7) (.const (.int .i64 0)) N.ze, 0, (some (some 4, false)), []⟩,
 ⟨some (18+100), .pick (T 4) (.const (.bool true)) (T 8), 0, none, []⟩]) (
 .cond 18 (
 .seq (
 .ops [
 ⟨some (3+100), .assign (.const (.bool false)), 0, none, []⟩]) (
 .ret)) (
 .skip))) (
 .seq (
 .ops [
 ⟨some 0, .binOp .eql N.ze (V 12) (.const (.int .i64 10)) N.ze, 0, none, []⟩,
 ⟨some (19+100), .assign (T 0), 0, none, []⟩]) (
 .cond 19 (
 .seq (
 .ops [
 ⟨some 0, .fieldAddr M.zg (V 9) 3, 0, none, []⟩,
 ⟨some 1, .load N.ze (T 0), 0, none, []⟩,
 ⟨some 2, .binOp .geq N.ze (T 1) (.const (.int .i64 0)) N.ze, 0, none, []⟩,
 ⟨some 3, .move (T 2), 0, none, []⟩,
 ⟨some 4, .fieldAddr N.zb (V 11) 2, 0, (some (some 3, true)), []⟩,
 ⟨some 5, .load N.zah (T 4), 0, (some (some 3, true)), []⟩,
 ⟨some 6, .unOp .not N.zah (T 5), 0, (some (some 3, true)), []⟩,
 ⟨some 7, .pick (T 3) (T 6) (.const (.bool false)), 0, none, []⟩,
 ⟨some 8, .move (T 7), 0, none, []⟩,
 ⟨some 9, .fieldAddr M.zg (V 9) 3, 0, (some (some 8, false)), []⟩,
 ⟨some 10, .load N.ze (T 9), 0, (some (some 8, false)), []⟩,
 ⟨some 11, .binOp .lss N.ze (T 10) (.const (.int .i64 0)) N.ze, 0, (some (some 8, false)), []⟩,
 ⟨some 12, .move (T 11), 0, (some (some 8, false)), []⟩,
 ⟨some 13, .fieldAddr M.zg (V 9) 7, 0, (some (some 12, true)), []⟩,
 ⟨some 14, .load M.zae (T 13), 0, (some (some 12, true)), []⟩,
 ⟨some 15, .load N.zb (V 11), 0, (some (some 12, true)), []⟩,
 ⟨some 16, .call ⟨.value (.func M.zlk), #[T 14, T 15], #[M.zae, N.zb]⟩, N.zah, (some (some 12, true)), []⟩,
 ⟨some 17, .unOp .not N.zah (T 16), 0, (some (some 12, true)), []⟩,
 ⟨some 18, .pick (T 12) (T 17) (.const (.bool false)), 0, (some (some 8, false)), []⟩,
 ⟨some (20+100), .pick (T 8) (.const (.bool true)) (T 18), 0, none, []⟩]) (
 .cond 20 (
 .seq (
 .ops [
 ⟨some (3+100), .assign (.const (.bool false)), 0, none, []⟩]) (
 .ret)) (
 .skip))) (
 .seq (
 .draw [
 ⟨some 0, .fieldAddr N.zb (V 11) 0, 0, none, []⟩,
 ⟨some 1, .load N.zbe (T 0), 0, none, [0]⟩,
 ⟨some 2, .fieldAddr M.zg (V 9) 0, 0, none, []⟩,
 ⟨some 3, .load N.ze (T 2), 0, none, [2]⟩,
 ⟨some 4, .fieldAddr M.zg (V 9) 5, 0, none, []⟩,
 ⟨some 5, .load N.zbe (T 4), 0, none, [4]⟩,
 ⟨some 6, .call ⟨.value (.func M.zkn), #[T 3, T 5], #[N.ze, N.zbe]⟩, N.zbe, none, [3, 5]⟩,
 ⟨some (21+100), .binOp .neq N.zbe (T 1) (T 6) N.zbe, 0, none, [1, 6]⟩]) (
 .cond 21 (
 .seq (
 .ops [
 ⟨some (3+100), .assign (.const (.bool false)), 0, none, []⟩]) (
 .ret)) (
 .skip)))))))))))))))) (
 .ops [
 ⟨some 0, .binOp .add N.ze (V 7) (.const (.int .i64 1)) N.ze, 0, none, []⟩,
 ⟨some (7+100), .move (T 0), 0, none, []⟩]))))))) (
 .seq (
 .ops [
 ⟨some (3+100), .assign (.const (.bool true)), 0, none, []⟩]) (
 .ret))))
def zxx (N : Nums) (M : zci) : C :=
 .seq (
 .ops [
 ⟨some (5+100), .box M.zg (V 0), 0, none, []⟩,
 ⟨some (6+100), .box N.zb (V 3), 0, none, []⟩,
 ⟨some (7+100), .box N.zb (V 4), 0, none, []⟩,
 ⟨some (8+100), .assign (.const (.bool false)), 0, none, []⟩]) (
 .seq (
 .ops [
 ⟨some 0, .load M.zg (V 5), 0, none, []⟩,
 ⟨some 1, .move (V 1), 0, none, []⟩,
 ⟨some 2, .load N.zb (V 6), 0, none, []⟩,
 ⟨some 3, .call ⟨.value (.func M.zeo), #[T 0, T 1, T 2], #[M.zg, N.ze, N.zb]⟩, N.zah, none, []⟩,
 ⟨some (9+100), .assign (T 3), 0, none, []⟩]) (
 .seq (
 .ops [
 ⟨some 0, .fieldAddr M.zg (V 5) 3, 0, none, []⟩,
 ⟨some 1, .load N.ze (T 0), 0, none, []⟩,
 ⟨some 2, .binOp .geq N.ze (T 1) (.const (.int .i64 0)) N.ze, 0, none, []⟩,
 ⟨some 3, .move (T 2), 0, none, []⟩,
 ⟨some 4, .move (V 1), 0, (some (some 3, true)), []⟩,
 ⟨some 5, .fieldAddr M.zg (V 5) 3, 0, (some (some 3, true)), []⟩,
 ⟨some 6, .load N.ze (T 5), 0, (some (some 3, true)), []⟩,
 ⟨some 7, .binOp .geq N.ze (T 4) (T 6) N.ze, 0, (some (some 3, true)), []⟩,
 ⟨some 8, .pick (T 3) (T 7) (.const (.bool false)), 0, none, []⟩,
 ⟨some (10+100), .assign (T 8), 0, none, []⟩]) (
 .seq (
 .seq (
 .ops [
 ⟨some 0, .fieldAddr M.zg (V 5) 0, 0, none, []⟩,
 ⟨some 1, .load N.ze (T 0), 0, none, []⟩,
 ⟨some 2, .binOp .eql N.ze (T 1) (.const (.int .i64 8)) N.ze, 0, none, []⟩,
 ⟨some 3, .move (T 2), 0, none, []⟩,
 ⟨some 4, .fieldAddr M.zg (V 5) 0, 0, (some (some 3, false)), []⟩,
 ⟨some 5, .load N.ze (T 4), 0, (some (some 3, false)), []⟩,
 ⟨some 6, .binOp .eql N.ze (T 5) (.const (.int .i64 10)) N.ze, 0, (some (some 3, false)), []⟩,
 ⟨some 7, .pick (T 3) (.const (.bool true)) (T 6), 0, none, []⟩,
 ⟨some 8, .move (T 7), 0, none, []⟩,
 ⟨some 9, .move (V 10), 0, (some (some 8, false)), []⟩,
 ⟨some 10, .pick (T 8) (.const (.bool true)) (T 9), 0, none, []⟩,
 ⟨some 11, .move (T 10), 0, none, []⟩,
 ⟨some 12, .fieldAddr N.zb (V 7) 2, 0, (some (some 11, true)), []⟩,
 ⟨some 13, .load N.zah (T 12), 0, (some (some 11, true)), []⟩,
 ⟨some 14, .move (V 9), 0, (some (some 11, true)), []⟩,
 ⟨some 15, .binOp .neq N.zah (T 13) (T 14) N.zah, 0, (some (some 11, true)), []⟩,
 ⟨some (11+100), .pick (T 11) (T 15) (.const (.bool false)), 0, none, []⟩]) (
 .cond 11 (
 .seq (
 .ops [
 ⟨some (8+100), .assign (.const (.bool false)), 0, none, []⟩]) (
 .ret)) (
 .skip))) (
 .seq (
 .seq (
 .ops [
 ⟨some (12+100), .move (V 9), 0, none, []⟩]) (
 .cond 12 (
 .seq (
 .ops [
 ⟨some (8+100), .assign (.const (.bool true)), 0, none, []⟩]) (
 .ret)) (
 .skip))) (
 .seq (
 .seq (
 .ops [
 ⟨some 0, .fieldAddr M.zg (V 5) 0, 0, none, []⟩,
 ⟨some (13+100), .load N.ze (T 0), 0, none, []⟩]) (
 .block 0 (
 .seq (
 .seq (
 .ops [
 ⟨some 0, .binOp .eql N.ze (V 13) (.const (.int .i64 8)) N.ze, 0, none, []⟩,
 ⟨some (14+100), .assign (T 0), 0, none, []⟩]) (
 .cond 14 (
 .skip) (
 .ops [
 ⟨some 0, .binOp .eql N.ze (V 13) (.const (.int .i64 9)) N.ze, 0, none, []⟩,
 ⟨some (14+100), .assign (T 0), 0, none, []⟩]))) (
 .cond 14 (
 .seq (
 .draw [
 ⟨some 0, .fieldAddr N.zb (V 7) 1, 0, none, []⟩,
 ⟨some 1, .load N.za (T 0), 0, none, [0]⟩,
 ⟨some 2, .fieldAddr N.zb (V 6) 1, 0, none, []⟩,
 ⟨some 3, .load N.za (T 2), 0, none, [2]⟩,
 ⟨some 4, .call ⟨.value (.func M.zdv), #[T 3], #[N.za]⟩, N.za, none, [3]⟩,
 ⟨some 5, .call ⟨.value (.func N.zdc), #[T 1, T 4], #[N.za, N.za]⟩, N.zah, none, [1, 4, 4]⟩,
 ⟨some (8+100), .assign (T 5), 0, none, [5, 5, 0, 1, 2, 3, 4, 5]⟩]) (
 .ret)) (
 .seq (
 .ops [
 ⟨some 0, .binOp .eql N.ze (V 13) (.const (.int .i64 7)) N.ze, 0, none, []⟩,
 ⟨some (15+100), .assign (T 0), 0, none, []⟩]) (
 .cond 15 (
 .seq (
 .ops [
 ⟨some 0, .makeSlice N.za (.const (.int .i64 16)) (.const (.int .i64 16)), 0, none, []⟩,
 ⟨some (16+100), .assign (T 0), 0, none, []⟩]) (
 .seq (
 .ops [
 ⟨some 0, .move (V 16), 0, none, []⟩,
 ⟨some 1, .fieldAddr N.zb (V 6) 1, 0, none, []⟩,
 ⟨some 2, .load N.za (T 1), 0, none, []⟩,
 ⟨some 3, .call ⟨.builtin .copy, #[T 0, T 2], #[N.za, N.za]⟩, N.ze, none, []⟩]) (
 .seq (
 .ops [
 ⟨some 0, .fieldAddr N.zb (V 7) 1, 0, none, []⟩,
 ⟨some 1, .load N.za (T 0), 0, none, []⟩,
 ⟨some 2, .move (V 16), 0, none, []⟩,
 ⟨some 3, .call ⟨.value (.func N.zdc), #[T 1, T 2], #[N.za, N.za]⟩, N.zah, none, []⟩,
 ⟨some (8+100), .assign (T 3), 0, none, []⟩]) (
 .ret)))) (
 .seq (
 .ops [
 ⟨some 0, .binOp .eql N.ze (V 13) (.const (.int .i64 10)) N.ze, 0, none, []⟩,
 ⟨some (17+100), .assign (T 0), 0, none, []⟩]) (
 .cond 17 (
 .seq (
 .ops [
 ⟨some 0, .fieldAddr M.zg (V 5) 7, 0, none, []⟩,
 ⟨some 1, .load M.zae (T 0), 0, none, []⟩,
 ⟨some 2, .move (V 1), 0, none, []⟩,
 ⟨some 3, .move (V 2), 0, none, []⟩,
 ⟨some 4, .load N.zb (V 6), 0, none, []⟩,
 ⟨some 5, .load N.zb (V 7), 0, none, []⟩,
 ⟨some 6, .call ⟨.value (.func M.zrk), #[T 1, T 2, T 3, T 4, T 5], #[M.zae, N.ze, N.zah, N.zb, N.zb]⟩, N.zah, none, []⟩,
 ⟨some (8+100), .assign (T 6), 0, none, []⟩]) (
 .ret)) (
 .seq (
 .ops [
 ⟨some 0, .binOp .eql N.ze (V 13) (.const (.int .i64 11)) N.ze, 0, none, []⟩,
 ⟨some (18+100), .assign (T 0), 0, none, []⟩]) (
 .cond 18 (
 .seq (
 .ops [
 ⟨some 0, .fieldAddr N.zb (V 6) 3, 0, none, []⟩,
 ⟨some 1, .load N.zk (T 0), 0, none, []⟩,
 ⟨some 2, .call ⟨.value (.func M.zgo), #[T 1], #[N.zk]⟩, N.zk, none, []⟩,
 ⟨some (19+100), .assign (T 2), 0, none, []⟩]) (
 .seq (
 .seq (
 .ops [
 ⟨some 0, .fieldAddr N.zb (V 7) 3, 0, none, []⟩,
 ⟨some 1, .load N.zk (T 0), 0, none, []⟩,
 ⟨some 2, .call ⟨.builtin .len, #[T 1], #[N.zk]⟩, N.ze, none, []⟩,
 ⟨some 3, .move (V 19), 0, none, []⟩,
 ⟨some 4, .call ⟨.builtin .len, #[T 3], #[N.zk]⟩, N.ze, none, []⟩,
 ⟨some (20+100), .binOp .neq N.ze (T 2) (T 4) N.ze, 0, none, []⟩]) (
 .cond 20 (
 .seq (
 .ops [
 ⟨some (8+100), .assign (.const (.bool false)), 0, none, []⟩]) (
 .ret)) (
 .skip))) (
 .seq (
 .ops [
 ⟨some 0, .load M.zg (V 5), 0, none, []⟩,
 ⟨some (21+100), .alloc M.zg, 0, none, []⟩,
 ⟨none, .store M.zg (V 21) (T 0), 0, none, []⟩]) (
 .seq (
 .ops [
 ⟨some 0, .fieldAddr M.zg (V 5) 6, 0, none, []⟩,
 ⟨some 1, .load N.ze (T 0), 0, none, []⟩,
 ⟨some 2, .fieldAddr M.zg (V 21) 0, 0, none, []⟩,
 ⟨none, .store N.ze (T 2) (T 1), 0, none, []⟩,
 ⟨some 3, .fieldAddr M.zg (V 21) 3, 0, none, []⟩,
 ⟨none, .store N.ze (T 3) (.const (.int .i64 (-1))), 0, none, []⟩,
 ⟨some 4, .fieldAddr M.zg (V 21) 4, 0, none, []⟩,
 ⟨none, .store N.ze (T 4) (.const (.int .i64 (-1))), 0, none, []⟩]) (
 .seq (
 .seq (
 .ops [
 ⟨some 0, .move (V 19), 0, none, []⟩,
 ⟨some (22+100), .call ⟨.builtin .len, #[T 0], #[N.zk]⟩, N.ze, none, []⟩,
 ⟨some (23+100), .move (.const (.int .i64 0)), 0, none, []⟩]) (
 .block 1 (
 .loop (
 .seq (
 .ops [
 ⟨some (24+100), .binOp .lss N.ze (V 23) (V 22) N.ze, 0, none, []⟩]) (
 .seq (
 .cond 24 (
 .skip) (
 .exit 1)) (
 .seq (
 .block 2 (
 .seq (
 .ops [
 ⟨some 0, .move (V 23), 0, none, []⟩,
 ⟨some (25+100), .assign (T 0), 0, none, []⟩]) (
 .seq (
 .draw [
 ⟨some 0, .load M.zg (V 21), 0, none, []⟩,
 ⟨some 1, .move (V 1), 0, none, []⟩,
 ⟨some 2, .move (V 2), 0, none, []⟩,
 ⟨some 3, .move (V 19), 0, none, []⟩,
 ⟨some 4, .move (V 25), 0, none, []⟩,
 ⟨some 5, .indexAddr N.zk (T 3) (T 4), 0, none, [3, 4]⟩,
 ⟨some 6, .load N.zb (T 5), 0, none, [5]⟩,
 ⟨some 7, .fieldAddr N.zb (V 7) 3, 0, none, []⟩,
 ⟨some 8, .load N.zk (T 7), 0, none, [7]⟩,
 ⟨some 9, .move (V 25), 0, none, []⟩,
 ⟨some 10, .indexAddr N.zk (T 8) (T 9), 0, none, [8, 9]⟩,
 ⟨some 11, .load N.zb (T 10), 0, none, [10]⟩,
 ⟨some 12, .call ⟨.value (.func M.zno), #[T 0, T 1, T 2, T 6, T 11], #[M.zg, N.ze, N.zah, N.zb, N.zb]⟩, N.zah, none, [0, 1, 2, 6, 11]⟩,
 ⟨some (26+100), .unOp .not N.zah (T 12), 0, none, [12]⟩]) (
 .cond 26 (
 .seq (
 .ops [
 ⟨some (8+100), .assign (.const (.bool false)), 0, none, []⟩]) (
 .ret)) (
 .skip))))) (
 .ops [
 ⟨some 0, .binOp .add N.ze (V 23) (.const (.int .i64 1)) N.ze, 0, none, []⟩,
 ⟨some (23+100), .move (T 0), 0, none, []⟩]))))))) (
 .seq (
 .ops [
 ⟨some (8+100), .assign (.const (.bool true)), 0, none, []⟩]) (
 .ret))))))) (
 .skip))))))))))) (
 .seq (
 .draw [
 ⟨some 0, .fieldAddr N.zb (V 7) 0, 0, none, []⟩,
 ⟨some 1, .load N.zbe (T 0), 0, none, [0]⟩,
 ⟨some 2, .fieldAddr M.zg (V 5) 0, 0, none, []⟩,
 ⟨some 3, .load N.ze (T 2), 0, none, [2]⟩,
 ⟨some 4, .fieldAddr N.zb (V 6) 0, 0, none, []⟩,
 ⟨some 5, .load N.zbe (T 4), 0, none, [4]⟩,
 ⟨some 6, .call ⟨.value (.func M.zkn), #[T 3, T 5], #[N.ze, N.zbe]⟩, N.zbe, none, [3, 5]⟩,
 ⟨some 7, .binOp .eql N.zbe (T 1) (T 6) N.zbe, 0, none, [1, 6]⟩,
 ⟨some (8+100), .assign (T 7), 0, none, [7, 6, 0, 1, 2, 3, 4, 5, 6, 7]⟩]) (
 .ret)))))))
def zxy (N : Nums) (M : zci) : C :=
 .seq (
 .ops [
 ⟨some (5+100), .box N.zb (V 3), 0, none, []⟩,
 ⟨some (6+100), .box N.zb (V 4), 0, none, []⟩,
 ⟨some (7+100), .assign (.const (.bool false)), 0, none, []⟩]) (
 .seq (
 .seq (
 .ops [
 ⟨some 0, .fieldAddr N.zb (V 6) 3, 0, none, []⟩,
 ⟨some 1, .load N.zk (T 0), 0, none, []⟩,
 ⟨some 2, .call ⟨.builtin .len, #[T 1], #[N.zk]⟩, N.ze, none, []⟩,
 ⟨some 3, .move (V 0), 0, none, []⟩,
 ⟨some 4, .call ⟨.builtin .len, #[T 3], #[M.zae]⟩, N.ze, none, []⟩,
 ⟨some (8+100), .binOp .neq N.ze (T 2) (T 4) N.ze, 0, none, []⟩]) (
 .cond 8 (
 .seq (
 .ops [
 ⟨some (7+100), .assign (.const (.bool false)), 0, none, []⟩]) (
 .ret)) (
 .skip))) (
 .seq (
 .seq (
 .ops [
 ⟨some (9+100), .move (V 0), 0, none, []⟩,
 ⟨some (10+100), .call ⟨.builtin .len, #[V 9], #[M.zae]⟩, N.ze, none, []⟩,
 ⟨some (11+100), .move (.const (.int .i64 0)), 0, none, []⟩]) (
 .block 0 (
 .loop (
 .seq (
 .ops [
 ⟨some (12+100), .binOp .lss N.ze (V 11) (V 10) N.ze, 0, none, []⟩]) (
 .seq (
 .cond 12 (
 .skip) (
 .exit 0)) (
 .seq (
 .block 1 (
 .seq (
 .ops [
 ⟨some 0, .move (V 11), 0, none, []⟩,
 ⟨some 1, .indexAddr M.zae (V 9) (V 11), 0, none, []⟩,
 ⟨some 2, .load M.zg (T 1), 0, none, []⟩,
 ⟨some (13+100), .alloc M.zg, 0, none, []⟩,
 ⟨some (14+100), .assign (T 0), 0, none, []⟩,
 ⟨none, .store M.zg (V 13) (T 2), 0, none, []⟩]) (
 .seq (
 .ops [
 ⟨some 0, .load N.zb (V 5), 0, none, []⟩,
 ⟨some 1, .move (V 14), 0, none, []⟩,
 ⟨some 2, .call ⟨.value (.func M.zgp), #[T 0, T 1], #[N.zb, N.ze]⟩, N.zb, none, []⟩,
 ⟨some (15+100), .alloc N.zb, 0, none, []⟩,
 ⟨none, .store N.zb (V 15) (T 2), 0, none, []⟩]) (
 .seq (
 .seq (
 .ops [
 ⟨some 0, .fieldAddr M.zg (V 13) 4, 0, none, []⟩,
 ⟨some 1, .load N.ze (T 0), 0, none, []⟩,
 ⟨some 2, .binOp .lss N.ze (T 1) (.const (.int .i64 0)) N.ze, 0, none, []⟩,
 ⟨some 3, .move (T 2), 0, none, []⟩,
 ⟨some 4, .load M.zg (V 13), 0, (some (some 3, true)), []⟩,
 ⟨some 5, .move (V 1), 0, (some (some 3, true)), []⟩,
 ⟨some 6, .call ⟨.value (.func M.zed), #[T 4, T 5], #[M.zg, N.ze]⟩, N.zah, (some (some 3, true)), []⟩,
 ⟨some 7, .pick (T 3) (T 6) (.const (.bool false)), 0, none, []⟩,
 ⟨some 8, .move (T 7), 0, none, []⟩,
 ⟨some 9, .fieldAddr M.zg (V 13) 4, 0, (some (some 8, false)), []⟩,
 ⟨some 10, .load N.ze (T 9), 0, (some (some 8, false)), []⟩,
 ⟨some 11, .binOp .geq N.ze (T 10) (.const (.int .i64 0)) N.ze, 0, (some (some 8, false)), []⟩,
 ⟨some 12, .move (T 11), 0, (some (some 8, false)), []⟩,
 ⟨some 13, .move (V 2), 0, (some (some 12, true)), []⟩,
 ⟨some 14, .pick (T 12) (T 13) (.const (.bool false)), 0, (some (some 8, false)), []⟩,
 ⟨some 15, .move (T 14), 0, (some (some 8, false)), []⟩,
 ⟨some 16, .load M.zg (V 13), 0, (some (some 15, true)), []⟩,
 ⟨some 17, .load N.zb (V 15), 0, (some (some 15, true)), []⟩,
 ⟨some 18, .call ⟨.value (.func M.zpr), #[T 16, T 17], #[M.zg, N.zb]⟩, N.zah, (some (some 15, true)), []⟩,
 ⟨some 19, .unOp .not N.zah (T 18), 0, (some (some 15, true)), []⟩,
 ⟨some 20, .pick (T 15) (T 19) (.const (.bool false)), 0, (some (some 8, false)), []⟩,
 ⟨some (16+100), .pick (T 8) (.const (.bool true)) (T 20), 0, none, []⟩]) (
 .cond 16 (
 .seq (
 .seq (
 .draw [
 ⟨some 0, .load M.zg (V 13), 0, none, []⟩,
 ⟨some 1, .move (V 1), 0, none, []⟩,
 ⟨some 2, .move (V 2), 0, none, []⟩,
 ⟨some 3, .load N.zb (V 15), 0, none, []⟩,
 ⟨some 4, .fieldAddr N.zb (V 6) 3, 0, none, []⟩,
 ⟨some 5, .load N.zk (T 4), 0, none, [4]⟩,
 ⟨some 6, .move (V 14), 0, none, []⟩,
 ⟨some 7, .indexAddr N.zk (T 5) (T 6), 0, none, [5, 6]⟩,
 ⟨some 8, .load N.zb (T 7), 0, none, [7]⟩,
 ⟨some 9, .call ⟨.value (.func M.zno), #[T 0, T 1, T 2, T 3, T 8], #[M.zg, N.ze, N.zah, N.zb, N.zb]⟩, N.zah, none, [0, 1, 2, 3, 8]⟩,
 ⟨some (17+100), .unOp .not N.zah (T 9), 0, none, [9]⟩]) (
 .cond 17 (
 .seq (
 .ops [
 ⟨some (7+100), .assign (.const (.bool false)), 0, none, []⟩]) (
 .ret)) (
 .skip))) (
 .exit 1)) (
 .skip))) (
 .seq (
 .draw [
 ⟨some 0, .load M.zg (V 13), 0, none, []⟩,
 ⟨some 1, .buildSlice M.zae 1 #[(0, (T 0))], 0, none, [0]⟩,
 ⟨some 2, .fieldAddr N.zb (V 6) 3, 0, none, []⟩,
 ⟨some 3, .load N.zk (T 2), 0, none, [2]⟩,
 ⟨some 4, .move (V 14), 0, none, []⟩,
 ⟨some 5, .indexAddr N.zk (T 3) (T 4), 0, none, [3, 4]⟩,
 ⟨some 6, .load N.zb (T 5), 0, none, [5]⟩,
 ⟨some 7, .buildSlice N.zk 1 #[(0, (T 6))], 0, none, [6]⟩,
 ⟨some 8, .build N.zb #[(3, (T 7))], 0, none, [7]⟩,
 ⟨some 9, .call ⟨.value (.func M.zlk), #[T 1, T 8], #[M.zae, N.zb]⟩, N.zah, none, [1, 8]⟩,
 ⟨some (18+100), .unOp .not N.zah (T 9), 0, none, [9]⟩]) (
 .cond 18 (
 .seq (
 .ops [
 ⟨some (7+100), .assign (.const (.bool false)), 0, none, []⟩]) (
 .ret)) (
 .skip))))))) (
 .ops [
 ⟨some 0, .binOp .add N.ze (V 11) (.const (.int .i64 1)) N.ze, 0, none, []⟩,
 ⟨some (11+100), .move (T 0), 0, none, []⟩]))))))) (
 .seq (
 .ops [
 ⟨some 0, .move (V 0), 0, none, []⟩,
 ⟨some 1, .fieldAddr N.zb (V 5) 4, 0, none, []⟩,
 ⟨some 2, .load N.zh (T 1), 0, none, []⟩,
 ⟨some 3, .call ⟨.value (.func M.zhi), #[T 0, T 2], #[M.zae, N.zh]⟩, N.zh, none, []⟩,
 ⟨some (19+100), .assign (T 3), 0, none, []⟩]) (
 .seq (
 .seq (
 .ops [
 ⟨some 0, .move (V 2), 0, none, []⟩,
 ⟨some (20+100), .unOp .not N.zah (T 0), 0, none, []⟩]) (
 .cond 20 (
 .ops [
 ⟨some (19+100), .assign (.const (.slice none 0 0)), 0, none, []⟩]) (
 .skip))) (
 .seq (
 .seq (
 .ops [
 ⟨some 0, .fieldAddr N.zb (V 6) 4, 0, none, []⟩,
 ⟨some 1, .load N.zh (T 0), 0, none, []⟩,
 ⟨some 2, .call ⟨.builtin .len, #[T 1], #[N.zh]⟩, N.ze, none, []⟩,
 ⟨some 3, .move (V 19), 0, none, []⟩,
 ⟨some 4, .call ⟨.builtin .len, #[T 3], #[N.zh]⟩, N.ze, none, []⟩,
 ⟨some (21+100), .binOp .neq N.ze (T 2) (T 4) N.ze, 0, none, []⟩]) (
 .cond 21 (
 .seq (
 .ops [
 ⟨some (7+100), .assign (.const (.bool false)), 0, none, []⟩]) (
 .ret)) (
 .skip))) (
 .seq (
 .seq (
 .ops [
 ⟨some (22+100), .move (V 19), 0, none, []⟩,
 ⟨some (23+100), .call ⟨.builtin .len, #[V 22], #[N.zh]⟩, N.ze, none, []⟩,
 ⟨some (24+100), .move (.const (.int .i64 0)), 0, none, []⟩]) (
 .block 2 (
 .loop (
 .seq (
 .ops [
 ⟨some (25+100), .binOp .lss N.ze (V 24) (V 23) N.ze, 0, none, []⟩]) (
 .seq (
 .cond 25 (
 .skip) (
 .exit 2)) (
 .seq (
 .block 3 (
 .seq (
 .ops [
 ⟨some 0, .move (V 24), 0, none, []⟩,
 ⟨some 1, .indexAddr N.zh (V 22) (V 24), 0, none, []⟩,
 ⟨some 2, .load N.zz (T 1), 0, none, []⟩,
 ⟨some (26+100), .alloc N.zz, 0, none, []⟩,
 ⟨some (27+100), .assign (T 0), 0, none, []⟩,
 ⟨none, .store N.zz (V 26) (T 2), 0, none, []⟩]) (
 .seq (
 .draw [
 ⟨some 0, .fieldAddr N.zb (V 6) 4, 0, none, []⟩,
 ⟨some 1, .load N.zh (T 0), 0, none, [0]⟩,
 ⟨some 2, .move (V 27), 0, none, []⟩,
 ⟨some 3, .indexAddr N.zh (T 1) (T 2), 0, none, [1, 2]⟩,
 ⟨some 4, .fieldAddr N.zz (T 3) 0, 0, none, [3]⟩,
 ⟨some 5, .load N.zj (T 4), 0, none, [4]⟩,
 ⟨some 6, .fieldAddr N.zz (V 26) 0, 0, none, []⟩,
 ⟨some 7, .load N.zj (T 6), 0, none, [6]⟩,
 ⟨some 8, .binOp .neq N.zj (T 5) (T 7) N.zj, 0, none, [5, 7]⟩,
 ⟨some 9, .move (T 8), 0, none, [8]⟩,
 ⟨some 10, .fieldAddr N.zb (V 6) 4, 0, (some (some 9, false)), [9]⟩,
 ⟨some 11, .load N.zh (T 10), 0, (some (some 9, false)), [10, 9]⟩,
 ⟨some 12, .move (V 27), 0, (some (some 9, false)), [9]⟩,
 ⟨some 13, .indexAddr N.zh (T 11) (T 12), 0, (some (some 9, false)), [11, 12, 9]⟩,
 ⟨some 14, .fieldAddr N.zz (T 13) 1, 0, (some (some 9, false)), [13, 9]⟩,
 ⟨some 15, .load N.za (T 14), 0, (some (some 9, false)), [14, 9]⟩,
 ⟨some 16, .fieldAddr N.zz (V 26) 1, 0, (some (some 9, false)), [9]⟩,
 ⟨some 17, .load N.za (T 16), 0, (some (some 9, false)), [16, 9]⟩,
 ⟨some 18, .call ⟨.value (.func M.zdv), #[T 17], #[N.za]⟩, N.za, (some (some 9, false)), [17, 9, 9]⟩,
 ⟨some 19, .call ⟨.value (.func N.zdc), #[T 15, T 18], #[N.za, N.za]⟩, N.zah, (some (some 9, false)), [15, 18, 18, 9]⟩,
 ⟨some 20, .unOp .not N.zah (T 19), 0, (some (some 9, false)), [19, 9]⟩,
 ⟨some (28+100), .pick (T 9) (.const (.bool true)) (T 20), 0, none, [9, 20]⟩]) (
 .cond 28 (
 .seq (
 .ops [
 ⟨some (7+100), .assign (.const (.bool false)), 0, none, []⟩]) (
 .ret)) (
 .skip))))) (
 .ops [
 ⟨some 0, .binOp .add N.ze (V 24) (.const (.int .i64 1)) N.ze, 0, none, []⟩,
 ⟨some (24+100), .move (T 0), 0, none, []⟩]))))))) (
 .seq (
 .ops [
 ⟨some (7+100), .assign (.const (.bool true)), 0, none, []⟩]) (
 .ret))))))))
def zkq (N : Nums) (M : zci) : C :=
 .seq (
 .ops [
 ⟨some (2+100), .box M.zaq (V 0), 0, none, []⟩,
 ⟨some (3+100), .assign (.const (.bool false)), 0, none, []⟩]) (
 .seq (
 .ops [
 ⟨some 0, .fieldAddr M.zaq (V 2) 1, 0, none, []⟩,
 ⟨some 1, .load N.ze (T 0), 0, none, []⟩,
 ⟨some 2, .binOp .geq N.ze (T 1) (.const (.int .i64 0)) N.ze, 0, none, []⟩,
 ⟨some 3, .move (T 2), 0, none, []⟩,
 ⟨some 4, .move (V 1), 0, (some (some 3, true)), []⟩,
 ⟨some 5, .fieldAddr M.zaq (V 2) 1, 0, (some (some 3, true)), []⟩,
 ⟨some 6, .load N.ze (T 5), 0, (some (some 3, true)), []⟩,
 ⟨some 7, .binOp .geq N.ze (T 4) (T 6) N.ze, 0, (some (some 3, true)), []⟩,
 ⟨some 8, .pick (T 3) (T 7) (.const (.bool false)), 0, none, []⟩,
 ⟨some (3+100), .assign (T 8), 0, none, []⟩]) (
 .ret))
structure SZ (P : Program) (N : Nums) (M : zci) : Prop where
 zzFits3 : FOk P M.zwf 1 (c_zzFits3 N M) [.var 2]
 zzFits2 : FOk P M.zwg 1 (c_zzFits2 N M) [.var 1]
 zzFits1 : FOk P M.f_zzFits1 1 (c_zzFits1 N M) [.var 2]
structure SW (P : Program) (N : Nums) (M : zci) : Prop where
 Field_has : FOk P M.zed 2 (zhs N M) [.var 3]
 Field_null : FOk P M.zeo 3 (zhf N M) [.var 5]
 whole : FOk P M.zdv 1 (zlp N M) [.var 1]
 things : FOk P M.zgo 1 (zkp N M) [.var 1]
 at_ : FOk P M.zgp 2 (zrp N M) [.cell 3 N.zb]
 Uvarint : FOk P M.zco 1 (zhj N M) [.var 1]
 Fixed : FOk P M.zdw 2 (zjf N M) [.var 2]
 width : FOk P M.zje 1 (zlo N M) [.var 1]
 counted : FOk P M.zdp 4 (zjo N M) [.var 4]
 value : FOk P M.zho 6 (zpu N M) [.var 7]
 field : FOk P M.zhq 4 (zpv N M) [.var 6]
 known : FOk P M.zhp 1 (zlq N M) [.var 1]
 unknown : FOk P M.zhi 2 (zmv N M) [.var 2]
 part : FOk P M.zir 4 (zro N M) [.var 5]
 Write : FOk P M.zlj 3 (zpw N M) [.var 5]
structure STo (P : Program) (N : Nums) (M : zci) : Prop where
 number : FOk P M.zkn 2 (zur N M) [.var 2]
 Usual : FOk P M.zlk 2 (zwn N M) [.var 3]
 told : FOk P M.zno 5 (zxx N M) [.var 8]
 Told : FOk P M.zrk 5 (zxy N M) [.var 7]
 Message_Flexible : FOk P M.zko 2 (zkq N M) [.var 3]
 n8 : N.zih ≠ 0
inductive Fld where
 | mk (kind frm to null tag dflt of : Int) (sub : List Fld)
def Fld.kind : Fld → Int | .mk k .. => k
def Fld.frm : Fld → Int | .mk _ f .. => f
def Fld.to : Fld → Int | .mk _ _ t .. => t
def Fld.null : Fld → Int | .mk _ _ _ n .. => n
def Fld.tag : Fld → Int | .mk _ _ _ _ g .. => g
def Fld.dflt : Fld → Int | .mk _ _ _ _ _ d .. => d
def Fld.of : Fld → Int | .mk _ _ _ _ _ _ o _ => o
def Fld.sub : Fld → List Fld | .mk _ _ _ _ _ _ _ s => s
def most : Nat := 32767
def Tr.n : Tr → Int | .mk n .. => n
def Tr.s : Tr → List UInt8 | .mk _ s .. => s
def Tr.nl : Tr → Bool | .mk _ _ b .. => b
def Tr.l : Tr → List Tr | .mk _ _ _ l _ => l
def Tr.u : Tr → List (Nat × List UInt8) | .mk _ _ _ _ u => u
def tr0 : Tr := .mk 0 [] false [] []
def Fld.has (f : Fld) (v : Int) : Bool := decide (f.frm ≤ v) && (decide (f.to < 0) || decide (v ≤ f.to))
def Fld.nullB (f : Fld) (v : Int) (t : Tr) : Bool := t.nl && decide (0 ≤ f.null) && decide (f.null ≤ v)
def zbz (s : List UInt8) : List UInt8 := s.take most
def zei (l : List Tr) : List Tr := l.take most
def atT (t : Tr) (i : Nat) : Tr := t.l.getD i tr0
def uvB (n : Nat) : List UInt8 := if n < 128 then [UInt8.ofNat n] else UInt8.ofNat (n % 128 + 128) :: uvB (n / 128)
termination_by n
def fixB (n : Int) : Nat → List UInt8
 | 0 => []
 | k + 1 => UInt8.ofNat (IntKind.u8.wrap (n.fdiv (2 ^ (8 * k)))).toNat :: fixB n k
def zgh (k : Int) : Nat := if k = 1 then 1 else if k = 2 ∨ k = 5 then 2 else if k = 3 then 4 else 8
def zby (flex null : Bool) (n size : Nat) : List UInt8 := if flex && null then [0] else if flex then uvB (n + 1) else if null then fixB (-1) size else fixB n size
def insT (k : Nat) (x : List UInt8) : List (Nat × List UInt8) → List (Nat × List UInt8)
 | [] => [(k, x)]
 | (k', y) :: r => if k' < k then (k', y) :: insT k x r else if k' = k then (k', y) :: r else (k, x) :: (k', y) :: r
def unkT (u : List (Nat × List UInt8)) : List (Nat × List UInt8) := (u.take most).foldl (fun a x => insT x.1 x.2 a) []
def tagB (x : Nat × List UInt8) : List UInt8 := uvB x.1 ++ (uvB (zbz x.2).length ++ zbz x.2)
def valB (flex : Bool) (kind : Int) (pt : Tr → List UInt8) (null : Bool) (t : Tr) : List UInt8 :=
 if kind = 0 then [UInt8.ofNat (t.n % 2).toNat]
 else if kind = 7 then t.s.take 16 ++ List.replicate (16 - t.s.length) 0
 else if kind = 8 then zby flex null (if null then [] else zbz t.s).length 2 ++ (if null then [] else zbz t.s)
 else if kind = 9 then zby flex null (if null then [] else zbz t.s).length 4 ++ (if null then [] else zbz t.s)
 else if kind = 10 then pt t
 else fixB t.n (zgh kind)
def endB (flex : Bool) (x : List UInt8) (u : List (Nat × List UInt8)) : List UInt8 :=
 x ++ if flex then uvB (unkT u).length ++ (unkT u).flatMap tagB else []
mutual
def zew (flex : Bool) (v : Int) : Fld → Tr → List UInt8
 | .mk k f t' n g d o sub, t =>
  if k = 11 then zby flex (Fld.nullB (.mk k f t' n g d o []) v t) (if Fld.nullB (.mk k f t' n g d o []) v t then [] else zei t.l).length 4 ++
   (if Fld.nullB (.mk k f t' n g d o []) v t then [] else zei t.l).flatMap (valB flex o (fun t => endB flex (zcu flex v sub 0 t) t.u) false)
  else valB flex k (fun t => endB flex (zcu flex v sub 0 t) t.u) (Fld.nullB (.mk k f t' n g d o []) v t) t
def zcu (flex : Bool) (v : Int) : List Fld → Nat → Tr → List UInt8
 | [], _, _ => []
 | f :: r, i, t => (if f.has v then zew flex v f (atT t i) else []) ++ zcu flex v r (i + 1) t
end
def zdk (flex : Bool) (v : Int) (fs : List Fld) (t : Tr) : List UInt8 := endB flex (zcu flex v fs 0 t) t.u
mutual
def wfT : Tr → Prop
 | .mk n _ _ l u => (-9223372036854775808 ≤ n ∧ n < 9223372036854775808) ∧ (∀ x ∈ u, x.1 < 4294967296) ∧ wfTs l
def wfTs : List Tr → Prop
 | [] => True
 | t :: l => wfT t ∧ wfTs l
end
theorem wfTs.mem : ∀ {l : List Tr}, wfTs l → ∀ x ∈ l, wfT x
 | [], _, x, hx => by cases hx
 | t :: l, h, x, hx => by
  simp only [wfTs] at h
  rcases List.mem_cons.1 hx with rfl | hx
  ·exact h.1
  ·exact wfTs.mem h.2 x hx
theorem wfT.l {t : Tr} (h : wfT t) : ∀ x ∈ t.l, wfT x := by
 cases t; simp only [wfT] at h; exact wfTs.mem h.2.2
theorem wfT.u {t : Tr} (h : wfT t) : ∀ x ∈ t.u, x.1 < 4294967296 := by
 cases t; simp only [wfT] at h; exact h.2.1
theorem wfT.n {t : Tr} (h : wfT t) : -9223372036854775808 ≤ t.n ∧ t.n < 9223372036854775808 := by
 cases t; simp only [wfT] at h; exact h.1
theorem wfT.at {t : Tr} (h : wfT t) (i : Nat) : wfT (atT t i) := by
 unfold atT
 cases hx : t.l[i]? with
 | none =>
  rw [List.getD, hx]
  simp only [Option.getD_none, tr0, wfT, wfTs]
  exact ⟨by decide, (fun x hx => by cases hx), trivial⟩
 | some y => rw [List.getD, hx]; exact h.l y (List.mem_of_getElem? hx)
def OctA (w : World) (v : Value) (s : List UInt8) : Prop :=
 (∃ ad c, v = .slice ad 0 c ∧ s = []) ∨ ∃ b o c, v = .slice (some ⟨b, o, none⟩) s.length c ∧ s.length ≤ c ∧ w.rangeAt b o (s.map zbf)
def UsA (w : World) : List (Nat × List UInt8) → List Value → Prop
 | [], cs => cs = []
 | (k, l) :: r, cs => ∃ v rest, cs = .int .u32 k :: v :: rest ∧ OctA w v l ∧ UsA w r rest
def zks (w : World) (v : Value) (u : List (Nat × List UInt8)) : Prop :=
 (∃ ad c, v = .slice ad 0 c ∧ u = []) ∨ ∃ b o c cs, v = .slice (some ⟨b, o, none⟩) u.length c ∧ u.length ≤ c ∧ UsA w u cs ∧ w.rangeAt b o cs
mutual
def RepA (w : World) : Tr → List Value → Prop
 | .mk n s nl l u, cs => ∃ vs vl vu, cs = [.int .i64 n, vs, .bool nl, vl, vu] ∧ OctA w vs s ∧
   ((∃ ad c, vl = .slice ad 0 c ∧ l = []) ∨ ∃ b o c css, vl = .slice (some ⟨b, o, none⟩) l.length c ∧ l.length ≤ c ∧ zjq w l css ∧ w.rangeAt b o css.flatten) ∧ zks w vu u
def zjq (w : World) : List Tr → List (List Value) → Prop
 | [], css => css = []
 | t :: l, css => ∃ c r, css = c :: r ∧ RepA w t c ∧ zjq w l r
end
mutual
def RepF (w : World) : Fld → List Value → Prop
 | .mk k f t n g d o sub, cs => ∃ v, cs = [.int .i64 k, .int .i64 f, .int .i64 t, .int .i64 n, .int .i64 g, .int .i64 d, .int .i64 o, v] ∧
   ((∃ ad c, v = .slice ad 0 c ∧ sub = []) ∨ ∃ b o c css, v = .slice (some ⟨b, o, none⟩) sub.length c ∧ sub.length ≤ c ∧ zfs w sub css ∧ w.rangeAt b o css.flatten)
def zfs (w : World) : List Fld → List (List Value) → Prop
 | [], css => css = []
 | t :: l, css => ∃ c r, css = c :: r ∧ RepF w t c ∧ zfs w l r
end
def zgs (w : World) (v : Value) (fs : List Fld) : Prop :=
 (∃ ad c, v = .slice ad 0 c ∧ fs = []) ∨ ∃ b o c css, v = .slice (some ⟨b, o, none⟩) fs.length c ∧ fs.length ≤ c ∧ zfs w fs css ∧ w.rangeAt b o css.flatten
def zgy (w : World) (v : Value) (l : List Tr) : Prop :=
 (∃ ad c, v = .slice ad 0 c ∧ l = []) ∨ ∃ b o c css, v = .slice (some ⟨b, o, none⟩) l.length c ∧ l.length ≤ c ∧ zjq w l css ∧ w.rangeAt b o css.flatten
theorem OctA.stay {w w' : World} (h : Mod w w' zp) {v : Value} {s : List UInt8} (hs : OctA w v s) : OctA w' v s :=
 hs.imp id fun ⟨b, o, c, h1, h2, h3⟩ => ⟨b, o, c, h1, h2, zv h h3⟩
theorem UsA.stay {w w' : World} (h : Mod w w' zp) : ∀ {u : List (Nat × List UInt8)} {cs : List Value}, UsA w u cs → UsA w' u cs
 | [], _, hu => hu
 | (k, l) :: r, _, ⟨v, rest, h1, h2, h3⟩ => ⟨v, rest, h1, h2.stay h, UsA.stay h h3⟩
theorem zks.stay {w w' : World} (h : Mod w w' zp) {v : Value} {u : List (Nat × List UInt8)} (hu : zks w v u) : zks w' v u :=
 hu.imp id fun ⟨b, o, c, cs, h1, h2, h3, h4⟩ => ⟨b, o, c, cs, h1, h2, h3.stay h, zv h h4⟩
mutual
theorem RepA.stay {w w' : World} (h : Mod w w' zp) : ∀ (t : Tr) {cs : List Value}, RepA w t cs → RepA w' t cs
 | .mk n s nl l u, _, ⟨vs, vl, vu, h1, h2, h3, h4⟩ => ⟨vs, vl, vu, h1, h2.stay h, h3.imp id fun ⟨b, o, c, css, g1, g2, g3, g4⟩ => ⟨b, o, c, css, g1, g2, zjq.stay h l g3, zv h g4⟩, h4.stay h⟩
theorem zjq.stay {w w' : World} (h : Mod w w' zp) : ∀ (l : List Tr) {css : List (List Value)}, zjq w l css → zjq w' l css
 | [], _, hr => hr
 | t :: l, _, ⟨c, r, h1, h2, h3⟩ => ⟨c, r, h1, RepA.stay h t h2, zjq.stay h l h3⟩
end
mutual
theorem RepF.stay {w w' : World} (h : Mod w w' zp) : ∀ (t : Fld) {cs : List Value}, RepF w t cs → RepF w' t cs
 | .mk _ _ _ _ _ _ _ sub, _, ⟨v, h1, h3⟩ => ⟨v, h1, h3.imp id fun ⟨b, o, c, css, g1, g2, g3, g4⟩ => ⟨b, o, c, css, g1, g2, zfs.stay h sub g3, zv h g4⟩⟩
theorem zfs.stay {w w' : World} (h : Mod w w' zp) : ∀ (l : List Fld) {css : List (List Value)}, zfs w l css → zfs w' l css
 | [], _, hr => hr
 | t :: l, _, ⟨c, r, h1, h2, h3⟩ => ⟨c, r, h1, RepF.stay h t h2, zfs.stay h l h3⟩
end
theorem zgs.stay {w w' : World} (h : Mod w w' zp) {v : Value} {fs : List Fld} (hs : zgs w v fs) : zgs w' v fs :=
 hs.imp id fun ⟨b, o, c, css, h1, h2, h3, h4⟩ => ⟨b, o, c, css, h1, h2, zfs.stay h fs h3, zv h h4⟩
theorem zgy.stay {w w' : World} (h : Mod w w' zp) {v : Value} {l : List Tr} (hs : zgy w v l) : zgy w' v l :=
 hs.imp id fun ⟨b, o, c, css, h1, h2, h3, h4⟩ => ⟨b, o, c, css, h1, h2, zjq.stay h l h3, zv h h4⟩
structure SpT (P : Program) (N : Nums) (M : zci) : Prop where
 fld : SF P M.zg [(0, 1), (1, 1), (2, 1), (3, 1), (4, 1), (5, 1), (6, 1), (7, 1)] 80 [.int .i64 0, .int .i64 0, .int .i64 0, .int .i64 0, .int .i64 0, .int .i64 0, .int .i64 0, .slice none 0 0]
 f0 : HF P M.zg 0 0
 f1 : HF P M.zg 1 1
 f2 : HF P M.zg 2 2
 f3 : HF P M.zg 3 3
 f4 : HF P M.zg 4 4
 f5 : HF P M.zg 5 5
 f6 : HF P M.zg 6 6
 f7 : HF P M.zg 7 7
 lf : TI P M.zae (.slice M.zg) 1 24 (.slice none 0 0)
 msg : SF P M.zaq [(0, 1), (1, 1)] 32 [.slice none 0 0, .int .i64 0]
 m0 : HF P M.zaq 0 0
 m1 : HF P M.zaq 1 1
 tr : zfi P N N.zb N.zz N.zk N.zh
section
variable {P : Program} {N : Nums} {M : zci}
theorem ztv {d : Option Nat} {x y : Operand} {ty : TypeId} {ts : Array TypeId} {af : List Nat} {ρ : Env} {w : World} {K : Env → World → Prop} : zbn P ⟨d, .call ⟨.builtin .min, #[x, y], ts⟩, ty, none, af⟩ ρ w K = zfu (fun v w => K (put ρ d v) w) ((Builtin.min_ ts ty #[ev ρ x, ev ρ y]).run P w) := by
 rw [zba rfl, ← zbu]
 simp [exec, execOp, resolve, invoke, builtin]
theorem zxk {ts : Array TypeId} {ty : TypeId} {k k' : IntKind} {a b : Int} {w : World} : (Builtin.min_ ts ty #[.int k a, .int k' b]).run P w = .ok (.int k (if b < a then b else a)) w := by
 simp [Builtin.min_, Builtin.min2]
theorem run_shr {t : TypeId} {x y : Operand} {k yk : IntKind} {a b : Int} {w : World} (hb : 0 ≤ b) : (do eqGuard .shr t x y (.int k a) (.int yk b); binOp .shr t (.int k a) (.int yk b) : Sem Value).run P w = .ok (.int k (a.fdiv (2 ^ min b.toNat k.bits))) w := by
 simp [eqGuard, binOp, Op.shift, show ¬ b < 0 by omega]
theorem OctA.cut {w : World} {v : Value} {s : List UInt8} (h : OctA w v s) : ∃ ad c, v = .slice ad s.length c ∧ s.length ≤ c ∧ ∀ n, n ≤ s.length → OctA w (.slice ad n c) (s.take n) := by
 rcases h with ⟨ad, c, rfl, rfl⟩ | ⟨b, o, c, rfl, h1, h2⟩
 ·exact ⟨ad, c, rfl, Nat.zero_le _, fun n hn => .inl ⟨ad, c, by rw [show n = 0 by simpa using hn], by simp⟩⟩
 ·refine ⟨_, c, rfl, h1, fun n hn => .inr ⟨b, o, c, by rw [List.length_take, Nat.min_eq_left hn], by rw [List.length_take]; omega, fun j x hj => h2 j x ?_⟩⟩
  rw [List.getElem?_map] at hj ⊢
  cases hx : (s.take n)[j]? with
  | none => rw [hx] at hj; simp at hj
  | some y =>
   have : j < n := by have := (List.getElem?_eq_some_iff.1 hx).1; rw [List.length_take] at this; omega
   rw [List.getElem?_take_of_lt this] at hx
   rw [hx]
   have h2 : (s.take n)[j]? = some y := by rw [List.getElem?_take_of_lt this]; exact hx
   rw [h2] at hj; exact hj
theorem OctA.one {w : World} {v : Value} {s : List UInt8} (h : OctA w v s) : v.oneCell' = true := by
 rcases h with ⟨ad, c, rfl, _⟩ | ⟨b, o, c, rfl, _⟩ <;> rfl
theorem OctA.run_len (B : Base P N) {w w' : World} {v : Value} {l : List UInt8} (h : OctA w v l) {ty : TypeId} : (Builtin.len_ #[N.za] ty #[v]).run P w' = .ok (.int .i64 l.length) w' := by
 rcases h with ⟨ad, c, rfl, rfl⟩ | ⟨b, o, c, rfl, _⟩
 ·exact B.Lu8.run_len
 ·exact B.Lu8.run_len
theorem zth (B : Base P N) (hF : FOk P M.zdv 1 (zlp N M) [.var 1]) {w w0 : World} {v : Value} {s : List UInt8} (h : OctA w0 v s) : Call P M.zdv #[v] w fun v' w' => w = w' ∧ OctA w0 v' (zbz s) := by
 refine hF.call rfl fun loc N' hlo => ?_
 unfold zlp
 obtain ⟨ad, c, hv, hc, hcut⟩ := h.cut
 refine zd fun K hK => zav (hK _ _ ?_)
 clear hK K
 obtain ⟨σ, hσ⟩ : ∃ σ, σ = upd (zda #[v]) 1 (.slice none 0 0) := ⟨_, rfl⟩
 have f0 : σ 0 = v := by rw [hσ, zi (by decide)]; rfl
 rw [← hσ]
 clear hσ
 refine zd fun K hK => zaa fun τ => ?_
 have hn : (if (32767 : Int) < (s.length : Int) then (32767 : Int) else (s.length : Int)) = ((min 32767 s.length : Nat) : Int) := by split <;> omega
 have hsl := fun {w : World} => zjb (P := P) (w := w) B.Lu8 B.uint8 (ad := ad) (n := s.length) (c := c) (h := min 32767 s.length) (k := .i64) (by omega)
 simp +decide only [bK, bE, Nat.reduceBeqDiff, BEq.rfl, Nat.reduceAdd, Nat.zero_add, Option.map_some, Option.map_none, f0, h.run_len B, ztv, zxk, hn]
 rw [hv]
 simp +decide only [bK, hsl]
 refine hK _ _ (zf fun σ' hσ => zbx ⟨.inr rfl, _, rfl, rfl, ?_⟩)
 have g1 := hσ 1
 simp +decide only [bE, BEq.rfl, Nat.reduceAdd] at g1
 rw [g1]
 have h2 := hcut (min 32767 s.length) (by omega)
 rwa [show s.take (min 32767 s.length) = zbz s by unfold zbz most; rw [List.take_eq_take_iff]; omega] at h2
theorem zgy.cut {w : World} {v : Value} {s : List Tr} (h : zgy w v s) : ∃ ad c, v = .slice ad s.length c ∧ s.length ≤ c ∧ ∀ n, n ≤ s.length → zgy w (.slice ad n c) (s.take n) := by
 rcases h with ⟨ad, c, rfl, rfl⟩ | ⟨b, o, c, css, rfl, h1, h2, h3⟩
 ·exact ⟨ad, c, rfl, Nat.zero_le _, fun n hn => .inl ⟨ad, c, by rw [show n = 0 by simpa using hn], by simp⟩⟩
 ·have key : ∀ (l : List Tr) (css : List (List Value)) (n o : Nat), zjq w l css → w.rangeAt b o css.flatten → zjq w (l.take n) (css.take n) ∧ w.rangeAt b o (css.take n).flatten := by
   intro l
   induction l with
   | nil => intro css n o hr hg; simp only [zjq] at hr; subst hr; simp [zjq]; intro j v hj; simp at hj
   | cons t l ih =>
    rintro _ n o ⟨c, r, rfl, h1, h2⟩ hg
    cases n with
    | zero => simp [zjq]; intro j v hj; simp at hj
    | succ n =>
     rw [List.flatten_cons, zq] at hg
     obtain ⟨g1, g2⟩ := ih r n _ h2 hg.2
     refine ⟨⟨c, r.take n, by simp, h1, g1⟩, ?_⟩
     rw [List.take_succ_cons, List.flatten_cons, zq]
     exact ⟨hg.1, g2⟩
  refine ⟨_, c, rfl, h1, fun n hn => .inr ⟨b, o, c, css.take n, by rw [List.length_take, Nat.min_eq_left hn], by rw [List.length_take]; omega, (key s css n o h2 h3).1, (key s css n o h2 h3).2⟩⟩
theorem zgy.run_len (S : SpT P N M) {w w' : World} {v : Value} {l : List Tr} (h : zgy w v l) {ty : TypeId} : (Builtin.len_ #[N.zk] ty #[v]).run P w' = .ok (.int .i64 l.length) w' := by
 rcases h with ⟨ad, c, rfl, rfl⟩ | ⟨b, o, c, css, rfl, _⟩
 ·exact S.tr.lt.run_len
 ·exact S.tr.lt.run_len
theorem zxv (S : SpT P N M) (hF : FOk P M.zgo 1 (zkp N M) [.var 1]) {w : World} {v : Value} {s : List Tr} (h : zgy w v s) : Call P M.zgo #[v] w fun v' w' => w = w' ∧ zgy w v' (zei s) := by
 obtain ⟨fs, ht⟩ := S.tr.ti
 refine hF.call rfl fun loc N' hlo => ?_
 unfold zkp
 obtain ⟨ad, c, hv, hc, hcut⟩ := h.cut
 refine zd fun K hK => zav (hK _ _ ?_)
 clear hK K
 obtain ⟨σ, hσ⟩ : ∃ σ, σ = upd (zda #[v]) 1 (.slice none 0 0) := ⟨_, rfl⟩
 have f0 : σ 0 = v := by rw [hσ, zi (by decide)]; rfl
 rw [← hσ]
 clear hσ
 refine zd fun K hK => zaa fun τ => ?_
 have hn : (if (32767 : Int) < (s.length : Int) then (32767 : Int) else (s.length : Int)) = ((min 32767 s.length : Nat) : Int) := by split <;> omega
 have hsl := fun {w : World} => zjb (P := P) (w := w) S.tr.lt ht (ad := ad) (n := s.length) (c := c) (h := min 32767 s.length) (k := .i64) (by omega)
 simp +decide only [bK, bE, Nat.reduceBeqDiff, BEq.rfl, Nat.reduceAdd, Nat.zero_add, Option.map_some, Option.map_none, f0, h.run_len S, ztv, zxk, hn]
 rw [hv]
 simp +decide only [bK, hsl]
 refine hK _ _ (zf fun σ' hσ => zbx ⟨.inr rfl, _, rfl, rfl, ?_⟩)
 have g1 := hσ 1
 simp +decide only [bE, BEq.rfl, Nat.reduceAdd] at g1
 rw [g1]
 have h2 := hcut (min 32767 s.length) (by omega)
 rwa [show s.take (min 32767 s.length) = zei s by unfold zei most; rw [List.take_eq_take_iff]; omega] at h2
end
theorem RepA.out {w : World} {t : Tr} {cs : List Value} (h : RepA w t cs) : ∃ vs vl vu, cs = [.int .i64 t.n, vs, .bool t.nl, vl, vu] ∧ OctA w vs t.s ∧ zgy w vl t.l ∧ zks w vu t.u := by
 cases t with
 | mk n s nl l u =>
  simp only [RepA] at h
  obtain ⟨vs, vl, vu, h1, h2, h3, h4⟩ := h
  exact ⟨vs, vl, vu, h1, h2, h3, h4⟩
theorem RepA.mk' {w : World} {t : Tr} {vs vl vu : Value} (h2 : OctA w vs t.s) (h3 : zgy w vl t.l) (h4 : zks w vu t.u) : RepA w t [.int .i64 t.n, vs, .bool t.nl, vl, vu] := by
 cases t with
 | mk n s nl l u => simp only [RepA]; exact ⟨vs, vl, vu, rfl, h2, h3, h4⟩
theorem zgy.one {w : World} {v : Value} {l : List Tr} (h : zgy w v l) : v.oneCell' = true := by
 rcases h with ⟨ad, c, rfl, _⟩ | ⟨b, o, c, css, rfl, _⟩ <;> rfl
theorem zks.one {w : World} {v : Value} {l : List (Nat × List UInt8)} (h : zks w v l) : v.oneCell' = true := by
 rcases h with ⟨ad, c, rfl, _⟩ | ⟨b, o, c, css, rfl, _⟩ <;> rfl
theorem RepA.len {w : World} {t : Tr} {cs : List Value} (h : RepA w t cs) : cs.length = 5 := by
 obtain ⟨vs, vl, vu, rfl, _⟩ := h.out; rfl
theorem RepA.ones {w : World} {t : Tr} {cs : List Value} (h : RepA w t cs) : ∀ c ∈ cs, c.oneCell' = true := by
 obtain ⟨vs, vl, vu, rfl, h1, h2, h3⟩ := h.out
 intro c hc
 simp at hc
 rcases hc with rfl | rfl | rfl | rfl | rfl
 ·rfl
 ·exact h1.one
 ·rfl
 ·exact h2.one
 ·exact h3.one
theorem zjq.get {w : World} : ∀ {l : List Tr} {css : List (List Value)} {j : Nat} {t : Tr}, zjq w l css → l[j]? = some t → ∃ c, css[j]? = some c ∧ RepA w t c
 | [], _, j, t, _, hj => by simp at hj
 | t' :: l, _, 0, t, ⟨c, r, h1, h2, h3⟩, hj => by subst h1; simp at hj; subst hj; exact ⟨c, rfl, h2⟩
 | t' :: l, _, j + 1, t, ⟨c, r, h1, h2, h3⟩, hj => by subst h1; simpa using zjq.get h3 (by simpa using hj)
theorem zjq.len5 {w : World} : ∀ {l : List Tr} {css : List (List Value)}, zjq w l css → ∀ x ∈ css, x.length = 5
 | [], _, h, x, hx => by simp only [zjq] at h; subst h; simp at hx
 | t :: l, _, ⟨c, r, h1, h2, h3⟩, x, hx => by
  subst h1
  rcases List.mem_cons.1 hx with rfl | hx
  ·exact h2.len
  ·exact zjq.len5 h3 x hx
theorem zgy.get {w : World} {v : Value} {l : List Tr} (h : zgy w v l) {j : Nat} {t : Tr} (hj : l[j]? = some t) : ∃ b o c cs, v = .slice (some ⟨b, o, none⟩) l.length c ∧ RepA w t cs ∧ w.rangeAt b (o + j * 5) cs := by
 rcases h with ⟨ad, c, rfl, rfl⟩ | ⟨b, o, c, css, rfl, h1, h2, h3⟩
 ·simp at hj
 ·obtain ⟨cs, g1, g2⟩ := h2.get hj
  exact ⟨b, o, c, cs, rfl, g2, zhb h3 h2.len5 g1⟩
theorem tr0_rep {w : World} : RepA w tr0 zT := by
 exact RepA.mk' (t := tr0) (.inl ⟨_, _, rfl, rfl⟩) (.inl ⟨_, _, rfl, rfl⟩) (.inl ⟨_, _, rfl, rfl⟩)
section
variable {P : Program} {N : Nums} {M : zci}
theorem zfz {tt tg lt lg : TypeId} (hT : zfi P N tt tg lt lg) {w1 : World} {b o : Nat} {cs : List Value} (hr : w1.rangeAt b o cs) (hl : cs.length = 5) : (Instr.loadAt tt (.pointer (some ⟨b, o, none⟩))).run P w1 = .ok (.agg cs.toArray) w1 := by
 obtain ⟨fs, h⟩ := hT.ti
 have hlv : ∀ (f : Array Field) (x : List Value), ldv (.struct f) x = .agg x.toArray := fun _ _ => rfl
 have hl2 := h.run_load (w := w1) (b := b) (o := o) hr hl (fun h => by cases h)
 rw [hl2, hlv]
theorem call_at (B : Base P N) (S : SpT P N M) (hF : FOk P M.zgp 2 (zrp N M) [.cell 3 N.zb]) {w : World} {t : Tr} {cs : List Value} (h : RepA w t cs) (i : Nat) :
  Call P M.zgp #[.agg cs.toArray, .int .i64 i] w fun v w' => ∃ cs', v = .agg cs'.toArray ∧ RepA w' (atT t i) cs' ∧ Mod w w' zp := by
 refine hF.call rfl fun loc N' hlo => ?_
 unfold zrp
 obtain ⟨vs, vl, vu, rfl, h1, h2, h3⟩ := h.out
 obtain ⟨fs, hti⟩ := S.tr.ti
 refine zd fun K hK => zaa fun τ => ?_
 simp +decide only [bK, bE, Nat.reduceAdd, Nat.zero_add]
 obtain ⟨w1, hw1⟩ : ∃ w1, w1 = w.alloc (.cells (Value.cells (.agg [.int .i64 t.n, vs, .bool t.nl, vl, vu].toArray)) N.zb) := ⟨_, rfl⟩
 have m1 : Mod w w1 zp := by rw [hw1]; exact Mod.alloc _ _ _
 have s1 : w1.heap.size = w.heap.size + 1 := by rw [hw1]; exact zan _ _
 have r1 : w1.rangeAt w.heap.size 0 [.int .i64 t.n, vs, .bool t.nl, vl, vu] := by rw [hw1]; exact zw w _ _ _
 rw [← hw1]
 clear hw1
 have hal := hti.run_alloc (w := w1) (.tuple #[])
 obtain ⟨w2, hw2⟩ : ∃ w2, w2 = w1.alloc (.cells (Value.cells (.agg zT.toArray)) N.zb) := ⟨_, rfl⟩
 have m2 : Mod w1 w2 zp := by rw [hw2]; exact Mod.alloc _ _ _
 have s2 : w2.heap.size = w1.heap.size + 1 := by rw [hw2]; exact zan _ _
 have r2 : w2.rangeAt w1.heap.size 0 zT := by rw [hw2]; exact zw w1 zT.toArray _ _
 have t2 : w2.there w1.heap.size 0 5 := by rw [hw2]; exact zbj w1 zT.toArray N.zb
 rw [← hw2] at hal
 simp +decide only [bK, hal]
 clear hal hw2
 refine hK _ _ (zf fun σ hσ => ?_)
 have f1 := hσ 1
 have f2 := hσ 2
 have f3 := hσ 3
 simp +decide only [bE, Nat.reduceBeqDiff, BEq.rfl, Nat.reduceAdd, zhr] at f1 f2 f3
 clear hσ hK K
 have r1' := zv m2 r1
 have m02 : Mod w w2 zp := m1.trans' m2
 have x3 := r1' 3 _ rfl
 refine zd fun K hK => zd fun K1 hK1 => zaa fun τ => ?_
 simp +decide only [bK, bE, Nat.reduceBeqDiff, BEq.rfl, Nat.reduceAdd, Nat.zero_add, f1, f2, S.tr.h3.run, S.tr.lt.run_load1 rfl, x3, h2.run_len S]
 refine hK1 _ _ (zf fun σ1 hσ => ?_)
 have g1 := hσ 1
 have g2 := hσ 2
 have g3 := hσ 3
 have g4 := hσ 4
 simp +decide only [bE, Nat.reduceBeqDiff, BEq.rfl, Nat.reduceAdd, f1, f2, f3] at g1 g2 g3 g4
 clear hσ hK1 K1 f1 f2 f3
 refine W_if hlo g4 ?_
 by_cases hi : i < t.l.length
 ·have hi' : (i : Int) < (t.l.length : Int) := by omega
  simp only [hi', decide_true, if_true]
  obtain ⟨b, o, c, cs', hv, hr, hg⟩ := h2.get (List.getElem?_eq_getElem hi)
  have hr2 := RepA.stay m02 _ hr
  have hg2 := zv m02 hg
  obtain ⟨w3, hst, m3, s3, r3, _⟩ := zhh S.tr r2 rfl t2 hr2.len hr2.ones
  have hix := fun {w : World} => zab (P := P) (w := w) S.tr.lt hti (bl := b) (o := o) (n := t.l.length) (c := c) (i := i) (k := .i64) hi
  refine zd fun K2 hK2 => zaa fun τ => ?_
  simp +decide only [bK, bE, Nat.reduceBeqDiff, BEq.rfl, Nat.reduceAdd, Nat.zero_add, g1, g2, g3, S.tr.h3.run, S.tr.lt.run_load1 rfl, x3]
  rw [hv]
  simp +decide only [bK, hix, zfz S.tr hg2 hr2.len, hst]
  refine hK2 _ _ (zf fun σ2 hσ => zbx ⟨.inr rfl, .agg cs'.toArray, ?_, cs', rfl, ?_, m02.fresh m3 fun k o h => by have : k = w1.heap.size := h; omega⟩)
  ·have p3 := hσ 3
   simp +decide only [bE, Nat.reduceBeqDiff, Nat.reduceAdd, g3] at p3
   exact ⟨_, p3, zoi S.tr r3 hr2.len⟩
  ·rw [show atT t i = t.l[i] by simp [atT, List.getD, hi]]
   exact RepA.stay (m02.fresh m3 fun k o h => by have : k = w1.heap.size := h; omega) _ hr
 ·have hi' : ¬ (i : Int) < (t.l.length : Int) := by omega
  simp only [hi', decide_false, Bool.false_eq_true, if_false]
  refine zbw (hK _ _ ?_)
  obtain ⟨w3, hst, m3, s3, r3, _⟩ := zhh S.tr r2 rfl t2 (cs := zT) rfl (by decide)
  have e0 : ∀ ρ : Env, (#[] : Array (Nat × Operand)).map (fun p => (p.1, ev ρ p.2)) = #[] := fun ρ => by simp
  refine zd fun K2 hK2 => zaa fun τ => ?_
  simp +decide only [bK, bE, Nat.reduceBeqDiff, BEq.rfl, Nat.reduceAdd, e0, build0 S.tr, g3, hst]
  refine hK2 _ _ (zf fun σ2 hσ => zbx ⟨.inr rfl, .agg zT.toArray, ?_, zT, rfl, ?_, m02.fresh m3 fun k o h => by have : k = w1.heap.size := h; omega⟩)
  ·have p3 := hσ 3
   simp +decide only [bE, Nat.reduceBeqDiff, Nat.reduceAdd, g3] at p3
   exact ⟨_, p3, zoi S.tr r3 rfl⟩
  ·rw [show atT t i = tr0 by simp [atT, List.getD, List.getElem?_eq_none (show t.l.length ≤ i by omega)]]
   exact tr0_rep
end
theorem RepF.out {w : World} {f : Fld} {cs : List Value} (h : RepF w f cs) : ∃ v, cs = [.int .i64 f.kind, .int .i64 f.frm, .int .i64 f.to, .int .i64 f.null, .int .i64 f.tag, .int .i64 f.dflt, .int .i64 f.of, v] ∧ zgs w v f.sub := by
 cases f with
 | mk a b c d e f g sub =>
  simp only [RepF] at h
  exact h
theorem RepF.mk' {w : World} {f : Fld} {v : Value} (h : zgs w v f.sub) : RepF w f [.int .i64 f.kind, .int .i64 f.frm, .int .i64 f.to, .int .i64 f.null, .int .i64 f.tag, .int .i64 f.dflt, .int .i64 f.of, v] := by
 cases f with
 | mk a b c d e f g sub => simp only [RepF]; exact ⟨v, rfl, h⟩
theorem zgs.one {w : World} {v : Value} {l : List Fld} (h : zgs w v l) : v.oneCell' = true := by
 rcases h with ⟨ad, c, rfl, _⟩ | ⟨b, o, c, css, rfl, _⟩ <;> rfl
theorem RepF.len {w : World} {t : Fld} {cs : List Value} (h : RepF w t cs) : cs.length = 8 := by
 obtain ⟨v, rfl, _⟩ := h.out; rfl
theorem RepF.ones {w : World} {t : Fld} {cs : List Value} (h : RepF w t cs) : ∀ c ∈ cs, c.oneCell' = true := by
 obtain ⟨v, rfl, h1⟩ := h.out
 intro c hc
 simp only [List.mem_cons, List.not_mem_nil, or_false] at hc
 rcases hc with rfl | rfl | rfl | rfl | rfl | rfl | rfl | rfl
 all_goals first | rfl | exact h1.one
theorem zfs.get {w : World} : ∀ {l : List Fld} {css : List (List Value)} {j : Nat} {t : Fld}, zfs w l css → l[j]? = some t → ∃ c, css[j]? = some c ∧ RepF w t c
 | [], _, j, t, _, hj => by simp at hj
 | t' :: l, _, 0, t, ⟨c, r, h1, h2, h3⟩, hj => by subst h1; simp at hj; subst hj; exact ⟨c, rfl, h2⟩
 | t' :: l, _, j + 1, t, ⟨c, r, h1, h2, h3⟩, hj => by subst h1; simpa using zfs.get h3 (by simpa using hj)
theorem zfs.len8 {w : World} : ∀ {l : List Fld} {css : List (List Value)}, zfs w l css → ∀ x ∈ css, x.length = 8
 | [], _, h, x, hx => by simp only [zfs] at h; subst h; simp at hx
 | t :: l, _, ⟨c, r, h1, h2, h3⟩, x, hx => by
  subst h1
  rcases List.mem_cons.1 hx with rfl | hx
  ·exact h2.len
  ·exact zfs.len8 h3 x hx
theorem zgs.get {w : World} {v : Value} {l : List Fld} (h : zgs w v l) {j : Nat} {t : Fld} (hj : l[j]? = some t) : ∃ b o c cs, v = .slice (some ⟨b, o, none⟩) l.length c ∧ RepF w t cs ∧ w.rangeAt b (o + j * 8) cs := by
 rcases h with ⟨ad, c, rfl, rfl⟩ | ⟨b, o, c, css, rfl, h1, h2, h3⟩
 ·simp at hj
 ·obtain ⟨cs, g1, g2⟩ := h2.get hj
  exact ⟨b, o, c, cs, rfl, g2, zhb h3 h2.len8 g1⟩
section
variable {P : Program} {N : Nums} {M : zci}
theorem zgs.run_len (S : SpT P N M) {w w' : World} {v : Value} {l : List Fld} (h : zgs w v l) {ty : TypeId} : (Builtin.len_ #[M.zae] ty #[v]).run P w' = .ok (.int .i64 l.length) w' := by
 rcases h with ⟨ad, c, rfl, rfl⟩ | ⟨b, o, c, css, rfl, _⟩
 ·exact S.lf.run_len
 ·exact S.lf.run_len
theorem call_has (B : Base P N) (S : SpT P N M) (hF : FOk P M.zed 2 (zhs N M) [.var 3]) {w : World} {f : Fld} {cs : List Value} (h : RepF w f cs) (v : Int) :
  Call P M.zed #[.agg cs.toArray, .int .i64 v] w fun r w' => r = .bool (f.has v) ∧ Mod w w' zp := by
 refine hF.call rfl fun loc N' hlo => ?_
 unfold zhs
 obtain ⟨vs, rfl, h1⟩ := h.out
 refine zd fun K hK => zaa fun τ => ?_
 simp +decide only [bK, bE, Nat.reduceAdd, Nat.zero_add]
 obtain ⟨w1, hw1⟩ : ∃ w1, w1 = w.alloc (.cells (Value.cells (.agg [.int .i64 f.kind, .int .i64 f.frm, .int .i64 f.to, .int .i64 f.null, .int .i64 f.tag, .int .i64 f.dflt, .int .i64 f.of, vs].toArray)) M.zg) := ⟨_, rfl⟩
 have m1 : Mod w w1 zp := by rw [hw1]; exact Mod.alloc _ _ _
 have r1 : w1.rangeAt w.heap.size 0 [.int .i64 f.kind, .int .i64 f.frm, .int .i64 f.to, .int .i64 f.null, .int .i64 f.tag, .int .i64 f.dflt, .int .i64 f.of, vs] := by rw [hw1]; exact zw w _ _ _
 rw [← hw1]
 clear hw1
 refine hK _ _ (zf fun σ hσ => ?_)
 have f1 := hσ 1
 have f2 := hσ 2
 simp +decide only [bE, Nat.reduceBeqDiff, BEq.rfl, Nat.reduceAdd, zhr] at f1 f2
 clear hσ hK K
 have x1 := r1 1 _ rfl
 have x2 := r1 2 _ rfl
 refine zd fun K hK => zaa fun τ => ?_
 have key : ∀ σ' : Env, σ' 3 = .bool (f.has v) → K σ' w1 := fun σ' h => hK _ _ (zbx ⟨.inr rfl, _, rfl, h, m1⟩)
 by_cases a : f.frm ≤ v
 ·by_cases b : f.to < 0
  ·simp +decide only [bK, bE, Nat.reduceBeqDiff, decide_true, BEq.rfl, Nat.reduceAdd, Nat.zero_add, if_true, f1, f2, S.f1.run, S.f2.run, B.int.run_load1 rfl, x1, x2, a, b, zas, zbs, Bool.not_false, zcc]
   refine zf fun σ' hσ => key σ' ?_
   have g := hσ 3
   simp +decide only [bE, BEq.rfl, Nat.reduceAdd] at g
   rw [g]; simp [Fld.has, a, b]
  ·simp +decide only [bK, bE, Nat.reduceBeqDiff, decide_true, decide_false, BEq.rfl, Nat.reduceAdd, Nat.zero_add, if_false, if_true, f1, f2, S.f1.run, S.f2.run, B.int.run_load1 rfl, x1, x2, a, b, zas, zcc]
   refine zf fun σ' hσ => key σ' ?_
   have g := hσ 3
   simp +decide only [bE, BEq.rfl, Nat.reduceAdd] at g
   rw [g]; simp [Fld.has, a, b]
 ·simp +decide only [bK, bE, Nat.reduceBeqDiff, decide_false, BEq.rfl, Nat.reduceAdd, Nat.zero_add, f1, f2, S.f1.run, B.int.run_load1 rfl, x1, a, zbs, Bool.not_true, zcc]
  refine zf fun σ' hσ => key σ' ?_
  have g := hσ 3
  simp +decide only [bE, BEq.rfl, Nat.reduceAdd] at g
  rw [g]; simp [Fld.has, a]
theorem call_null (B : Base P N) (S : SpT P N M) (hF : FOk P M.zeo 3 (zhf N M) [.var 5]) {w : World} {f : Fld} {t : Tr} {cs ct : List Value} (h : RepF w f cs) (ht : RepA w t ct) (v : Int) :
  Call P M.zeo #[.agg cs.toArray, .int .i64 v, .agg ct.toArray] w fun r w' => r = .bool (f.nullB v t) ∧ Mod w w' zp := by
 refine hF.call rfl fun loc N' hlo => ?_
 unfold zhf
 obtain ⟨vs, rfl, h1⟩ := h.out
 obtain ⟨ts, tl, tu, rfl, h2, h3, h4⟩ := ht.out
 refine zd fun K hK => zaa fun τ => ?_
 simp +decide only [bK, bE, Nat.reduceBeqDiff, Nat.reduceAdd, Nat.zero_add]
 obtain ⟨w1, hw1⟩ : ∃ w1, w1 = w.alloc (.cells (Value.cells (.agg [.int .i64 f.kind, .int .i64 f.frm, .int .i64 f.to, .int .i64 f.null, .int .i64 f.tag, .int .i64 f.dflt, .int .i64 f.of, vs].toArray)) M.zg) := ⟨_, rfl⟩
 have m1 : Mod w w1 zp := by rw [hw1]; exact Mod.alloc _ _ _
 have r1 : w1.rangeAt w.heap.size 0 [.int .i64 f.kind, .int .i64 f.frm, .int .i64 f.to, .int .i64 f.null, .int .i64 f.tag, .int .i64 f.dflt, .int .i64 f.of, vs] := by rw [hw1]; exact zw w _ _ _
 rw [← hw1]
 clear hw1
 obtain ⟨w2, hw2⟩ : ∃ w2, w2 = w1.alloc (.cells (Value.cells (.agg [.int .i64 t.n, ts, .bool t.nl, tl, tu].toArray)) N.zb) := ⟨_, rfl⟩
 have m2 : Mod w1 w2 zp := by rw [hw2]; exact Mod.alloc _ _ _
 have r2 : w2.rangeAt w1.heap.size 0 [.int .i64 t.n, ts, .bool t.nl, tl, tu] := by rw [hw2]; exact zw w1 _ _ _
 rw [← hw2]
 clear hw2
 have m02 := m1.trans' m2
 refine hK _ _ (zf fun σ hσ => ?_)
 have f1 := hσ 1
 have f3 := hσ 3
 have f4 := hσ 4
 simp +decide only [bE, Nat.reduceBeqDiff, BEq.rfl, Nat.reduceAdd, zlv] at f1 f3 f4
 clear hσ hK K
 have x3 := zv m2 r1 3 _ rfl
 have y2 := r2 2 _ rfl
 refine zd fun K hK => zaa fun τ => ?_
 have key : ∀ σ' : Env, σ' 5 = .bool (f.nullB v t) → K σ' w2 := fun σ' h => hK _ _ (zbx ⟨.inr rfl, _, rfl, h, m02⟩)
 cases hn : t.nl with
 | true =>
  rw [hn] at y2
  by_cases a : f.null ≥ 0
  ·simp +decide only [bK, bE, Nat.reduceBeqDiff, decide_true, BEq.rfl, Nat.reduceAdd, Nat.zero_add, if_true, f1, f3, f4, S.f3.run, S.tr.h2.run, B.int.run_load1 rfl, B.bool.run_load1 rfl, x3, y2, a, zas, zcc]
   refine zf fun σ' hσ => key σ' ?_
   have g := hσ 5
   simp +decide only [bE, BEq.rfl, Nat.reduceAdd] at g
   rw [g]
   have a' : 0 ≤ f.null := a
   simp [Fld.nullB, hn, a']
  ·simp +decide only [bK, bE, Nat.reduceBeqDiff, decide_false, BEq.rfl, Nat.reduceAdd, Nat.zero_add, if_false, if_true, f3, f4, S.f3.run, S.tr.h2.run, B.int.run_load1 rfl, B.bool.run_load1 rfl, x3, y2, a, zas, zbs, Bool.not_true, zcc]
   refine zf fun σ' hσ => key σ' ?_
   have g := hσ 5
   simp +decide only [bE, BEq.rfl, Nat.reduceAdd] at g
   rw [g]
   have a' : ¬ 0 ≤ f.null := a
   simp [Fld.nullB, hn, a']
 | false =>
  rw [hn] at y2
  simp +decide only [bK, bE, Nat.reduceBeqDiff, BEq.rfl, Nat.reduceAdd, Nat.zero_add, if_false, f4, S.tr.h2.run, B.bool.run_load1 rfl, y2, zbs, Bool.not_true, zcc]
  refine zf fun σ' hσ => key σ' ?_
  have g := hσ 5
  simp +decide only [bE, BEq.rfl, Nat.reduceAdd] at g
  rw [g]; simp [Fld.nullB, hn]
theorem zqa {loc : List Nat} {N' : Nat} {Q : Exit → Env → World → Prop} {σ : Env} {w : World} {ti i c : Nat} {k n : Int} {x y : C} (hlo : zfo loc N') (hi : σ i = .int .i64 k) (h : W P loc N' (if k = n then x else y) Q (upd σ c (.bool (decide (k = n)))) w) :
  W P loc N' (.seq (.ops [⟨some 0, .binOp .eql ti (V i) (.const (.int .i64 n)) ti, 0, none, []⟩, ⟨some (c + 100), .assign (T 0), 0, none, []⟩]) (.cond c x y)) Q σ w := by
 refine zd fun K hK => zaa fun τ => ?_
 simp +decide only [bK, bE, BEq.rfl, hi]
 rw [zu, zff (by decide), locs_envOf, show (k == n) = decide (k = n) by by_cases e : k = n <;> simp [e]]
 refine hK _ _ (W_if hlo (upd_same _ _ _) ?_)
 by_cases e : k = n
 ·rw [if_pos e] at h; rw [if_pos (by simpa using e)]; exact h
 ·rw [if_neg e] at h; rw [if_neg (by simpa using e)]; exact h
theorem W_case2 {loc : List Nat} {N' : Nat} {Q : Exit → Env → World → Prop} {σ : Env} {w : World} {ti i c : Nat} {k n n' : Int} {x y : C} (hlo : zfo loc N') (hi : σ i = .int .i64 k) (hic : i ≠ c) (h : W P loc N' (if k = n ∨ k = n' then x else y) Q (upd σ c (.bool (decide (k = n ∨ k = n')))) w) :
  W P loc N' (.seq (.seq (.ops [⟨some 0, .binOp .eql ti (V i) (.const (.int .i64 n)) ti, 0, none, []⟩, ⟨some (c + 100), .assign (T 0), 0, none, []⟩]) (.cond c .skip (.ops [⟨some 0, .binOp .eql ti (V i) (.const (.int .i64 n')) ti, 0, none, []⟩, ⟨some (c + 100), .assign (T 0), 0, none, []⟩]))) (.cond c x y)) Q σ w := by
 refine zd fun K hK => zqa hlo hi ?_
 by_cases e : k = n
 ·rw [if_pos e]
  refine zbw (hK _ _ ?_)
  rw [show decide (k = n) = decide (k = n ∨ k = n') by simp [e]]
  refine W_if hlo (upd_same _ _ _) ?_
  rw [if_pos (.inl e)] at h
  rw [if_pos (by simp [e])]; exact h
 ·rw [if_neg e]
  refine zaa fun τ => ?_
  have hi' : upd σ c (.bool (decide (k = n))) i = .int .i64 k := by rw [zi hic]; exact hi
  simp +decide only [bK, bE, BEq.rfl, hi']
  rw [zu, zff (by decide), locs_envOf, show (k == n') = decide (k = n') by by_cases e : k = n' <;> simp [e]]
  have hu : upd (upd σ c (.bool (decide (k = n)))) c (.bool (decide (k = n'))) = upd σ c (.bool (decide (k = n ∨ k = n'))) := by
   funext j
   by_cases hj : j = c
   ·subst hj; simp [e]
   ·rw [zi hj, zi hj, zi hj]
  rw [hu]
  refine hK _ _ (W_if hlo (upd_same _ _ _) ?_)
  by_cases e' : k = n'
  ·rw [if_pos (.inr e')] at h; rw [if_pos (by simp [e'])]; exact h
  ·rw [if_neg (by simp [e, e'])] at h; rw [if_neg (by simp [e, e'])]; exact h
theorem sp_width (B : Base P N) (hF : FOk P M.zje 1 (zlo N M) [.var 1]) (w : World) (k : Int) : Call P M.zje #[.int .i64 k] w fun r w' => r = .int .i64 (zgh k) ∧ w = w' := by
 refine hF.call rfl fun loc N' hlo => ?_
 unfold zlo
 refine zd fun K hK => zav (hK _ _ ?_)
 clear hK K
 obtain ⟨σ, hσ⟩ : ∃ σ, σ = upd (zda #[.int .i64 k]) 1 (.int .i64 0) := ⟨_, rfl⟩
 have f0 : σ 0 = .int .i64 k := by rw [hσ, zi (by decide)]; rfl
 rw [← hσ]
 clear hσ
 have fin : ∀ {Q : Exit → Env → World → Prop} {σ : Env} (n : Int), (∀ σ', σ' 1 = .int .i64 n → Q .ret σ' w) → W P loc N' (.seq (zht 1 (.int .i64 n)) .ret) Q σ w := fun n h => zd fun K hK => zav (hK _ _ (zbx (h _ (upd_same _ _ _))))
 have R : ∀ {σ' : Env} {n : Int}, n = zgh k → σ' 1 = .int .i64 n → retQ P [.var 1] (fun r w' => r = .int .i64 (zgh k) ∧ w = w') .ret σ' w := fun {σ' n} hn h => ⟨.inr rfl, _, rfl, by rw [h, hn], rfl⟩
 refine zd fun K hK => zd fun K1 hK1 => zaa fun τ => ?_
 simp +decide only [bK, bE, Nat.reduceAdd, Nat.zero_add, f0]
 refine hK1 _ _ (zf fun σ1 hσ => ?_)
 have g2 := hσ 2
 simp +decide only [bE, BEq.rfl, Nat.reduceAdd] at g2
 clear hσ
 refine zeb (zqa hlo g2 ?_)
 by_cases e1 : k = 1
 ·rw [if_pos e1]
  exact fin 1 fun σ' h => R (by simp [zgh, e1]) h
 rw [if_neg e1]
 refine W_case2 hlo (by rw [zi (by decide)]; exact g2) (by decide) ?_
 by_cases e2 : k = 2 ∨ k = 5
 ·rw [if_pos e2]
  exact fin 2 fun σ' h => R (by simp [zgh, e1, e2]) h
 rw [if_neg e2]
 refine zqa hlo (by rw [zi (by decide), zi (by decide)]; exact g2) ?_
 by_cases e3 : k = 3
 ·rw [if_pos e3]
  exact fin 4 fun σ' h => R (by simp [zgh, e3]) h
 rw [if_neg e3]
 refine zbw (hK _ _ ?_)
 exact fin 8 fun σ' h => R (by simp [zgh, e1, e2, e3]) h
end
abbrev OwnB (w : World) (lo : Nat) (v : Value) (l : List UInt8) : Prop := Own w lo 1 v l.length (l.map zbf)
theorem Own.mono_lo {w : World} {lo lo' sz n : Nat} {v : Value} {cs : List Value} (h : lo' ≤ lo) (ho : Own w lo sz v n cs) : Own w lo' sz v n cs :=
 ho.imp id fun ⟨b, c, e, h1, r⟩ => ⟨b, c, e, Nat.le_trans h h1, r⟩
theorem Own.octA {w : World} {lo : Nat} {v : Value} {l : List UInt8} (ho : OwnB w lo v l) : OctA w v l := by
 rcases ho with ⟨e, h1, _⟩ | ⟨b, c, e, _, _, h1, _, h2, _⟩
 ·exact .inl ⟨_, _, e, List.length_eq_zero_iff.1 h1⟩
 ·exact .inr ⟨b, 0, c, e, h1, h2⟩
theorem zom {w : World} {lo : Nat} : OwnB w lo (.slice none 0 0) [] := .inl ⟨rfl, rfl, rfl⟩
theorem ztl (l : List UInt8) : ∀ c ∈ l.map zbf, c.oneCell' = true := fun c hc => by
 obtain ⟨x, _, rfl⟩ := List.mem_map.1 hc; rfl
theorem Mod.ofOwn {w0 w w' : World} {sz n : Nat} {v : Value} {cs : List Value} (ho : Own w w0.heap.size sz v n cs) (m0 : Mod w0 w zp) (m : Mod w w' fun i _ => ¬ zao v i) : Mod w0 w' zp :=
 m0.fresh m fun _ _ h => (ho.blk h).1
section
variable {P : Program} {N : Nums} {M : zci}
theorem zxn {st et ty : TypeId} {a b sz by' : Nat} {z z' : Value} {d : TypeDesc} (hS : TI P st (.slice et) a b z') (ht : TI P et d sz by' z) {w : World} {lo n m : Nat} {v src : Value} {cs new : List Value} (ho : Own w lo sz v n cs)
  (hsrc : ∀ i : TypeInfo, P.info? et = some i → i.size = sz → Src P i.size st src m new w) (hnl : new.length = m * sz) (hlo : lo ≤ w.heap.size) (hz : z.cells.size = sz)
  (hbig : n + m < 1099511627776) (hby : by' ≤ 128) (hm : v = .slice none 0 0 → 0 < m) :
  ∃ v' w', (Builtin.append_ #[st, st] ty #[v, src]).run P w = .ok v' w' ∧ Own w' lo sz v' (n + m) (cs ++ new) ∧ Mod w w' (fun i _ => ¬ zao v i) ∧ v'.oneCell' = true ∧ (∀ k, k < w.heap.size → zao v k → zao v' k) := by
 obtain ⟨i, hi, hsz, hbytes, hzero⟩ := ht.info
 have hsrc' := hsrc i hi hsz
 clear hsrc
 have hsrc := hsrc'
 clear hsrc'
 subst hsz
 have fits : ∀ c, c < n + m → Builtin.nextslicecap (n + m) c * i.bytes ≤ 281474976710656 := by
  intro c hc
  have h1 := nextslicecap_le hc
  have h2 : Builtin.nextslicecap (n + m) c * i.bytes ≤ (2 * (n + m)) * 128 := Nat.mul_le_mul h1 (by omega)
  omega
 have grown : ∀ (base : Option Addr) (c : Nat), v = .slice base n c → c < n + m → (Builtin.firstCells i.size n (.slice base n c)).run P w.drew = .ok cs.toArray w.drew → cs.length = n * i.size →
   ∃ v' w', (Builtin.append_ #[st, st] ty #[v, src]).run P w = .ok v' w' ∧ Own w' lo i.size v' (n + m) (cs ++ new) ∧ Mod w w' (fun i _ => ¬ zao v i) ∧ v'.oneCell' = true ∧ (∀ k, k < w.heap.size → zao v k → zao v' k) := by
  intro base c hv hc hold' hcl
  have hrun := run_append_grow_src (P := P) w st st ty et i z hS.und hi hzero base n c cs hold' src m new hsrc hc (by omega) (fits c hc)
  refine ⟨_, _, by rw [hv]; exact hrun, .inr ⟨w.heap.size, _, rfl, hlo, by rw [zan]; exact Nat.lt_succ_self _, grownCap_ge w (n + m) c et, ?_, ?_, by rw [List.length_append, hcl, hnl, Nat.add_mul]⟩, (Mod.drew w _).trans' (Mod.alloc _ _ _), rfl, fun k hk _ b o s n c e => by injection e with e1 _ _; injection e1 with e2; injection e2 with e3; omega⟩
  ·have ht2 := zbj w.drew ((cs ++ new).toArray ++ Builtin.zeroCells z.cells (grownCap w (n + m) c et - (n + m))) et
   intro j hj
   refine ht2 j ?_
   have hzc : (Builtin.zeroCells z.cells (grownCap w (n + m) c et - (n + m))).size = (grownCap w (n + m) c et - (n + m)) * i.size := by simp [Builtin.zeroCells, hz]
   rw [Array.size_append, hzc, List.size_toArray, List.length_append, hcl, hnl, ← Nat.add_mul, ← Nat.add_mul]
   have hge := grownCap_ge w (n + m) c et
   rwa [show n + m + (grownCap w (n + m) c et - (n + m)) = grownCap w (n + m) c et by omega]
  ·have hr := zw w.drew ((cs ++ new).toArray ++ Builtin.zeroCells z.cells (grownCap w (n + m) c et - (n + m))) et (0, 0)
   exact (zq.1 (by simpa using hr)).1
 rcases ho with ⟨hv, hn0, hcs⟩ | ⟨b, c, hv, hb1, hb2, hnc, hth, hrg, hcl⟩
 ·subst hcs
  have := hm hv
  exact grown none 0 (by rw [hv, hn0]) (by omega) (by rw [hn0]; rfl) (by rw [hn0]; simp)
 ·by_cases hroom : n + m ≤ c
  ·have hle : n * i.size + new.length ≤ c * i.size := by
    rw [hnl, ← Nat.add_mul]; exact Nat.mul_le_mul_right _ hroom
   have hrun := run_append_room_src (P := P) w st st ty et i hS.und hi b 0 n c src m new hsrc hroom (fun j hj => by
    have := (hth (n * i.size + j) (by omega)).1; simpa [Nat.add_assoc] using this) (fun j hj => by
    have := (hth (n * i.size + j) (by omega)).2; simpa [Nat.add_assoc] using this)
   have ms : Mod w (w.setCells b (0 + n * i.size) new) (rng b (0 + n * i.size) new.length) := Mod.setCells _ _ _ fun _ k h1 h2 => ⟨rfl, h1, h2⟩
   refine ⟨_, _, by rw [hv]; exact hrun, .inr ⟨b, c, rfl, hb1, Nat.lt_of_lt_of_le hb2 ms.size, hroom, ms.there hb2 hth, ?_, by rw [List.length_append, hcl, hnl, Nat.add_mul]⟩, ms.mono (fun k o _ h hn => hn b 0 none n c hv h.1), rfl, fun k hk hn b' o' s' n' c' e => by
    injection e with e1 _ _; injection e1 with e2; injection e2 with e3; subst e3; exact hn b 0 none n c hv⟩
   rw [zq]
   refine ⟨ms.rangeAt hb2 (fun k h1 h2 h => by have := h.2.1; omega) hrg, ?_⟩
   rw [hcl]
   have hex : ∃ old : List Value, old.length = new.length ∧ w.rangeAt b (0 + n * i.size) old := by
    refine ⟨(List.range new.length).map fun j => (w.cell? ⟨b, (0 + n * i.size) + j, none⟩).getD undef, by simp, fun j x hj => ?_⟩
    rw [List.getElem?_map] at hj
    cases hr : (List.range new.length)[j]? with
    | none => rw [hr] at hj; simp at hj
    | some k =>
     rw [hr] at hj
     have hk : k = j := by
      obtain ⟨h1, h2⟩ := List.getElem?_eq_some_iff.1 hr
      simpa using h2.symm
     subst hk
     have hlt : k < new.length := by have := (List.getElem?_eq_some_iff.1 hr).1; simpa using this
     have hs : (w.cell? ⟨b, (0 + n * i.size) + k, none⟩).isSome = true := by have := (hth (n * i.size + k) (by omega)).1; simpa [Nat.add_assoc] using this
     simp only [Option.map_some, Option.some.injEq] at hj
     cases hc : w.cell? ⟨b, (0 + n * i.size) + k, none⟩ with
     | none => rw [hc] at hs; cases hs
     | some x => rw [hc] at hj; simp at hj; rw [hj]
   obtain ⟨old, ho1, ho2⟩ := hex
   have := zak new (0 + n * i.size) w old ho2 (by omega)
   rwa [List.drop_of_length_le (by omega), List.append_nil] at this
  ·have hfc : (Builtin.firstCells i.size n (.slice (some ⟨b, 0, none⟩) n c)).run P w.drew = .ok cs.toArray w.drew :=
    run_firstCells_some w.drew i.size n ⟨b, 0, none⟩ n c cs hcl (fun j u hj => by rw [Addr.add_mid]; exact hrg j u hj)
   exact grown (some ⟨b, 0, none⟩) c hv (by omega) hfc hcl
theorem zft (B : Base P N) {w : World} {lo : Nat} {v src : Value} {l s : List UInt8} {ty : TypeId} (ho : OwnB w lo v l) (hs : OctA w src s) (hlo : lo ≤ w.heap.size) (hbig : l.length + s.length < 1099511627776) :
  ∃ v' w', (Builtin.append_ #[N.za, N.za] ty #[v, src]).run P w = .ok v' w' ∧ OwnB w' lo v' (l ++ s) ∧ Mod w w' (fun i _ => ¬ zao v i) ∧ (∀ k, k < w.heap.size → zao v k → zao v' k) := by
 have main : (v = .slice none 0 0 → 0 < s.length) → ∃ v' w', (Builtin.append_ #[N.za, N.za] ty #[v, src]).run P w = .ok v' w' ∧ OwnB w' lo v' (l ++ s) ∧ Mod w w' (fun i _ => ¬ zao v i) ∧ (∀ k, k < w.heap.size → zao v k → zao v' k) := by
  intro hm
  obtain ⟨v', w', h1, h2, h3, _, h5⟩ := zxn (P := P) (ty := ty) B.Lu8 B.uint8 (m := s.length) (src := src) (new := s.map zbf) ho (fun i hi hsz => by
   rcases hs with ⟨ad, c, rfl, rfl⟩ | ⟨b, o, c, rfl, _, hr⟩
   ·cases ad with
    | none => exact Src.ofNil w B.Lu8.und c
    | some a => exact Src.ofSlice w B.Lu8.und a 0 c [] (by simp) (fun j u hj => by simp at hj) (fun u hu => by cases hu)
   ·exact Src.ofSlice w B.Lu8.und _ _ c _ (by rw [hsz]; simp) (fun j u hj => by rw [Addr.add_mid]; exact hr j u hj) (ztl s)) (by simp) hlo rfl hbig (by decide) hm
  exact ⟨v', w', h1, by rw [OwnB, List.length_append, List.map_append]; exact h2, h3, h5⟩
 by_cases hv : v = .slice none 0 0
 ·by_cases h0 : s = []
  ·subst h0
   have hl : l = [] := by
    rcases ho with ⟨_, e, _⟩ | ⟨b, c, e, _⟩
    ·exact List.length_eq_zero_iff.1 e
    ·rw [hv] at e; cases e
   subst hl hv
   have hsv : ∃ ad c, src = .slice ad 0 c := by
    rcases hs with ⟨ad, c, e, _⟩ | ⟨b, o, c, e, _⟩
    ·exact ⟨ad, c, e⟩
    ·exact ⟨_, c, e⟩
   obtain ⟨ad, c, rfl⟩ := hsv
   exact ⟨_, _, zng B.Lu8 B.uint8, zom, .refl _ _, fun k hk h => h⟩
  ·exact main fun _ => List.length_pos_iff.2 h0
 ·exact main fun h => absurd h hv
theorem zqx (B : Base P N) {w : World} {x : UInt8} : ∃ w', (Instr.buildSlice N.za 1 #[(0, zbf x)]).run P w = .ok (.slice (some ⟨w.heap.size, 0, none⟩) 1 1) w' ∧ Mod w w' zp ∧ w'.heap.size = w.heap.size + 1 ∧ OwnB w' w.heap.size (.slice (some ⟨w.heap.size, 0, none⟩) 1 1) [x] := by
 have h := zfl (w := w) (v := zbf x) (cs := [zbf x]) B.Lu8 B.uint8 rfl rfl (by decide) (by decide)
 refine ⟨_, h, Mod.alloc _ _ _, zan _ _, .inr ⟨w.heap.size, 1, rfl, Nat.le_refl _, by rw [zan]; exact Nat.lt_succ_self _, Nat.le_refl _, ?_, zw w _ _ _, rfl⟩⟩
 exact zbj w [zbf x].toArray N.zx
end
theorem u8_octet (z : Int) : Value.int .u8 (IntKind.u8.wrap z) = zbf (UInt8.ofNat (IntKind.u8.wrap z).toNat) := octet_of (Go.wf_wrap .u8 z)
theorem u8_nat (m : Nat) (h : m < 256) : Value.int .u8 (m : Int) = zbf (UInt8.ofNat m) := by
 have := u8_octet m
 rw [show IntKind.u8.wrap (m : Int) = m by simp [IntKind.wrap, IntKind.signed, IntKind.bits]; omega, Int.toNat_natCast] at this
 exact this
theorem zfc {n : Nat} (h : n < 128) : uvB n = [UInt8.ofNat n] := by rw [uvB, if_pos h]
theorem znb {n : Nat} (h : ¬ n < 128) : uvB n = UInt8.ofNat (n % 128 + 128) :: uvB (n / 128) := by rw [uvB, if_neg h]
theorem uvB_len : ∀ (k n : Nat), n < 128 ^ (k + 1) → (uvB n).length ≤ k + 1
 | 0, n, h => by rw [zfc (by omega)]; simp
 | k + 1, n, h => by
  by_cases h1 : n < 128
  ·rw [zfc h1]; simp
  ·rw [znb h1, List.length_cons]
   have := uvB_len k (n / 128) (by rw [Nat.pow_succ] at h; omega)
   omega
theorem zig {n : Nat} (h : n < 2 ^ 64) : (uvB n).length ≤ 10 := uvB_len 9 n (by
 have : (2 : Nat) ^ 64 ≤ 128 ^ (9 + 1) := by decide
 omega)
theorem band127u (n : Nat) (h : n < 2 ^ 64) : band .u64 n 127 = (n % 128 : Nat) := by
 show IntKind.u64.wrap (((BitVec.ofInt 64 (n : Int) &&& BitVec.ofInt 64 127).toNat : Nat) : Int) = _
 have e1 : BitVec.ofInt 64 (n : Int) = BitVec.ofNat 64 n := by simp
 have e2 : BitVec.ofInt 64 127 = BitVec.ofNat 64 127 := by decide
 rw [e1, e2]
 have e3 : (BitVec.ofNat 64 n &&& BitVec.ofNat 64 127).toNat = n % 128 := by
  rw [BitVec.toNat_and, BitVec.toNat_ofNat, BitVec.toNat_ofNat, Nat.mod_eq_of_lt h]
  show n &&& 127 = _
  exact Nat.and_two_pow_sub_one_eq_mod n 7
 rw [e3]
 exact zem _ (by omega)
theorem bor128 : ∀ n : Nat, n < 128 → bor .u8 n 128 = (n + 128 : Nat) := by
 have h : ∀ n : Fin 128, bor .u8 (n.val : Nat) 128 = (n.val + 128 : Nat) := by decide +kernel
 exact fun n hn => h ⟨n, hn⟩
theorem zwz (n : Nat) (h : n < 256) : IntKind.u8.wrap n = n := by
 simp [IntKind.wrap, IntKind.signed, IntKind.bits]; omega
section
variable {P : Program} {N : Nums} {M : zci}
theorem zmf (B : Base P N) (hF : FOk P M.zco 1 (zhj N M) [.var 1]) (w : World) (n : Nat) (hn : n < 2 ^ 64) : Call P M.zco #[.int .u64 n] w fun r w' => OwnB w' w.heap.size r (uvB n) ∧ Mod w w' zp := by
 refine hF.call rfl fun loc N' hlo => ?_
 unfold zhj
 refine zd fun K hK => zav (hK _ _ ?_)
 clear hK K
 refine zd fun K hK => zav (hK _ _ ?_)
 clear hK K
 obtain ⟨σ, hσ⟩ : ∃ σ, σ = upd (upd (zda #[.int .u64 n]) 1 (.slice none 0 0)) 2 (.slice none 0 0) := ⟨_, rfl⟩
 have f0 : σ 0 = .int .u64 n := by rw [hσ, zi (by decide), zi (by decide)]; rfl
 have f2 : σ 2 = .slice none 0 0 := by rw [hσ, upd_same]
 rw [← hσ]
 clear hσ
 have hlen := zig hn
 refine zd fun K hK => zeb (zna (fun m σ w' => ∃ v acc, m < 2 ^ 64 ∧ σ 0 = .int .u64 (m : Nat) ∧ σ 2 = v ∧ OwnB w' w.heap.size v acc ∧ acc ++ uvB m = uvB n ∧ Mod w w' zp) (n := n) ⟨_, [], hn, f0, f2, zom, by simp, .refl _ _⟩ ?_)
 rintro m σ1 w1 ⟨v, acc, hm, g0, g2, ho, hacc, m1⟩
 have hal : acc.length + (uvB m).length ≤ 10 := by rw [← hacc] at hlen; simpa using hlen
 refine zd fun K1 hK1 => zd fun K2 hK2 => zaa fun τ => ?_
 simp +decide only [bK, bE, BEq.rfl, Nat.reduceAdd, Nat.zero_add, g0]
 refine hK2 _ _ (zf fun σ2 hσ => ?_)
 have p0 := hσ 0
 have p2 := hσ 2
 have p3 := hσ 3
 simp +decide only [bE, Nat.reduceBeqDiff, BEq.rfl, Nat.reduceAdd, Nat.zero_add, g0, g2] at p0 p2 p3
 clear hσ hK2 K2 g0 g2
 refine W_if hlo p3 ?_
 by_cases hs : m < 128
 ·have : ¬ (m : Int) > 127 := by omega
  simp only [this, decide_false, Bool.false_eq_true, if_false]
  refine zlx ?_
  simp only [zdy, inB, if_true]
  refine hK _ _ (zd fun K3 hK3 => zaa fun τ => ?_)
  have hcv := fun {w : World} => zck (P := P) (w := w) (k' := .u64) B.uint64 B.uint8 (n := m) ⟨_, rfl⟩
  have e1 : ∀ ρ : Env, (#[(0, T 2)] : Array (Nat × Operand)).map (fun p => (p.1, ev ρ p.2)) = #[(0, ρ 2)] := fun ρ => by simp
  simp +decide only [bK, bE, Nat.reduceBeqDiff, BEq.rfl, Nat.reduceAdd, Nat.zero_add, p0, p2, hcv, e1, zwz m (by omega)]
  rw [u8_nat m (by omega)]
  obtain ⟨w3, hbs, m3, s3, ho3⟩ := zqx (w := w1) B (x := UInt8.ofNat m)
  simp +decide only [bK, hbs]
  obtain ⟨v4, w4, hap, ho4, m4, _⟩ := zft (ty := N.za) B (ho.stay m3 fun _ _ _ h => h) ho3.octA (by have := m1.size; omega) (by rw [zfc hs] at hal; simp at hal ⊢; omega)
  simp +decide only [bK, hap]
  refine hK3 _ _ (zf fun σ4 hσ => zbx ⟨.inr rfl, _, rfl, ?_⟩)
  have q1 := hσ 1
  simp +decide only [bE, BEq.rfl, Nat.reduceAdd] at q1
  rw [q1]
  refine ⟨?_, Mod.ofOwn (ho.stay m3 fun _ _ _ h => h) (m1.trans' m3) m4⟩
  rw [← hacc, zfc hs]; exact ho4
 ·have : (m : Int) > 127 := by omega
  simp only [this, decide_true, if_true]
  refine zbw (hK1 _ _ (zeb (zd fun K3 hK3 => zaa fun τ => ?_)))
  have hcv := fun {w : World} => zck (P := P) (w := w) (k' := .u64) B.uint64 B.uint8 (n := ((m % 128 : Nat) : Int)) ⟨_, rfl⟩
  have e1 : ∀ ρ : Env, (#[(0, T 4)] : Array (Nat × Operand)).map (fun p => (p.1, ev ρ p.2)) = #[(0, ρ 4)] := fun ρ => by simp
  simp +decide only [bK, bE, Nat.reduceBeqDiff, BEq.rfl, Nat.reduceAdd, Nat.zero_add, p0, p2, band127u m hm, hcv, e1, zwz (m % 128) (by omega), bor128 (m % 128) (by omega)]
  rw [u8_nat (m % 128 + 128) (by omega)]
  obtain ⟨w3, hbs, m3, s3, ho3⟩ := zqx (w := w1) B (x := UInt8.ofNat (m % 128 + 128))
  simp +decide only [bK, hbs]
  obtain ⟨v4, w4, hap, ho4, m4, _⟩ := zft (ty := N.za) B (ho.stay m3 fun _ _ _ h => h) ho3.octA (by have := m1.size; omega) (by simp; omega)
  simp +decide only [bK, hap]
  refine hK3 _ _ (zf fun σ4 hσ => zaa fun τ => ?_)
  have q0 := hσ 0
  have q2 := hσ 2
  simp +decide only [bE, Nat.reduceBeqDiff, BEq.rfl, Nat.reduceAdd, Nat.zero_add, p0] at q0 q2
  clear hσ
  have hsh : (m : Int).fdiv (2 ^ min (7 : Int).toNat IntKind.u64.bits) = ((m / 128 : Nat) : Int) := by
   show (m : Int).fdiv (2 ^ 7) = _
   rw [Int.fdiv_eq_ediv_of_nonneg _ (by decide)]
   omega
  simp +decide only [bK, bE, BEq.rfl, Nat.zero_add, q0]
  rw [run_shr (by decide), hsh]
  simp +decide only [bK]
  simp only [inB, zdy]
  refine zf (K := fun σ' w' => ∃ m', m' < m ∧ ∃ v acc, m' < 2 ^ 64 ∧ σ' 0 = .int .u64 (m' : Nat) ∧ σ' 2 = v ∧ OwnB w' w.heap.size v acc ∧ acc ++ uvB m' = uvB n ∧ Mod w w' zp) fun σ5 hσ => ?_
  have r0 := hσ 0
  have r2 := hσ 2
  simp +decide only [bE, Nat.reduceBeqDiff, BEq.rfl, Nat.reduceAdd, Nat.zero_add, q2] at r0 r2
  exact ⟨m / 128, by omega, v4, _, by omega, r0, r2, ho4, by rw [← hacc, znb hs]; simp, Mod.ofOwn (ho.stay m3 fun _ _ _ h => h) (m1.trans' m3) m4⟩
end
theorem zdf (n : Int) : ∀ k, (fixB n k).length = k
 | 0 => rfl
 | k + 1 => by rw [fixB, List.length_cons, zdf n k]
section
variable {P : Program} {N : Nums} {M : zci}
theorem run_imul {t : TypeId} {x y : Operand} {k : IntKind} {a b : Int} {w : World} : (do eqGuard .mul t x y (.int k a) (.int k b); binOp .mul t (.int k a) (.int k b) : Sem Value).run P w = .ok (.int k (k.wrap (a * b))) w := by
 simp [eqGuard, binOp, Op.intArith]
theorem zqh (B : Base P N) (hF : FOk P M.zdw 2 (zjf N M) [.var 2]) (w : World) (n : Int) (size : Nat) (hs : size ≤ 8) : Call P M.zdw #[.int .i64 n, .int .i64 size] w fun r w' => OwnB w' w.heap.size r (fixB n size) ∧ Mod w w' zp := by
 refine hF.call rfl fun loc N' hlo => ?_
 unfold zjf
 refine zd fun K hK => zav (hK _ _ ?_)
 clear hK K
 refine zd fun K hK => zav (hK _ _ ?_)
 clear hK K
 obtain ⟨σ, hσ⟩ : ∃ σ, σ = upd (upd (zda #[.int .i64 n, .int .i64 size]) 2 (.slice none 0 0)) 3 (.slice none 0 0) := ⟨_, rfl⟩
 have f0 : σ 0 = .int .i64 n := by rw [hσ, zi (by decide), zi (by decide)]; rfl
 have f1 : σ 1 = .int .i64 size := by rw [hσ, zi (by decide), zi (by decide)]; rfl
 have f3 : σ 3 = .slice none 0 0 := by rw [hσ, upd_same]
 rw [← hσ]
 clear hσ
 refine zd fun K hK => zd fun K1 hK1 => zaa fun τ => ?_
 simp +decide only [bK, bE, BEq.rfl, Nat.reduceAdd, f1]
 rw [wrap_i64 (by omega) (by omega)]
 refine hK1 _ _ (zf fun σ1 hσ => ?_)
 have g0 := hσ 0
 have g3 := hσ 3
 have g4 := hσ 4
 simp +decide only [bE, Nat.reduceBeqDiff, BEq.rfl, Nat.reduceAdd, Nat.zero_add, f0, f3] at g0 g3 g4
 clear hσ f0 f1 f3
 refine zeb (zna (fun m σ w' => ∃ v acc, m ≤ size ∧ σ 0 = .int .i64 n ∧ σ 4 = .int .i64 ((m : Int) - 1) ∧ σ 3 = v ∧ OwnB w' w.heap.size v acc ∧ acc ++ fixB n m = fixB n size ∧ Mod w w' zp) (n := size) ⟨_, [], Nat.le_refl _, g0, g4, g3, zom, by simp, .refl _ _⟩ ?_)
 clear g0 g3 g4
 rintro m σ1 w1 ⟨v, acc, hm, g0, g4, g3, ho, hacc, m1⟩
 have hal : acc.length + m = size := by
  have := congrArg List.length hacc
  simpa [zdf] using this
 refine zd fun K2 hK2 => zd fun K3 hK3 => zaa fun τ => ?_
 simp +decide only [bK, bE, BEq.rfl, Nat.reduceAdd, g4]
 refine hK3 _ _ (zf fun σ2 hσ => ?_)
 have p0 := hσ 0
 have p3 := hσ 3
 have p4 := hσ 4
 have p5 := hσ 5
 simp +decide only [bE, Nat.reduceBeqDiff, BEq.rfl, Nat.reduceAdd, Nat.zero_add, g0, g3, g4] at p0 p3 p4 p5
 clear hσ hK3 K3 g0 g3 g4
 refine W_if hlo p5 ?_
 cases m with
 | zero =>
  rw [if_neg (by decide)]
  refine zlx ?_
  simp only [zdy, inB, if_true]
  refine hK _ _ (zd fun K3 hK3 => zaa fun τ => ?_)
  simp +decide only [bK, bE, BEq.rfl, Nat.reduceAdd, p3]
  refine hK3 _ _ (zf fun σ4 hσ => zbx ⟨.inr rfl, _, rfl, ?_⟩)
  have q2 := hσ 2
  simp +decide only [bE, BEq.rfl, Nat.reduceAdd] at q2
  rw [q2, ← hacc]
  simp only [fixB, List.append_nil]
  exact ⟨ho, m1⟩
 | succ k =>
  rw [if_pos (by simp)]
  refine zbw (hK2 _ _ (zd fun K3 hK3 => zeb (zaa fun τ => ?_)))
  have e1 : ∀ ρ : Env, (#[(0, T 5)] : Array (Nat × Operand)).map (fun p => (p.1, ev ρ p.2)) = #[(0, ρ 5)] := fun ρ => by simp
  have hk : (((k + 1 : Nat) : Int) - 1) = (k : Int) := by omega
  rw [hk] at p4
  have hmul : IntKind.i64.wrap (8 * (k : Int)) = ((8 * k : Nat) : Int) := by rw [wrap_i64 (by omega) (by omega)]; omega
  have hsh : n.fdiv (2 ^ min (((8 * k : Nat) : Int)).toNat IntKind.i64.bits) = n.fdiv (2 ^ (8 * k)) := by
   rw [show min (((8 * k : Nat) : Int)).toNat IntKind.i64.bits = 8 * k by
    show min _ 64 = _
    omega]
  have hcv := fun {w : World} => zck (P := P) (w := w) (k' := .i64) B.int64 B.uint8 (n := n.fdiv (2 ^ (8 * k))) ⟨_, rfl⟩
  simp +decide only [bK, bE, Nat.reduceBeqDiff, BEq.rfl, Nat.reduceAdd, Nat.zero_add, p0, p3, p4, run_imul, hmul]
  rw [run_shr (by omega), hsh]
  simp +decide only [bK, bE, BEq.rfl, hcv, e1]
  rw [u8_octet]
  obtain ⟨w3, hbs, m3, s3, ho3⟩ := zqx (w := w1) B (x := UInt8.ofNat (IntKind.u8.wrap (n.fdiv (2 ^ (8 * k)))).toNat)
  simp +decide only [bK, hbs]
  obtain ⟨v4, w4, hap, ho4, m4, _⟩ := zft (ty := N.za) B (ho.stay m3 fun _ _ _ h => h) ho3.octA (by have := m1.size; omega) (by simp; omega)
  simp +decide only [bK, hap]
  simp only [inB]
  refine zf (K := fun σ' w' => zdy K3 _ .normal σ' w') fun σ4 hσ => hK3 _ _ ?_
  have q0 := hσ 0
  have q3 := hσ 3
  have q4 := hσ 4
  simp +decide only [bE, Nat.reduceBeqDiff, BEq.rfl, Nat.reduceAdd, Nat.zero_add, p0, p4] at q0 q3 q4
  clear hσ
  refine zaa fun τ => ?_
  simp +decide only [bK, bE, BEq.rfl, Nat.reduceAdd, q4]
  rw [wrap_i64 (by omega) (by omega)]
  simp only [zdy]
  refine zf (K := fun σ' w' => ∃ m', m' < k + 1 ∧ ∃ v acc, m' ≤ size ∧ σ' 0 = .int .i64 n ∧ σ' 4 = .int .i64 ((m' : Int) - 1) ∧ σ' 3 = v ∧ OwnB w' w.heap.size v acc ∧ acc ++ fixB n m' = fixB n size ∧ Mod w w' zp) fun σ5 hσ => ?_
  have r0 := hσ 0
  have r3 := hσ 3
  have r4 := hσ 4
  simp +decide only [bE, Nat.reduceBeqDiff, BEq.rfl, Nat.reduceAdd, Nat.zero_add, q0, q3] at r0 r3 r4
  exact ⟨k, by omega, v4, _, by omega, r0, r4, r3, ho4, by rw [← hacc]; simp [fixB], Mod.ofOwn (ho.stay m3 fun _ _ _ h => h) (m1.trans' m3) m4⟩
theorem zsv (B : Base P N) (hU : FOk P M.zco 1 (zhj N M) [.var 1]) (hX : FOk P M.zdw 2 (zjf N M) [.var 2]) (hF : FOk P M.zdp 4 (zjo N M) [.var 4]) (w : World) (flex null : Bool) (n size : Nat) (hn : n ≤ 32767) (hs : size ≤ 8) :
  Call P M.zdp #[.bool flex, .bool null, .int .i64 n, .int .i64 size] w fun r w' => OwnB w' w.heap.size r (zby flex null n size) ∧ Mod w w' zp := by
 refine hF.call rfl fun loc N' hlo => ?_
 unfold zjo
 refine zd fun K hK => zav (hK _ _ ?_)
 clear hK K
 obtain ⟨σ, hσ⟩ : ∃ σ, σ = upd (zda #[.bool flex, .bool null, .int .i64 n, .int .i64 size]) 4 (.slice none 0 0) := ⟨_, rfl⟩
 have f0 : σ 0 = .bool flex := by rw [hσ, zi (by decide)]; rfl
 have f1 : σ 1 = .bool null := by rw [hσ, zi (by decide)]; rfl
 have f2 : σ 2 = .int .i64 n := by rw [hσ, zi (by decide)]; rfl
 have f3 : σ 3 = .int .i64 size := by rw [hσ, zi (by decide)]; rfl
 rw [← hσ]
 clear hσ
 refine zd fun K hK => zeb (zd fun K1 hK1 => zaa fun τ => ?_)
 have st : ∀ {σ' : Env}, σ' 5 = .bool (flex && null) → σ' 0 = .bool flex → σ' 1 = .bool null → σ' 2 = .int .i64 n → σ' 3 = .int .i64 size → K1 σ' w := by
  intro σ' h5 h0 h1 h2 h3
  refine hK1 _ _ (W_if hlo h5 ?_)
  by_cases a : (flex && null) = true
  ·rw [if_pos a]
   refine zd fun K2 hK2 => zaa fun τ => ?_
   have e1 : ∀ ρ : Env, (#[(0, .const (.int .u8 0))] : Array (Nat × Operand)).map (fun p => (p.1, ev ρ p.2)) = #[(0, zbf 0)] := fun ρ => by simp [zbf]
   obtain ⟨w3, hbs, m3, s3, ho3⟩ := zqx (P := P) (w := w) B (x := 0)
   simp +decide only [bK, bE, BEq.rfl, Nat.reduceAdd, e1, hbs]
   refine hK2 _ _ (zf fun σ4 hσ => zbx ?_)
   simp only [inB]
   refine ⟨.inr rfl, _, rfl, ?_⟩
   have q := hσ 4
   simp +decide only [bE, BEq.rfl, Nat.reduceAdd] at q
   rw [q, zby, if_pos a]
   exact ⟨ho3, m3⟩
  ·rw [if_neg a]
   refine zd fun K2 hK2 => zaa fun τ => ?_
   simp +decide only [bK, bE, BEq.rfl, Nat.reduceAdd, Nat.zero_add, h0]
   refine hK2 _ _ (zf fun σ4 hσ => ?_)
   have q1 := hσ 1
   have q2 := hσ 2
   have q3 := hσ 3
   have q6 := hσ 6
   simp +decide only [bE, Nat.reduceBeqDiff, BEq.rfl, Nat.reduceAdd, h1, h2, h3] at q1 q2 q3 q6
   clear hσ hK2 K2
   refine W_if hlo q6 ?_
   cases flex with
   | true =>
    simp only [if_true]
    refine zd fun K2 hK2 => zaa fun τ => ?_
    have hcv := fun {w : World} => zck (P := P) (w := w) (k' := .i64) B.int B.uint64 (n := n) ⟨_, rfl⟩
    simp +decide only [bK, bE, BEq.rfl, Nat.reduceAdd, q2, hcv]
    rw [zem n (by omega), show (n : Int) + 1 = ((n + 1 : Nat) : Int) by omega, zem (n + 1) (by omega), zal hU.has]
    simp +decide only [bK, bE, BEq.rfl]
    refine (zmf B hU w (n + 1) (by omega)).mono ?_
    rintro r w1 ⟨ho, m1⟩
    refine hK2 _ _ (zf fun σ5 hσ => zbx ?_)
    simp only [inB]
    refine ⟨.inr rfl, _, rfl, ?_⟩
    have q := hσ 4
    simp +decide only [bE, BEq.rfl, Nat.reduceAdd] at q
    rw [q, zby, if_neg a, if_pos rfl]
    exact ⟨ho, m1⟩
   | false =>
    simp only [Bool.false_eq_true, if_false]
    refine zd fun K2 hK2 => zaa fun τ => ?_
    simp +decide only [bK, bE, BEq.rfl, Nat.reduceAdd, q1]
    refine hK2 _ _ (zf fun σ5 hσ => ?_)
    have p2 := hσ 2
    have p3 := hσ 3
    have p7 := hσ 7
    simp +decide only [bE, Nat.reduceBeqDiff, BEq.rfl, Nat.reduceAdd, q2, q3] at p2 p3 p7
    clear hσ hK2 K2
    refine W_if hlo p7 ?_
    cases null with
    | true =>
     simp only [if_true]
     refine zd fun K2 hK2 => zaa fun τ => ?_
     simp +decide only [bK, bE, Nat.reduceAdd, p3]
     rw [zcs hX.has]
     simp +decide only [bK, bE, BEq.rfl]
     refine (zqh B hX w (-1) size hs).mono ?_
     rintro r w1 ⟨ho, m1⟩
     refine hK2 _ _ (zf fun σ6 hσ => zbx ?_)
     simp only [inB]
     refine ⟨.inr rfl, _, rfl, ?_⟩
     have q := hσ 4
     simp +decide only [bE, BEq.rfl, Nat.reduceAdd] at q
     rw [q, zby, if_neg a, if_neg (by decide), if_pos rfl]
     exact ⟨ho, m1⟩
    | false =>
     simp only [Bool.false_eq_true, if_false]
     refine zbw ?_
     simp only [inB]
     refine hK _ _ (zd fun K2 hK2 => zaa fun τ => ?_)
     simp +decide only [bK, bE, Nat.reduceBeqDiff, Nat.reduceAdd, p2, p3]
     rw [zcs hX.has]
     simp +decide only [bK, bE, Nat.reduceBeqDiff, BEq.rfl]
     refine (zqh B hX w n size hs).mono ?_
     rintro r w1 ⟨ho, m1⟩
     refine hK2 _ _ (zf fun σ6 hσ => zbx ⟨.inr rfl, _, rfl, ?_⟩)
     have q := hσ 4
     simp +decide only [bE, BEq.rfl, Nat.reduceAdd] at q
     rw [q, zby, if_neg a, if_neg (by decide), if_neg (by decide)]
     exact ⟨ho, m1⟩
 cases flex with
 | true =>
  simp +decide only [bK, bE, Nat.reduceBeqDiff, BEq.rfl, Nat.reduceAdd, Nat.zero_add, if_true, f0, f1, zas, zcc]
  refine zf fun σ' hσ => st ?_ ?_ ?_ ?_ ?_
  ·have q := hσ 5; simp +decide only [bE, BEq.rfl, Nat.reduceAdd] at q; simpa using q
  ·have q := hσ 0; simp +decide only [bE, Nat.reduceBeqDiff, Nat.zero_add, f0] at q; exact q
  ·have q := hσ 1; simp +decide only [bE, Nat.reduceBeqDiff, Nat.reduceAdd, f1] at q; exact q
  ·have q := hσ 2; simp +decide only [bE, Nat.reduceBeqDiff, Nat.reduceAdd, f2] at q; exact q
  ·have q := hσ 3; simp +decide only [bE, Nat.reduceBeqDiff, Nat.reduceAdd, f3] at q; exact q
 | false =>
  simp +decide only [bK, bE, Nat.reduceBeqDiff, BEq.rfl, Nat.reduceAdd, Nat.zero_add, if_false, f0, zbs, Bool.not_true, zcc]
  refine zf fun σ' hσ => st ?_ ?_ ?_ ?_ ?_
  ·have q := hσ 5; simp +decide only [bE, BEq.rfl, Nat.reduceAdd] at q; simpa using q
  ·have q := hσ 0; simp +decide only [bE, Nat.reduceBeqDiff, Nat.zero_add, f0] at q; exact q
  ·have q := hσ 1; simp +decide only [bE, Nat.reduceBeqDiff, Nat.reduceAdd, f1] at q; exact q
  ·have q := hσ 2; simp +decide only [bE, Nat.reduceBeqDiff, Nat.reduceAdd, f2] at q; exact q
  ·have q := hσ 3; simp +decide only [bE, Nat.reduceBeqDiff, Nat.reduceAdd, f3] at q; exact q
end
theorem UsA.get : ∀ {u : List (Nat × List UInt8)} {w : World} {cs : List Value} {j : Nat} {x : Nat × List UInt8}, UsA w u cs → u[j]? = some x → ∃ v, cs[j * 2]? = some (.int .u32 x.1) ∧ cs[j * 2 + 1]? = some v ∧ OctA w v x.2
 | [], _, _, j, x, _, hj => by simp at hj
 | (k, l) :: r, _, _, 0, x, ⟨v, rest, h1, h2, h3⟩, hj => by subst h1; simp at hj; subst hj; exact ⟨v, rfl, rfl, h2⟩
 | (k, l) :: r, _, _, j + 1, x, ⟨v, rest, h1, h2, h3⟩, hj => by
  subst h1
  obtain ⟨v', g1, g2, g3⟩ := UsA.get h3 (by simpa using hj)
  exact ⟨v', by rw [show (j + 1) * 2 = j * 2 + 2 by omega]; simpa using g1, by rw [show (j + 1) * 2 + 1 = j * 2 + 1 + 2 by omega]; simpa using g2, g3⟩
theorem zks.get {w : World} {v : Value} {u : List (Nat × List UInt8)} (h : zks w v u) {j : Nat} {x : Nat × List UInt8} (hj : u[j]? = some x) : ∃ b o c s, v = .slice (some ⟨b, o, none⟩) u.length c ∧ OctA w s x.2 ∧ w.rangeAt b (o + j * 2) [.int .u32 x.1, s] := by
 rcases h with ⟨ad, c, rfl, rfl⟩ | ⟨b, o, c, cs, rfl, h1, h2, h3⟩
 ·simp at hj
 ·obtain ⟨s, g1, g2, g3⟩ := h2.get hj
  refine ⟨b, o, c, s, rfl, g3, fun i y hy => ?_⟩
  match i, hy with
  | 0, hy => simp at hy; subst hy; exact h3 _ _ g1
  | 1, hy => simp at hy; subst hy; have := h3 _ _ g2; rwa [show o + (j * 2 + 1) = o + j * 2 + 1 by omega] at this
section
variable {P : Program} {N : Nums} {M : zci}
theorem zkb {loc : List Nat} {N' : Nat} {Q : Exit → Env → World → Prop} {σ : Env} {w : World} (hlo : zfo loc N') {i l c k L : Nat} {body : C} (hL : L < 4611686018427387904) (I : Nat → Env → World → Prop)
  (hI : ∀ j σ w, I j σ w → σ i = .int .i64 j ∧ σ l = .int .i64 L ∧ j ≤ L) (hc : ∀ j σ w b, I j σ w → I j (upd σ c (.bool b)) w)
  (h0 : I 0 σ w) (hend : ∀ σ w, I L σ w → Q .normal σ w)
  (hb : ∀ j σ w, j < L → I j σ w → W P loc N' body (fun e σ' w' => match e with
   | .normal => σ' i = .int .i64 j ∧ I (j + 1) (upd σ' i (.int .i64 ((j + 1 : Nat) : Int))) w'
   | .exit m => m = k + 1 ∧ σ' i = .int .i64 j ∧ I (j + 1) (upd σ' i (.int .i64 ((j + 1 : Nat) : Int))) w'
   | .ret => Q .ret σ' w'
   | _ => False) σ w) : W P loc N' (zru N i l c k body) Q σ w := by
 refine zeb (zna (fun m σ w => ∃ j, m = L - j ∧ I j σ w) (n := L) ⟨0, by omega, h0⟩ ?_)
 rintro m σ1 w1 ⟨j, rfl, hj⟩
 obtain ⟨f1, f2, f3⟩ := hI j σ1 w1 hj
 refine zd fun K hK => zaa fun τ => ?_
 simp +decide (disch := omega) only [bK, bE, f1, f2, zu, locs_envOf]
 refine hK _ _ ?_
 clear hK K
 refine zd fun K hK => W_if hlo (upd_same _ _ _) ?_
 by_cases hlt : (j : Int) < L
 ·rw [decide_eq_true hlt, if_pos rfl]
  refine zbw (hK _ _ ?_)
  clear hK K
  have hj2 := hc j σ1 w1 true hj
  refine zd fun K hK => zeb (zhw (hb j _ w1 (by omega) hj2) ?_)
  have next : ∀ (σ2 : Env) (w2 : World), σ2 i = .int .i64 j → I (j + 1) (upd σ2 i (.int .i64 ((j + 1 : Nat) : Int))) w2 → K σ2 w2 := by
   intro σ2 w2 g1 g2
   refine hK _ _ (zaa fun τ => ?_)
   have hw : IntKind.i64.wrap ((j : Int) + 1) = (((j + 1 : Nat) : Int)) := by
    rw [show ((j : Int) + 1) = ((j + 1 : Nat) : Int) by omega]
    exact wrap_i64 (by omega) (by omega)
   simp +decide (disch := omega) only [bK, bE, BEq.rfl, g1, hw, zu, zap, locs_envOf]
   exact ⟨L - (j + 1), by omega, j + 1, rfl, g2⟩
  rintro e σ2 w2 hq
  cases e with
  | normal => exact next _ _ hq.1 hq.2
  | exit m =>
   obtain ⟨rfl, g1, g2⟩ := hq
   simp only [inB, if_true]
   exact next _ _ g1 g2
  | ret => exact hq
  | _ => exact hq.elim
 ·rw [decide_eq_false hlt, if_neg (by simp)]
  refine zlx ?_
  simp only [zdy, inB, if_true]
  have hjL : j = L := by omega
  subst hjL
  exact hend _ _ (hc _ _ _ _ hj)
theorem zuv {t : TypeId} {fs : Array Field} {sz by' : Nat} {z cs : List Value} (h : TI P t (.struct fs) sz by' (.agg z.toArray)) (hz : ∀ c ∈ z, c.oneCell' = true) (hzl : z.length = sz) (hl : cs.length = sz) (h1 : ∀ c ∈ cs, c.oneCell' = true) (w : World) :
  ∃ w1 w2, (∀ old : Value, (Instr.alloc t true old).run P w = .ok (.pointer (some ⟨w.heap.size, 0, none⟩)) w1) ∧ (Instr.storeAt t (.pointer (some ⟨w.heap.size, 0, none⟩)) (.agg cs.toArray)).run P w1 = .ok () w2 ∧
   Mod w w1 zp ∧ Mod w w2 zp ∧ w2.heap.size = w.heap.size + 1 ∧ w2.rangeAt w.heap.size 0 cs ∧ w2.there w.heap.size 0 sz := by
 have hc : Value.cells (.agg z.toArray) = z.toArray := by
  simp [Value.cells]
 obtain ⟨w1, hw1⟩ : ∃ w1, w1 = w.alloc (.cells (Value.cells (.agg z.toArray)) t) := ⟨_, rfl⟩
 have m1 : Mod w w1 zp := by rw [hw1]; exact Mod.alloc _ _ _
 have r1 : w1.rangeAt w.heap.size 0 z := by rw [hw1]; exact zw w z.toArray _ _
 have t1 : w1.there w.heap.size 0 sz := by rw [hw1, ← hzl]; exact zbj w z.toArray t
 have s1 : w1.heap.size = w.heap.size + 1 := by rw [hw1]; exact zan _ _
 have hst := h.run_store (w := w1) (b := w.heap.size) (o := 0) (v := .agg cs.toArray) (cs := cs) rfl hl t1 h1
 have ms : Mod w1 (w1.setCells w.heap.size 0 cs) (blk w.heap.size) := Mod.setCells _ _ _ fun _ _ _ _ => rfl
 refine ⟨w1, _, fun old => by rw [hw1]; exact h.run_alloc old, hst, m1, m1.fresh ms fun k o h => by have : k = w.heap.size := h; omega, by rw [zdo]; exact s1, ?_, ms.there (by omega) t1⟩
 have := zak cs 0 w1 _ r1 (by omega)
 rwa [List.drop_of_length_le (by omega), List.append_nil] at this
theorem zks.run_len (S : SpT P N M) {w w' : World} {v : Value} {l : List (Nat × List UInt8)} (h : zks w v l) {ty : TypeId} : (Builtin.len_ #[N.zh] ty #[v]).run P w' = .ok (.int .i64 l.length) w' := by
 rcases h with ⟨ad, c, rfl, rfl⟩ | ⟨b, o, c, css, rfl, _⟩
 ·exact S.tr.lg.run_len
 ·exact S.tr.lg.run_len
end
def numK (k n : Int) : Int := if k = 0 then band .i64 n 1 else if k = 1 then IntKind.i64.wrap (IntKind.i8.wrap n) else if k = 2 then IntKind.i64.wrap (IntKind.i16.wrap n) else if k = 3 then IntKind.i64.wrap (IntKind.i32.wrap n) else if k = 5 then IntKind.i64.wrap (IntKind.u16.wrap n) else n
section
variable {P : Program} {N : Nums} {M : zci}
end
def idB (s : List UInt8) : List UInt8 := s.take 16 ++ List.replicate (16 - s.length) 0
theorem band1 (n : Int) : band .i64 n 1 = n % 2 := by
 show IntKind.i64.wrap (((BitVec.ofInt 64 n &&& BitVec.ofInt 64 1).toNat : Nat) : Int) = _
 have e2 : BitVec.ofInt 64 1 = BitVec.ofNat 64 1 := by decide
 rw [e2, BitVec.toNat_and, BitVec.toNat_ofInt, BitVec.toNat_ofNat]
 have e3 : (n % (2 ^ 64 : Nat)).toNat &&& (1 % 2 ^ 64) = (n % 2).toNat := by
  show (n % (2 ^ 64 : Nat)).toNat &&& 1 = _
  rw [Nat.and_one_is_mod]
  omega
 rw [e3]
 rw [wrap_i64 (by omega) (by omega)]
 omega
section
variable {P : Program} {N : Nums} {M : zci}
theorem run_mk16 (B : Base P N) (w : World) : ∃ w1, (Instr.makeSlice N.za (.int .i64 16) (.int .i64 16)).run P w = .ok (.slice (some ⟨w.heap.size, 0, none⟩) 16 16) w1 ∧ Mod w w1 zp ∧ w1.heap.size = w.heap.size + 1 ∧ OwnB w1 w.heap.size (.slice (some ⟨w.heap.size, 0, none⟩) 16 16) (List.replicate 16 0) := by
 obtain ⟨i, hi, hsz, hbytes, hzero⟩ := B.uint8.info
 have hr := run_make (P := P) w N.za N.zx i _ B.Lu8.und hi hzero .i64 .i64 16 16 (by decide) (by decide) (by rw [hbytes]; decide) (by omega)
 rw [hsz] at hr
 refine ⟨_, hr, Mod.alloc _ _ _, zan _ _, .inr ⟨w.heap.size, 16, rfl, Nat.le_refl _, by rw [zan]; exact Nat.lt_succ_self _, Nat.le_refl _, ?_, ?_, rfl⟩⟩
 ·have := zbj w (madeCells (Value.cells (.int .u8 0)) (16 * 1)) N.zx
  rw [size_madeCells] at this
  exact this
 ·have := zw w (madeCells (Value.cells (.int .u8 0)) (16 * 1)) N.zx (0, 0)
  have e : (madeCells (Value.cells (.int .u8 0)) (16 * 1)).toList = (List.replicate 16 (0 : UInt8)).map zbf := by kernel_rfl
  rw [e] at this
  exact this
theorem run_cp16 (B : Base P N) {w : World} {b : Nat} {src : Value} {s : List UInt8} {ty : TypeId} (ho : OwnB w b (.slice (some ⟨b, 0, none⟩) 16 16) (List.replicate 16 0)) (hs : OctA w src s) :
  ∃ v w2, (Builtin.copy_ #[N.za, N.za] ty #[.slice (some ⟨b, 0, none⟩) 16 16, src]).run P w = .ok v w2 ∧ OwnB w2 b (.slice (some ⟨b, 0, none⟩) 16 16) (idB s) ∧ Mod w w2 (blk b) ∧ w2.heap.size = w.heap.size := by
 obtain ⟨i, hi, hsz, _, _⟩ := B.uint8.info
 have hs1 : (P.info? N.zx).map (·.size) = some 1 := by rw [hi]; simp [hsz]
 rcases ho with ⟨e, _, _⟩ | ⟨b', c, e, h1, h2, h3, h4, h5, h6⟩
 ·cases e
 injection e with e1 _ e3
 injection e1 with e2
 injection e2 with e4
 subst e4 e3
 have hidl : (idB s).length = 16 := by simp [idB]; omega
 have hset : ∀ l : List UInt8, l.length ≤ 16 → (w.setCells b 0 (l.map zbf)).rangeAt b 0 ((l ++ List.replicate (16 - l.length) 0).map zbf) := by
  intro l hl
  have := zak (l.map zbf) 0 w _ h5 (by simp; omega)
  rw [List.map_append]
  rwa [show ((List.replicate 16 (0 : UInt8)).map zbf).drop (l.map zbf).length = (List.replicate (16 - l.length) 0).map zbf by rw [List.length_map, ← List.map_drop, List.drop_replicate]] at this
 have ms : ∀ l : List UInt8, Mod w (w.setCells b 0 (l.map zbf)) (blk b) := fun l => Mod.setCells _ _ _ fun _ _ _ _ => rfl
 have fin : ∀ l : List UInt8, l = s.take 16 → ∃ v w2, (goInt l.length, w.setCells b 0 (l.map zbf)) = (v, w2) ∧ OwnB w2 b (.slice (some ⟨b, 0, none⟩) 16 16) (idB s) ∧ Mod w w2 (blk b) ∧ w2.heap.size = w.heap.size := by
  rintro l rfl
  refine ⟨_, _, rfl, .inr ⟨b, 16, by rw [hidl], Nat.le_refl _, by rw [zdo]; exact h2, by rw [hidl]; exact Nat.le_refl _, (ms _).there h2 h4, ?_, by simp⟩, ms _, zdo _ _ _⟩
  have := hset (s.take 16) (by simp; omega)
  rwa [show s.take 16 ++ List.replicate (16 - (s.take 16).length) 0 = idB s by
   unfold idB; rw [List.length_take]; congr 2; omega] at this
 rcases hs with ⟨ad, c', rfl, rfl⟩ | ⟨b2, o2, c2, rfl, g1, g2⟩
 ·obtain ⟨v, w2, he, r⟩ := fin [] rfl
  cases he
  exact ⟨_, _, run_copy_none w _ _ _ _ _ _ _ _ _ _ B.Lu8.und hs1 (by simp []), r⟩
 ·obtain ⟨v, w2, he, r⟩ := fin (s.take 16) rfl
  cases he
  refine ⟨goInt (s.take 16).length, _, ?_, r⟩
  have := run_copy_cells (P := P) w N.za N.za ty N.zx b 0 16 16 ⟨b2, o2, none⟩ s.length c2 ((s.take 16).map zbf) B.Lu8.und hs1 (by rw [List.length_map, List.length_take, Nat.min_comm]) (fun j u hj => by
   rw [Addr.add_mid]
   refine g2 j u ?_
   rw [List.getElem?_map] at hj ⊢
   cases hx : (s.take 16)[j]? with
   | none => rw [hx] at hj; simp at hj
   | some y =>
    have hj16 : j < 16 := by have := (List.getElem?_eq_some_iff.1 hx).1; rw [List.length_take] at this; omega
    rw [hx] at hj
    rw [List.getElem?_take_of_lt hj16] at hx
    rw [hx]; exact hj) (fun j hj => by
   have := (h4 j (by simp at hj; omega)).1
   simpa using this) (fun j hj => by
   have := (h4 j (by simp at hj; omega)).2
   simpa using this) (ztl _)
  rw [List.length_map] at this
  exact this
end
def Gave (w : World) (x : List UInt8) (r : Value) (w' : World) : Prop := OwnB w' w.heap.size r x ∧ Mod w w' zp
def zto (P : Program) (M : zci) (flex : Bool) (v : Int) (fs : List Fld) : Prop := ∀ (w : World) (fv : Value) (t : Tr) (cs : List Value), zgs w fv fs → RepA w t cs → wfT t → (zdk flex v fs t).length < 549755813888 →
 Call P M.zir #[fv, .int .i64 v, .bool flex, .agg cs.toArray] w (Gave w (zdk flex v fs t))
structure VSt (σ : Env) (kind : Int) (fv : Value) (null : Bool) (v : Int) (flex : Bool) (b : Nat) : Prop where
 h0 : σ 0 = .int .i64 kind
 h1 : σ 1 = fv
 h2 : σ 2 = .bool null
 h3 : σ 3 = .int .i64 v
 h4 : σ 4 = .bool flex
 h6 : σ 6 = .pointer (some ⟨b, 0, none⟩)
 h8 : σ 8 = .int .i64 kind
theorem VSt.upd {σ : Env} {kind : Int} {fv : Value} {null : Bool} {v : Int} {flex : Bool} {b : Nat} (h : VSt σ kind fv null v flex b) {i : Nat} (hi : 9 ≤ i) (x : Value) : VSt (upd σ i x) kind fv null v flex b := by
 obtain ⟨h0, h1, h2, h3, h4, h6, h8⟩ := h
 constructor <;> (rw [zi (by omega)]; assumption)
section
variable {P : Program} {N : Nums} {M : zci}
theorem zww (B : Base P N) (S : SpT P N M) (hW : SW P N M) {loc : List Nat} {N' : Nat} (hlo : zfo loc N') {σ : Env} {w0 w : World} {kind v : Int} {fv vs : Value} {null flex : Bool} {b k k2 size : Nat} {s : List UInt8} (hst : VSt σ kind fv null v flex b) (hb : w.cell? ⟨b, 1, none⟩ = some vs) (ho : OctA w vs s) (m0 : Mod w0 w zp) (hk : 9 ≤ k) (hk2 : 9 ≤ k2) (hkk : k ≠ k2) (hs : size ≤ 8) :
  W P loc N' (.seq (.ops [⟨some 0, .fieldAddr N.zb (V 6) 1, 0, none, []⟩, ⟨some 1, .load N.za (T 0), 0, none, []⟩, ⟨some 2, .call ⟨.value (.func M.zdv), #[T 1], #[N.za]⟩, N.za, none, []⟩, ⟨some (k + 100), .assign (T 2), 0, none, []⟩])
   (.seq (.seq (.ops [⟨some (k2 + 100), .move (V 2), 0, none, []⟩]) (.cond k2 (.ops [⟨some (k + 100), .assign (.const (.slice none 0 0)), 0, none, []⟩]) .skip))
   (.seq (.ops [⟨some 0, .move (V 4), 0, none, []⟩, ⟨some 1, .move (V 2), 0, none, []⟩, ⟨some 2, .move (V k), 0, none, []⟩, ⟨some 3, .call ⟨.builtin .len, #[T 2], #[N.za]⟩, N.ze, none, []⟩, ⟨some 4, .call ⟨.value (.func M.zdp), #[T 0, T 1, T 3, .const (.int .i64 (size : Nat))], #[N.zah, N.zah, N.ze, N.ze]⟩, N.za, none, []⟩, ⟨some 5, .move (V k), 0, none, []⟩, ⟨some 6, .call ⟨.builtin .append, #[T 4, T 5], #[N.za, N.za]⟩, N.za, none, []⟩, ⟨some 107, .assign (T 6), 0, none, []⟩]) .ret)))
   (fun e σ' w' => e = .ret ∧ Gave w0 (zby flex null (if null then [] else zbz s).length size ++ (if null then [] else zbz s)) (σ' 7) w') σ w := by
 have hal : (zbz s).length ≤ 32767 := by simp [zbz, most]; omega
 refine zd fun K hK => zaa fun τ => ?_
 simp +decide only [bK, bE, BEq.rfl, Nat.reduceAdd, Nat.zero_add, hst.h6, S.tr.h1.run, B.Lu8.run_load1 rfl, hb]
 rw [zal hW.whole.has]
 simp +decide only [bK, bE, BEq.rfl]
 refine (zth B hW.whole ho).mono ?_
 rintro x _ ⟨rfl, hx⟩
 rw [zu, zff (by decide), zff (by decide), zff (by decide), locs_envOf]
 refine hK _ _ ?_
 clear hK K
 have h1 : VSt (upd σ k x) kind fv null v flex b := hst.upd hk x
 have g1 : (upd σ k x) k = x := upd_same _ _ _
 obtain ⟨σ1, hσ1⟩ : ∃ σ1, σ1 = upd σ k x := ⟨_, rfl⟩
 rw [← hσ1] at h1 g1 ⊢
 clear hσ1 hst
 have tail : ∀ {σ2 : Env} {y : Value} {s2 : List UInt8}, VSt σ2 kind fv null v flex b → σ2 k = y → OctA w y s2 → s2 = (if null then [] else zbz s) →
   W P loc N' (.seq (.ops [⟨some 0, .move (V 4), 0, none, []⟩, ⟨some 1, .move (V 2), 0, none, []⟩, ⟨some 2, .move (V k), 0, none, []⟩, ⟨some 3, .call ⟨.builtin .len, #[T 2], #[N.za]⟩, N.ze, none, []⟩, ⟨some 4, .call ⟨.value (.func M.zdp), #[T 0, T 1, T 3, .const (.int .i64 (size : Nat))], #[N.zah, N.zah, N.ze, N.ze]⟩, N.za, none, []⟩, ⟨some 5, .move (V k), 0, none, []⟩, ⟨some 6, .call ⟨.builtin .append, #[T 4, T 5], #[N.za, N.za]⟩, N.za, none, []⟩, ⟨some 107, .assign (T 6), 0, none, []⟩]) .ret)
   (fun e σ' w' => e = .ret ∧ Gave w0 (zby flex null (if null then [] else zbz s).length size ++ (if null then [] else zbz s)) (σ' 7) w') σ2 w := by
  rintro σ2 y s2 h2 g2 hy hs2
  rw [← hs2]
  have hl2 : s2.length ≤ 32767 := by
   rw [hs2]
   cases null
   ·simpa using hal
   ·simp
  refine zd fun K hK => zaa fun τ => ?_
  simp +decide only [bK, bE, Nat.reduceBeqDiff, BEq.rfl, Nat.reduceAdd, h2.h4, h2.h2, g2, hy.run_len B]
  rw [zie hW.counted.has]
  simp +decide only [bK, bE, Nat.reduceBeqDiff, BEq.rfl]
  refine (zsv B hW.Uvarint hW.Fixed hW.counted w flex null s2.length size hl2 hs).mono ?_
  rintro r w3 ⟨hr, m3⟩
  have hcl : (zby flex null s2.length size).length ≤ 10 := by
   unfold zby
   split
   ·simp
   ·split
    ·exact zig (by omega)
    ·split <;> (rw [zdf]; omega)
  obtain ⟨v4, w4, hap, ho4, m4, _⟩ := zft (ty := N.za) B hr (hy.stay m3) m3.size (by omega)
  simp +decide only [bK, g2, hap]
  refine hK _ _ (zf fun σ4 hσ => zbx ⟨rfl, ?_⟩)
  have q := hσ 7
  simp +decide only [bE, BEq.rfl, Nat.reduceAdd] at q
  rw [q]
  have hr0 := hr.mono_lo m0.size
  exact ⟨ho4.mono_lo m0.size, m0.trans' (m3.fresh m4 fun _ _ h => (hr.blk h).1)⟩
 refine zd fun K hK => zd fun K1 hK1 => zaa fun τ => ?_
 simp +decide only [bK, bE, Nat.reduceAdd, h1.h2]
 rw [zu, locs_envOf]
 refine hK1 _ _ (W_if hlo (upd_same _ _ _) ?_)
 have h3 := h1.upd hk2 (.bool null)
 cases null with
 | true =>
  simp only [if_true]
  refine zav (hK _ _ ?_)
  exact tail (h3.upd hk _) (upd_same _ _ _) (.inl ⟨none, 0, rfl, rfl⟩) rfl
 | false =>
  simp only [Bool.false_eq_true, if_false]
  refine zbw (hK _ _ ?_)
  exact tail h3 (by rw [zi hkk]; exact g1) hx rfl
end
section
variable {P : Program} {N : Nums} {M : zci}
theorem sp_value (B : Base P N) (S : SpT P N M) (hW : SW P N M) {w : World} {kind v : Int} {fv : Value} {null flex : Bool} {t : Tr} {cs : List Value} {sub : List Fld} (hp : kind = 10 → zto P M flex v sub) (hf : zgs w fv sub) (ht : RepA w t cs) (hwf : wfT t)
  (hl : (valB flex kind (zdk flex v sub) null t).length < 549755813888) :
  Call P M.zho #[.int .i64 kind, fv, .bool null, .int .i64 v, .bool flex, .agg cs.toArray] w (Gave w (valB flex kind (zdk flex v sub) null t)) := by
 refine hW.value.call rfl fun loc N' hlo => ?_
 unfold zpu
 obtain ⟨vs, vl, vu, rfl, h1, h2, h3⟩ := ht.out
 obtain ⟨σ, hσ⟩ : ∃ σ, σ = zda #[.int .i64 kind, fv, .bool null, .int .i64 v, .bool flex, .agg [.int .i64 t.n, vs, .bool t.nl, vl, vu].toArray] := ⟨_, rfl⟩
 have f0 : σ 0 = .int .i64 kind := by rw [hσ]; rfl
 have f1 : σ 1 = fv := by rw [hσ]; rfl
 have f2 : σ 2 = .bool null := by rw [hσ]; rfl
 have f3 : σ 3 = .int .i64 v := by rw [hσ]; rfl
 have f4 : σ 4 = .bool flex := by rw [hσ]; rfl
 have f5 : σ 5 = .agg [.int .i64 t.n, vs, .bool t.nl, vl, vu].toArray := by rw [hσ]; rfl
 rw [← hσ]
 clear hσ
 refine zd fun K hK => zaa fun τ => ?_
 simp +decide only [bK, bE, Nat.reduceAdd, f5]
 obtain ⟨w1, hw1⟩ : ∃ w1, w1 = w.alloc (.cells (Value.cells (.agg [.int .i64 t.n, vs, .bool t.nl, vl, vu].toArray)) N.zb) := ⟨_, rfl⟩
 have m1 : Mod w w1 zp := by rw [hw1]; exact Mod.alloc _ _ _
 have r1 : w1.rangeAt w.heap.size 0 [.int .i64 t.n, vs, .bool t.nl, vl, vu] := by rw [hw1]; exact zw w _ _ _
 rw [← hw1]
 clear hw1
 refine hK _ _ (zf fun σ1 hσ => ?_)
 have a0 := hσ 0
 have a1 := hσ 1
 have a2 := hσ 2
 have a3 := hσ 3
 have a4 := hσ 4
 have a6 := hσ 6
 simp +decide only [bE, Nat.reduceBeqDiff, BEq.rfl, Nat.reduceAdd, Nat.zero_add, f0, f1, f2, f3, f4] at a0 a1 a2 a3 a4 a6
 clear hσ hK K f0 f1 f2 f3 f4 f5
 have x0 := r1 0 _ rfl
 have x1 := r1 1 _ rfl
 refine zd fun K hK => zd fun K1 hK1 => zaa fun τ => ?_
 simp +decide only [bK, bE, Nat.reduceAdd, Nat.zero_add, a0]
 refine hK1 _ _ (zf fun σ2 hσ => ?_)
 have b0 := hσ 0
 have b1 := hσ 1
 have b2 := hσ 2
 have b3 := hσ 3
 have b4 := hσ 4
 have b6 := hσ 6
 have b8 := hσ 8
 simp +decide only [bE, Nat.reduceBeqDiff, BEq.rfl, Nat.reduceAdd, Nat.zero_add, a0, a1, a2, a3, a4, a6] at b0 b1 b2 b3 b4 b6 b8
 clear hσ hK1 K1 a0 a1 a2 a3 a4 a6
 have st : VSt σ2 kind fv null v flex w.heap.size := ⟨b0, b1, b2, b3, b4, b6, b8⟩
 clear b0 b1 b2 b3 b4 b6 b8
 refine zeb (zqa hlo st.h8 ?_)
 by_cases e0 : kind = 0
 ·rw [if_pos e0]
  have st := st.upd (i := 9) (by omega) (.bool (decide (kind = 0)))
  refine zd fun K2 hK2 => zaa fun τ => ?_
  have hcv := fun {w : World} => zck (P := P) (w := w) (k' := .i64) B.int64 B.uint8 (n := t.n % 2) ⟨_, rfl⟩
  have hw8 : IntKind.u8.wrap (t.n % 2) = ((t.n % 2).toNat : Nat) := by
   have e : t.n % 2 = (((t.n % 2).toNat : Nat) : Int) := by omega
   rw [e, zwz _ (by omega)]
   omega
  have e1 : ∀ ρ : Env, (#[(0, T 3)] : Array (Nat × Operand)).map (fun p => (p.1, ev ρ p.2)) = #[(0, ρ 3)] := fun ρ => by simp
  simp +decide only [bK, bE, BEq.rfl, Nat.reduceAdd, Nat.add_zero, st.h6, S.tr.h0.run, B.int64.run_load1 rfl, x0, band1, hcv, e1, hw8]
  rw [u8_nat _ (by omega)]
  obtain ⟨w3, hbs, m3, s3, ho3⟩ := zqx (w := w1) B (x := UInt8.ofNat (t.n % 2).toNat)
  simp +decide only [bK, hbs]
  refine hK2 _ _ (zf fun σ4 hσ => zbx ?_)
  simp only [inB]
  refine ⟨.inr rfl, _, rfl, ?_⟩
  have q := hσ 7
  simp +decide only [bE, BEq.rfl, Nat.reduceAdd] at q
  rw [q, valB, if_pos e0]
  exact ⟨ho3.mono_lo m1.size, m1.trans' m3⟩
 rw [if_neg e0]
 have st := st.upd (i := 9) (by omega) (.bool (decide (kind = 0)))
 refine zqa hlo st.h8 ?_
 by_cases e7 : kind = 7
 ·rw [if_pos e7]
  have st := st.upd (i := 10) (by omega) (.bool (decide (kind = 7)))
  obtain ⟨w3, hmk, m3, s3, ho3⟩ := run_mk16 B w1
  obtain ⟨cv, w4, hcp, ho4, m4, s4⟩ := run_cp16 (ty := N.ze) B ho3 ((h1.stay m1).stay m3)
  refine zd fun K2 hK2 => zaa fun τ => ?_
  simp +decide only [bK, bE, BEq.rfl, Nat.reduceAdd, zjn, hmk]
  refine hK2 _ _ (zf fun σ4 hσ => ?_)
  have c6 := hσ 6
  have c11 := hσ 11
  simp +decide only [bE, Nat.reduceBeqDiff, BEq.rfl, Nat.reduceAdd, st.h6] at c6 c11
  clear hσ hK2 K2
  have x1' := zv m3 r1 1 _ rfl
  refine zd fun K2 hK2 => zaa fun τ => ?_
  simp +decide only [bK, bE, Nat.reduceBeqDiff, BEq.rfl, Nat.reduceAdd, Nat.zero_add, c6, c11, S.tr.h1.run, B.Lu8.run_load1 rfl, x1', zvm, hcp]
  refine hK2 _ _ (zf fun σ5 hσ => ?_)
  have d11 := hσ 11
  simp +decide only [bE, Nat.reduceBeqDiff, Nat.reduceAdd, c11] at d11
  clear hσ hK2 K2
  refine zd fun K2 hK2 => zaa fun τ => ?_
  simp +decide only [bK, bE, BEq.rfl, Nat.reduceAdd, d11]
  refine hK2 _ _ (zf fun σ6 hσ => zbx ?_)
  simp only [inB]
  refine ⟨.inr rfl, _, rfl, ?_⟩
  have q := hσ 7
  simp +decide only [bE, BEq.rfl, Nat.reduceAdd] at q
  rw [q, valB, if_neg e0, if_pos e7]
  exact ⟨ho4.mono_lo m1.size, (m1.trans' m3).fresh m4 fun k o h => by have : k = w1.heap.size := h; have := m1.size; omega⟩
 rw [if_neg e7]
 have st := st.upd (i := 10) (by omega) (.bool (decide (kind = 7)))
 refine zqa hlo st.h8 ?_
 by_cases e8 : kind = 8
 ·rw [if_pos e8]
  have st := st.upd (i := 12) (by omega) (.bool (decide (kind = 8)))
  refine zhw (zww B S hW hlo (k := 13) (k2 := 14) (size := 2) (w0 := w) st x1 (h1.stay m1) m1 (by omega) (by omega) (by omega) (by omega)) ?_
  rintro e σ' w' ⟨rfl, hg⟩
  exact ⟨.inr rfl, _, rfl, by rw [valB, if_neg e0, if_neg e7, if_pos e8]; exact hg⟩
 rw [if_neg e8]
 have st := st.upd (i := 12) (by omega) (.bool (decide (kind = 8)))
 refine zqa hlo st.h8 ?_
 by_cases e9 : kind = 9
 ·rw [if_pos e9]
  have st := st.upd (i := 15) (by omega) (.bool (decide (kind = 9)))
  refine zhw (zww B S hW hlo (k := 16) (k2 := 17) (size := 4) (w0 := w) st x1 (h1.stay m1) m1 (by omega) (by omega) (by omega) (by omega)) ?_
  rintro e σ' w' ⟨rfl, hg⟩
  exact ⟨.inr rfl, _, rfl, by rw [valB, if_neg e0, if_neg e7, if_neg e8, if_pos e9]; exact hg⟩
 rw [if_neg e9]
 have st := st.upd (i := 15) (by omega) (.bool (decide (kind = 9)))
 refine zqa hlo st.h8 ?_
 by_cases e10 : kind = 10
 ·rw [if_pos e10]
  have st := st.upd (i := 18) (by omega) (.bool (decide (kind = 10)))
  have hv : valB flex kind (zdk flex v sub) null t = zdk flex v sub t := by rw [valB, if_neg e0, if_neg e7, if_neg e8, if_neg e9, if_pos e10]
  rw [hv] at hl ⊢
  refine zd fun K2 hK2 => zaa fun τ => ?_
  simp +decide only [bK, bE, Nat.reduceBeqDiff, Nat.reduceAdd, st.h1, st.h3, st.h4, st.h6, zfz S.tr r1 rfl]
  rw [zie hW.part.has]
  simp +decide only [bK, bE, Nat.reduceBeqDiff, BEq.rfl]
  refine (hp e10 w1 fv t _ (hf.stay m1) (RepA.stay m1 _ ht) hwf hl).mono ?_
  rintro r w3 ⟨ho3, m3⟩
  refine hK2 _ _ (zf fun σ4 hσ => zbx ?_)
  simp only [inB]
  refine ⟨.inr rfl, _, rfl, ?_⟩
  have q := hσ 7
  simp +decide only [bE, BEq.rfl, Nat.reduceAdd] at q
  rw [q]
  exact ⟨ho3.mono_lo m1.size, m1.trans' m3⟩
 rw [if_neg e10]
 have st := st.upd (i := 18) (by omega) (.bool (decide (kind = 10)))
 have hv : valB flex kind (zdk flex v sub) null t = fixB t.n (zgh kind) := by rw [valB, if_neg e0, if_neg e7, if_neg e8, if_neg e9, if_neg e10]
 refine zbw ?_
 simp only [inB]
 refine hK _ _ ?_
 clear hK K
 have hw8 : zgh kind ≤ 8 := by unfold zgh; (repeat' split) <;> omega
 obtain ⟨σ5, hσ5⟩ : ∃ σ5, σ5 = upd (upd (upd (upd (upd σ2 9 (.bool (decide (kind = 0)))) 10 (.bool (decide (kind = 7)))) 12 (.bool (decide (kind = 8)))) 15 (.bool (decide (kind = 9)))) 18 (.bool (decide (kind = 10))) := ⟨_, rfl⟩
 rw [← hσ5] at st ⊢
 clear hσ5
 have md : Mod w1 w1.drew zp := Mod.drew _ _
 refine zd fun K hK => zfx B.mixed [true, true, true, false, false, false] (by kernel_rfl) (fun w' => Mod w1 w' zp) md fun τ => ?_
 refine zc (.pointer (some ⟨w.heap.size, 0, none⟩)) (fun w' _ => zn (by
  simp +decide only [bE, Nat.reduceAdd, Nat.zero_add, ev_tmp, st.h6, S.tr.h0.run])) rfl ?_
 refine zc (.int .i64 t.n) (fun w' hw => zn (by
  simp +decide only [bE, BEq.rfl, ev_tmp, B.int64.run_load1 rfl, zv hw r1 0 _ rfl, ldc_some])) rfl ?_
 refine zc (.int .i64 kind) (fun w' hw => by
  rw [zat, ev_tmp]
  simp +decide only [bE, Nat.reduceBeqDiff, Nat.zero_add, st.h0]) rfl ?_
 simp only [zde, zdd, List.zip_cons_cons, List.zip_nil_right, List.zipWith_cons_cons, List.zipWith_nil_right, List.filter, Bool.not_true, Bool.not_false, List.map, zdn]
 rw [zal hW.width.has]
 simp +decide only [bK, bE, BEq.rfl, Nat.reduceAdd]
 refine (sp_width B hW.width w1.drew kind).mono ?_
 rintro r w3 ⟨rfl, hw3⟩
 refine ⟨by rw [← hw3]; exact md, ?_⟩
 rw [zcs hW.Fixed.has]
 simp +decide only [bK, bE, Nat.reduceBeqDiff, BEq.rfl]
 refine (zqh B hW.Fixed w3 t.n (zgh kind) hw8).mono ?_
 rintro r w4 ⟨ho4, m4⟩
 have m14 : Mod w1 w4 zp := by rw [← hw3] at m4; exact md.trans' m4
 refine ⟨m14, ?_⟩
 refine hK _ _ (zf fun σ6 hσ => zbx ⟨.inr rfl, _, rfl, ?_⟩)
 have q := hσ 7
 simp +decide only [bE, BEq.rfl, Nat.reduceAdd] at q
 rw [q, hv]
 refine ⟨ho4.mono_lo ?_, m1.trans' m14⟩
 rw [← hw3]; exact m1.size
end
theorem ziq {α β : Type} (f : α → List β) : ∀ (l : List α) (j : Nat), ((l.take j).flatMap f).length ≤ (l.flatMap f).length
 | [], j => by simp
 | a :: l, 0 => by simp
 | a :: l, j + 1 => by
  have := ziq f l j
  simp only [List.take_succ_cons, List.flatMap_cons, List.length_append]; omega
theorem zhc {α β : Type} (f : α → List β) {l : List α} {j : Nat} (hj : j < l.length) : (l.take (j + 1)).flatMap f = (l.take j).flatMap f ++ f l[j] := by
 rw [← List.take_append_getElem hj, List.flatMap_append]; simp
theorem zsm {α β : Type} (f : α → List β) {l : List α} {j : Nat} (hj : j < l.length) : ((l.take j).flatMap f).length + (f l[j]).length ≤ (l.flatMap f).length := by
 have := ziq f l (j + 1)
 rw [zhc f hj, List.length_append] at this
 exact this
section
variable {P : Program} {N : Nums} {M : zci}
def bodyF (N : Nums) (M : zci) : C := .seq (.ops [⟨some 0, .move (V 13), 0, none, []⟩, ⟨some 115, .assign (T 0), 0, none, []⟩]) (.draw [
 ⟨some 0, .move (V 11), 0, none, []⟩,
 ⟨some 1, .fieldAddr M.zg (V 4) 6, 0, none, []⟩,
 ⟨some 2, .load N.ze (T 1), 0, none, [1]⟩,
 ⟨some 3, .fieldAddr M.zg (V 4) 7, 0, none, []⟩,
 ⟨some 4, .load M.zae (T 3), 0, none, [3]⟩,
 ⟨some 5, .move (V 1), 0, none, []⟩,
 ⟨some 6, .move (V 2), 0, none, []⟩,
 ⟨some 7, .move (V 9), 0, none, []⟩,
 ⟨some 8, .move (V 15), 0, none, []⟩,
 ⟨some 9, .indexAddr N.zk (T 7) (T 8), 0, none, [7, 8]⟩,
 ⟨some 10, .load N.zb (T 9), 0, none, [9]⟩,
 ⟨some 11, .call ⟨.value (.func M.zho), #[T 2, T 4, .const (.bool false), T 5, T 6, T 10], #[N.ze, M.zae, N.zah, N.ze, N.zah, N.zb]⟩, N.za, none, [2, 4, 5, 6, 10]⟩,
 ⟨some 12, .call ⟨.builtin .append, #[T 0, T 11], #[N.za, N.za]⟩, N.za, none, [0, 11, 11]⟩,
 ⟨some 111, .assign (T 12), 0, none, [12, 12, 0, 1, 2, 3, 4, 5, 6, 7, 8, 9, 10, 11, 12]⟩])
structure LSt (w1 : World) (σ : Env) (w : World) (v : Int) (flex : Bool) (b n j : Nat) (vl : Value) (acc : List UInt8) : Prop where
 h1 : σ 1 = .int .i64 v
 h2 : σ 2 = .bool flex
 h4 : σ 4 = .pointer (some ⟨b, 0, none⟩)
 h9 : σ 9 = vl
 h11 : OwnB w w1.heap.size (σ 11) acc
 h12 : σ 12 = .int .i64 n
 h13 : σ 13 = .int .i64 j
 le : j ≤ n
 mod : Mod w1 w zp
theorem zss {f : FuncId} {xs : Array Operand} {ts : Array TypeId} {d : Option Nat} {ty : TypeId} {af : List Nat} {ρ : Env} {w : World} {K : Env → World → Prop} (hf : zcx P f) : zbn P ⟨d, .call ⟨.value (.func f), xs, ts⟩, ty, none, af⟩ ρ w K = Call P f (xs.map (ev ρ)) w fun v w' => K (put ρ d v) w' := zid hf
theorem W_bodyF (B : Base P N) (S : SpT P N M) (hW : SW P N M) {loc : List Nat} {N' : Nat} (hlo : zfo loc N') {σ : Env} {w1 w : World} {v : Int} {flex : Bool} {b j : Nat} {vl : Value} {l : List Tr} {acc : List UInt8} {fv : Value} {f : Fld}
  (h : LSt w1 σ w v flex b l.length j vl acc) (hb : w1.rangeAt b 0 [.int .i64 f.kind, .int .i64 f.frm, .int .i64 f.to, .int .i64 f.null, .int .i64 f.tag, .int .i64 f.dflt, .int .i64 f.of, fv]) (hfv : zgs w1 fv f.sub) (hvl : zgy w1 vl l) (hp : f.of = 10 → zto P M flex v f.sub) (hj : j < l.length) (hwl : ∀ x ∈ l, wfT x)
  (hbig : acc.length + (valB flex f.of (zdk flex v f.sub) false l[j]).length < 549755813888) {Q : Exit → Env → World → Prop}
  (hQ : ∀ (σ' : Env) (w' : World), LSt w1 σ' w' v flex b l.length j vl (acc ++ valB flex f.of (zdk flex v f.sub) false l[j]) → Q .normal σ' w') :
  W P loc N' (bodyF N M) Q σ w := by
 obtain ⟨h1, h2, h4, h9, h11, h12, h13, hle, m1w⟩ := h
 obtain ⟨fs, hti⟩ := S.tr.ti
 unfold bodyF
 obtain ⟨bb, oo, cc, ct, hv, hr, hg⟩ := hvl.get (List.getElem?_eq_getElem hj)
 refine zd fun K hK => zaa fun τ => ?_
 simp +decide only [bK, bE, BEq.rfl, Nat.reduceAdd, h13]
 refine hK _ _ (zf fun σ1 hσ => ?_)
 have a1 := hσ 1
 have a2 := hσ 2
 have a4 := hσ 4
 have a9 := hσ 9
 have a11 := hσ 11
 have a12 := hσ 12
 have a13 := hσ 13
 have a15 := hσ 15
 simp +decide only [bE, Nat.reduceBeqDiff, BEq.rfl, Nat.reduceAdd, h1, h2, h4, h9, h12, h13] at a1 a2 a4 a9 a11 a12 a13 a15
 clear hσ hK K
 rw [← a11] at h11
 have md : Mod w w.drew zp := Mod.drew _ _
 have cw : ∀ {w' : World}, Mod w w' (fun i _ => ¬ zao (σ1 11) i) → Mod w1 w' zp := fun h => Mod.ofOwn h11 m1w h
 refine zyb B.mixed [true, true, true, true, true, true, true, true, true, true, true, false, false, false] (by kernel_rfl) (fun w' => Mod w w' (fun i _ => ¬ zao (σ1 11) i)) (Mod.drew _ _) fun τ => ?_
 refine zc (σ1 11) (fun w' _ => by
  rw [zat, ev_tmp]
  simp +decide only [bE, Nat.reduceAdd]) rfl ?_
 refine zc (.pointer (some ⟨b, 6, none⟩)) (fun w' _ => zn (by
  simp +decide only [bE, Nat.reduceBeqDiff, Nat.reduceAdd, Nat.zero_add, ev_tmp, a4, S.f6.run])) rfl ?_
 refine zc (.int .i64 f.of) (fun w' hw => zn (by
  simp +decide only [bE, BEq.rfl, ev_tmp, B.int.run_load1 rfl, zv (cw hw) hb 6 _ rfl, ldc_some])) rfl ?_
 refine zc (.pointer (some ⟨b, 7, none⟩)) (fun w' _ => zn (by
  simp +decide only [bE, Nat.reduceBeqDiff, Nat.reduceAdd, Nat.zero_add, ev_tmp, a4, S.f7.run])) rfl ?_
 refine zc fv (fun w' hw => zn (by
  simp +decide only [bE, BEq.rfl, ev_tmp, S.lf.run_load1 rfl, zv (cw hw) hb 7 _ rfl, ldc_some])) rfl ?_
 refine zc (.int .i64 v) (fun w' _ => by
  rw [zat, ev_tmp]
  simp +decide only [bE, Nat.reduceBeqDiff, Nat.reduceAdd, a1]) rfl ?_
 refine zc (.bool flex) (fun w' _ => by
  rw [zat, ev_tmp]
  simp +decide only [bE, Nat.reduceBeqDiff, Nat.reduceAdd, a2]) rfl ?_
 refine zc vl (fun w' _ => by
  rw [zat, ev_tmp]
  simp +decide only [bE, Nat.reduceBeqDiff, Nat.reduceAdd, a9]) rfl ?_
 refine zc (.int .i64 j) (fun w' _ => by
  rw [zat, ev_tmp]
  simp +decide only [bE, Nat.reduceBeqDiff, Nat.reduceAdd, a15]) rfl ?_
 refine zc (.pointer (some ⟨bb, oo + j * 5, none⟩)) (fun w' hw => zn (by
  have := fun {w : World} => zab (P := P) (w := w) S.tr.lt hti (bl := bb) (o := oo) (n := l.length) (c := cc) (i := j) (k := .i64) hj
  simp +decide only [bE, Nat.reduceBeqDiff, BEq.rfl, ev_tmp]
  rw [hv]; exact this)) rfl ?_
 refine zc (.agg ct.toArray) (fun w' hw => zn (by
  simp +decide only [bE, BEq.rfl, ev_tmp]
  exact zfz S.tr (zv (cw hw) hg) hr.len)) rfl ?_
 simp only [zde, zdd, List.zip_cons_cons, List.zip_nil_right, List.zipWith_cons_cons, List.zipWith_nil_right, List.filter, Bool.not_true, Bool.not_false, List.map, zdn]
 have m1d := m1w.trans' md
 rw [zss hW.value.has]
 have eargs : ∀ ρ : Env, (#[T 2, T 4, .const (.bool false), T 5, T 6, T 10] : Array Operand).map (ev ρ) = #[ρ 2, ρ 4, .bool false, ρ 5, ρ 6, ρ 10] := fun ρ => by simp
 rw [eargs]
 simp +decide only [bE, Nat.reduceBeqDiff, BEq.rfl]
 refine (sp_value B S hW (sub := f.sub) (null := false) hp (hfv.stay m1d) (RepA.stay m1d _ hr) (hwl _ (List.getElem_mem hj)) (by omega)).mono ?_
 rintro r w3 ⟨ho3, m3⟩
 have mw3 : Mod w w3 zp := md.trans' m3
 refine ⟨mw3.mono fun _ _ _ h => h.elim, ?_⟩
 obtain ⟨v4, w4, hap, ho4, m4, _⟩ := zft (ty := N.za) B (h11.stay mw3 fun _ _ _ h => h) (ho3.octA) (Nat.le_trans m1w.size mw3.size) (by omega)
 have m04 : Mod w1 w4 zp := Mod.ofOwn (h11.stay mw3 fun _ _ _ h => h) (m1w.trans' mw3) m4
 simp +decide only [bK, bE, Nat.reduceBeqDiff, BEq.rfl, hap]
 refine ⟨(mw3.mono fun _ _ _ h => h.elim).trans m4 fun k o hk h => h.elim id id, ?_⟩
 refine zf fun σ2 hσ => hQ σ2 w4 ?_
 have b1 := hσ 1
 have b2 := hσ 2
 have b4 := hσ 4
 have b9 := hσ 9
 have b11 := hσ 11
 have b12 := hσ 12
 have b13 := hσ 13
 simp +decide only [bE, Nat.reduceBeqDiff, BEq.rfl, Nat.reduceAdd, a1, a2, a4, a9, a12, a13] at b1 b2 b4 b9 b11 b12 b13
 exact ⟨b1, b2, b4, b9, by rw [b11]; exact ho4, b12, b13, hle, m04⟩
end
theorem znn {flex : Bool} {v : Int} {f : Fld} {t : Tr} (h : f.kind = 11) : zew flex v f t = zby flex (f.nullB v t) (if f.nullB v t then [] else zei t.l).length 4 ++ (if f.nullB v t then [] else zei t.l).flatMap (valB flex f.of (zdk flex v f.sub) false) := by
 cases f with
 | mk k a b c d e o sub =>
  have h : k = 11 := h
  subst h
  rw [zew, if_pos rfl]
  rfl
theorem zpd {flex : Bool} {v : Int} {f : Fld} {t : Tr} (h : f.kind ≠ 11) : zew flex v f t = valB flex f.kind (zdk flex v f.sub) (f.nullB v t) t := by
 cases f with
 | mk k a b c d e o sub =>
  have h : k ≠ 11 := h
  rw [zew, if_neg h]
  rfl
theorem zps (flex null : Bool) (n size : Nat) (hn : n ≤ 32767) (hs : size ≤ 8) : (zby flex null n size).length ≤ 10 := by
 unfold zby
 split
 ·simp
 ·split
  ·exact zig (by omega)
  ·split <;> (rw [zdf]; omega)
section
variable {P : Program} {N : Nums} {M : zci}
theorem sp_field (B : Base P N) (S : SpT P N M) (hW : SW P N M) {w : World} {v : Int} {flex : Bool} {f : Fld} {t : Tr} {cf ct : List Value} (hp : f.kind = 11 → f.of = 10 → zto P M flex v f.sub) (hk : f.kind ≠ 10) (hf : RepF w f cf) (ht : RepA w t ct) (hwf : wfT t) (hl : (zew flex v f t).length < 549755813888) :
  Call P M.zhq #[.agg cf.toArray, .int .i64 v, .bool flex, .agg ct.toArray] w (Gave w (zew flex v f t)) := by
 refine hW.field.call rfl fun loc N' hlo => ?_
 unfold zpv
 obtain ⟨fv, rfl, hfv⟩ := hf.out
 obtain ⟨vs, vl, vu, rfl, h1, h2, h3⟩ := ht.out
 refine zd fun K hK => zaa fun τ => ?_
 simp +decide only [bK, bE, Nat.reduceBeqDiff, Nat.reduceAdd, Nat.zero_add]
 obtain ⟨w1, hw1⟩ : ∃ w1, w1 = w.alloc (.cells (Value.cells (.agg [.int .i64 f.kind, .int .i64 f.frm, .int .i64 f.to, .int .i64 f.null, .int .i64 f.tag, .int .i64 f.dflt, .int .i64 f.of, fv].toArray)) M.zg) := ⟨_, rfl⟩
 have m1 : Mod w w1 zp := by rw [hw1]; exact Mod.alloc _ _ _
 have r1 : w1.rangeAt w.heap.size 0 [.int .i64 f.kind, .int .i64 f.frm, .int .i64 f.to, .int .i64 f.null, .int .i64 f.tag, .int .i64 f.dflt, .int .i64 f.of, fv] := by rw [hw1]; exact zw w _ _ _
 rw [← hw1]
 clear hw1
 obtain ⟨w2, hw2⟩ : ∃ w2, w2 = w1.alloc (.cells (Value.cells (.agg [.int .i64 t.n, vs, .bool t.nl, vl, vu].toArray)) N.zb) := ⟨_, rfl⟩
 have m2 : Mod w1 w2 zp := by rw [hw2]; exact Mod.alloc _ _ _
 have r2 : w2.rangeAt w1.heap.size 0 [.int .i64 t.n, vs, .bool t.nl, vl, vu] := by rw [hw2]; exact zw w1 _ _ _
 rw [← hw2]
 clear hw2
 have m02 := m1.trans' m2
 have r1' := zv m2 r1
 clear r1
 refine hK _ _ (zf fun σ hσ => ?_)
 have f1 := hσ 1
 have f2 := hσ 2
 have f4 := hσ 4
 have f5 := hσ 5
 simp +decide only [bE, Nat.reduceBeqDiff, BEq.rfl, Nat.reduceAdd, zou, zot] at f1 f2 f4 f5
 clear hσ hK K
 have hF2 := RepF.stay m02 _ hf
 have hT2 := RepA.stay m02 _ ht
 obtain ⟨bF, hbF⟩ : ∃ b, b = w.heap.size := ⟨_, rfl⟩
 obtain ⟨bT, hbT⟩ : ∃ b, b = w1.heap.size := ⟨_, rfl⟩
 rw [← hbF] at r1' f4
 rw [← hbT] at r2 f5
 obtain ⟨fs, hfd⟩ := S.fld.out
 have hfl : ∀ {w' : World}, Mod w2 w' zp → (Instr.loadAt M.zg (.pointer (some ⟨bF, 0, none⟩))).run P w' = .ok (.agg [.int .i64 f.kind, .int .i64 f.frm, .int .i64 f.to, .int .i64 f.null, .int .i64 f.tag, .int .i64 f.dflt, .int .i64 f.of, fv].toArray) w' := by
  intro w' hm
  have := hfd.1.run_load (w := w') (b := bF) (o := 0) (zv hm r1') rfl (fun h => by cases h)
  rw [this]; rfl
 have hlz : (zei t.l).length ≤ 32767 := by simp [zei, most]; omega
 refine zd fun K hK => zaa fun τ => ?_
 simp +decide only [bK, bE, Nat.reduceBeqDiff, Nat.reduceAdd, f1, f4, f5, hfl (.refl _ _), zfz S.tr r2 rfl]
 rw [zjr hW.Field_null.has]
 simp +decide only [bK, bE, Nat.reduceBeqDiff, BEq.rfl]
 refine (call_null B S hW.Field_null hF2 hT2 v).mono ?_
 rintro _ w3 ⟨rfl, m3⟩
 refine hK _ _ (zf fun σ1 hσ => ?_)
 have a1 := hσ 1
 have a2 := hσ 2
 have a4 := hσ 4
 have a5 := hσ 5
 have a7 := hσ 7
 simp +decide only [bE, Nat.reduceBeqDiff, BEq.rfl, Nat.reduceAdd, f1, f2, f4, f5] at a1 a2 a4 a5 a7
 clear hσ hK K f1 f2 f4 f5
 have r3 := zv m3 r1'
 have q3 := zv m3 r2
 have m03 := m02.trans' m3
 have k0 := r3 0 _ rfl
 refine zd fun K hK => zd fun K1 hK1 => zaa fun τ => ?_
 simp +decide only [bK, bE, BEq.rfl, Nat.reduceAdd, Nat.add_zero, a4, S.f0.run, B.int.run_load1 rfl, k0]
 refine hK1 _ _ (zf fun σ2 hσ => ?_)
 have b1 := hσ 1
 have b2 := hσ 2
 have b4 := hσ 4
 have b5 := hσ 5
 have b7 := hσ 7
 have b8 := hσ 8
 simp +decide only [bE, Nat.reduceBeqDiff, BEq.rfl, Nat.reduceAdd, a1, a2, a4, a5, a7] at b1 b2 b4 b5 b7 b8
 clear hσ hK1 K1 a1 a2 a4 a5 a7
 refine W_if hlo b8 ?_
 by_cases e11 : f.kind = 11
 ·rw [if_pos (by simpa using e11)]
  have hfB := znn (flex := flex) (v := v) (t := t) e11
  obtain ⟨l, hl'⟩ : ∃ l, l = (if f.nullB v t then [] else zei t.l) := ⟨_, rfl⟩
  rw [← hl'] at hfB
  have hll : l.length ≤ 32767 := by
   rw [hl']
   cases f.nullB v t
   ·simpa using hlz
   ·simp
  have hwl : ∀ x ∈ l, wfT x := by
   rw [hl']
   cases f.nullB v t
   ·intro x hx; exact hwf.l x (List.mem_of_mem_take (by simpa [zei] using hx))
   ·intro x hx; cases hx
  refine zd fun K2 hK2 => zaa fun τ => ?_
  simp +decide only [bK, bE, BEq.rfl, Nat.reduceAdd, Nat.zero_add, b5, S.tr.h3.run, S.tr.lt.run_load1 rfl, q3 3 _ rfl]
  rw [zal hW.things.has]
  simp +decide only [bK, bE, BEq.rfl]
  refine (zxv S hW.things (h2.stay m03)).mono ?_
  rintro x w3' ⟨hww, hx⟩
  obtain rfl := hww
  refine hK2 _ _ (zf fun σ3 hσ => ?_)
  have c1 := hσ 1
  have c2 := hσ 2
  have c4 := hσ 4
  have c5 := hσ 5
  have c7 := hσ 7
  have c9 := hσ 9
  simp +decide only [bE, Nat.reduceBeqDiff, BEq.rfl, Nat.reduceAdd, b1, b2, b4, b5, b7] at c1 c2 c4 c5 c7 c9
  clear hσ hK2 K2 b1 b2 b4 b5 b7 b8
  have tail : ∀ {σ4 : Env} {y : Value}, σ4 1 = .int .i64 v → σ4 2 = .bool flex → σ4 4 = .pointer (some ⟨bF, 0, none⟩) → σ4 7 = .bool (f.nullB v t) → σ4 9 = y → zgy w3 y l → ∀ {Q : Exit → Env → World → Prop}, (∀ (σ' : Env) (w' : World) (r : Value), σ' 6 = r → Gave w (zew flex v f t) r w' → Q .ret σ' w') →
    W P loc N' (.seq (.ops [⟨some 0, .move (V 2), 0, none, []⟩, ⟨some 1, .move (V 7), 0, none, []⟩, ⟨some 2, .move (V 9), 0, none, []⟩, ⟨some 3, .call ⟨.builtin .len, #[T 2], #[N.zk]⟩, N.ze, none, []⟩, ⟨some 4, .call ⟨.value (.func M.zdp), #[T 0, T 1, T 3, .const (.int .i64 4)], #[N.zah, N.zah, N.ze, N.ze]⟩, N.za, none, []⟩, ⟨some 111, .assign (T 4), 0, none, []⟩])
     (.seq (.seq (.ops [⟨some 0, .move (V 9), 0, none, []⟩, ⟨some 112, .call ⟨.builtin .len, #[T 0], #[N.zk]⟩, N.ze, none, []⟩, ⟨some 113, .move (.const (.int .i64 0)), 0, none, []⟩]) (zru N 13 12 14 0 (bodyF N M)))
     (.seq (.ops [⟨some 0, .move (V 11), 0, none, []⟩, ⟨some 106, .assign (T 0), 0, none, []⟩]) .ret))) Q σ4 w3 := by
   rintro σ4 y d1 d2 d4 d7 d9 hy Q hQ
   refine zd fun K2 hK2 => zaa fun τ => ?_
   simp +decide only [bK, bE, Nat.reduceBeqDiff, BEq.rfl, Nat.reduceAdd, d2, d7, d9, hy.run_len S]
   rw [zie hW.counted.has]
   simp +decide only [bK, bE, Nat.reduceBeqDiff, BEq.rfl]
   refine (zsv B hW.Uvarint hW.Fixed hW.counted w3 flex (f.nullB v t) l.length 4 hll (by omega)).mono ?_
   rintro r w4 ⟨ho4, m4⟩
   refine hK2 _ _ (zf fun σ5 hσ => ?_)
   have e1 := hσ 1
   have e2 := hσ 2
   have e4 := hσ 4
   have e9 := hσ 9
   have e11 := hσ 11
   simp +decide only [bE, Nat.reduceBeqDiff, BEq.rfl, Nat.reduceAdd, d1, d2, d4, d9] at e1 e2 e4 e9 e11
   clear hσ hK2 K2 d1 d2 d4 d7 d9
   refine zd fun K2 hK2 => zd fun K3 hK3 => zaa fun τ => ?_
   simp +decide only [bK, bE, BEq.rfl, Nat.reduceAdd, e9, hy.run_len S]
   refine hK3 _ _ (zf fun σ6 hσ => ?_)
   have g1 := hσ 1
   have g2 := hσ 2
   have g4 := hσ 4
   have g9 := hσ 9
   have g11 := hσ 11
   have g12 := hσ 12
   have g13 := hσ 13
   simp +decide only [bE, Nat.reduceBeqDiff, BEq.rfl, Nat.reduceAdd, e1, e2, e4, e9, e11] at g1 g2 g4 g9 g11 g12 g13
   clear hσ hK3 K3 e1 e2 e4 e9 e11
   have hbl := zps flex (f.nullB v t) l.length 4 hll (by omega)
   refine zkb (i := 13) (l := 12) (c := 14) (k := 0) hlo (L := l.length) (by omega) (fun j σ w' => LSt w3 σ w' v flex bF l.length j y (zby flex (f.nullB v t) l.length 4 ++ (l.take j).flatMap (valB flex f.of (zdk flex v f.sub) false))) (fun j σ w h => ⟨h.h13, h.h12, h.le⟩) (fun j σ w b h => ?_) ⟨g1, g2, g4, g9, by rw [g11]; simpa using ho4, g12, g13, Nat.zero_le _, m4⟩ (fun σ' w' h => hK2 _ _ ?_) (fun j σ' w' hj h => ?_)
   ·obtain ⟨x1, x2, x4, x9, x11, x12, x13, xl, xm⟩ := h
    exact ⟨by rw [zi (by decide)]; exact x1, by rw [zi (by decide)]; exact x2, by rw [zi (by decide)]; exact x4, by rw [zi (by decide)]; exact x9, by rw [zi (by decide)]; exact x11, by rw [zi (by decide)]; exact x12, by rw [zi (by decide)]; exact x13, xl, xm⟩
   ·have h11 := h.h11
    rw [List.take_length, ← hfB] at h11
    refine zd fun K3 hK3 => zaa fun τ => ?_
    simp +decide only [bK, bE, BEq.rfl, Nat.reduceAdd]
    refine hK3 _ _ (zf fun σ7 hσ => zbx (hQ σ7 _ _ rfl ?_))
    have q := hσ 6
    simp +decide only [bE, BEq.rfl, Nat.reduceAdd] at q
    rw [q]
    exact ⟨h11.mono_lo m03.size, m03.trans' h.mod⟩
   ·have hm := zsm (valB flex f.of (zdk flex v f.sub) false) hj
    have htot : (zby flex (f.nullB v t) l.length 4).length + (l.flatMap (valB flex f.of (zdk flex v f.sub) false)).length < 549755813888 := by
     rw [hfB, List.length_append] at hl; exact hl
    refine W_bodyF B S hW hlo (f := f) h r3 (hfv.stay m03) hy (hp e11) hj hwl (by rw [List.length_append]; omega) fun σ8 w8 h8 => ?_
    refine ⟨h8.h13, ?_⟩
    obtain ⟨x1, x2, x4, x9, x11, x12, x13, xl, xm⟩ := h8
    refine ⟨by rw [zi (by decide)]; exact x1, by rw [zi (by decide)]; exact x2, by rw [zi (by decide)]; exact x4, by rw [zi (by decide)]; exact x9, ?_, by rw [zi (by decide)]; exact x12, upd_same _ _ _, by omega, xm⟩
    rw [zi (by decide), zhc _ hj, ← List.append_assoc]; exact x11
  have fin : ∀ (σ' : Env) (w' : World) (r : Value), σ' 6 = r → Gave w (zew flex v f t) r w' → zdy K (retQ P [.var 6] (Gave w (zew flex v f t))) .ret σ' w' := fun σ' w' r h g => ⟨.inr rfl, _, rfl, by rw [h]; exact g⟩
  refine zd fun K2 hK2 => zd fun K3 hK3 => zaa fun τ => ?_
  simp +decide only [bK, bE, Nat.reduceAdd, c7]
  refine hK3 _ _ (zf fun σ4 hσ => ?_)
  have d1 := hσ 1
  have d2 := hσ 2
  have d4 := hσ 4
  have d7 := hσ 7
  have d9 := hσ 9
  have d10 := hσ 10
  simp +decide only [bE, Nat.reduceBeqDiff, BEq.rfl, Nat.reduceAdd, c1, c2, c4, c7, c9] at d1 d2 d4 d7 d9 d10
  clear hσ hK3 K3 c1 c2 c4 c5 c7 c9
  refine W_if hlo d10 ?_
  cases hn : f.nullB v t with
  | true =>
   simp only [if_true]
   refine zav (hK2 _ _ ?_)
   exact tail (y := .slice none 0 0) (by rw [zi (by decide)]; exact d1) (by rw [zi (by decide)]; exact d2) (by rw [zi (by decide)]; exact d4) (by rw [zi (by decide)]; exact d7) (upd_same _ _ _) (.inl ⟨none, 0, rfl, by rw [hl', hn]; rfl⟩) fin
  | false =>
   simp only [Bool.false_eq_true, if_false]
   refine zbw (hK2 _ _ ?_)
   exact tail d1 d2 d4 d7 d9 (by rw [hl', hn]; exact hx) fin
 ·rw [if_neg (by simpa using e11)]
  refine zbw (hK _ _ ?_)
  clear hK K
  have hfB := zpd (flex := flex) (v := v) (t := t) e11
  rw [hfB] at hl
  refine zd fun K hK => zd fun K1 hK1 => zaa fun τ => ?_
  simp +decide only [bK, bE, BEq.rfl, Nat.reduceAdd, Nat.add_zero, b4, S.f0.run, B.int.run_load1 rfl, k0]
  have hk' : (f.kind == 10) = false := by simpa using hk
  simp +decide only [bK, bE, Nat.reduceBeqDiff, BEq.rfl, if_false, hk', zbs, Bool.not_true, zcc]
  refine hK1 _ _ (zf fun σ3 hσ => ?_)
  have c1 := hσ 1
  have c2 := hσ 2
  have c4 := hσ 4
  have c5 := hσ 5
  have c7 := hσ 7
  have c16 := hσ 16
  simp +decide only [bE, Nat.reduceBeqDiff, BEq.rfl, Nat.reduceAdd, b1, b2, b4, b5, b7] at c1 c2 c4 c5 c7 c16
  clear hσ hK1 K1 b1 b2 b4 b5 b7 b8
  refine W_if hlo c16 ?_
  simp only [Bool.false_eq_true, if_false]
  refine zbw (hK _ _ ?_)
  clear hK K
  refine zd fun K hK => zaa fun τ => ?_
  simp +decide only [bK, bE, Nat.reduceBeqDiff, BEq.rfl, Nat.reduceAdd, Nat.add_zero, Nat.zero_add, c1, c2, c4, c5, c7, S.f0.run, S.f7.run, B.int.run_load1 rfl, S.lf.run_load1 rfl, k0, r3 7 _ rfl, zfz S.tr q3 rfl]
  rw [zss hW.value.has]
  have eargs : ∀ ρ : Env, (#[T 1, T 3, T 4, T 5, T 6, T 7] : Array Operand).map (ev ρ) = #[ρ 1, ρ 3, ρ 4, ρ 5, ρ 6, ρ 7] := fun ρ => by simp
  rw [eargs]
  simp +decide only [bE, Nat.reduceBeqDiff, BEq.rfl]
  refine (sp_value B S hW (sub := f.sub) (null := f.nullB v t) (fun h => absurd h hk) (hfv.stay m03) (RepA.stay m03 _ ht) hwf hl).mono ?_
  rintro r w4 ⟨ho4, m4⟩
  refine hK _ _ (zf fun σ4 hσ => zbx ⟨.inr rfl, _, rfl, ?_⟩)
  have q := hσ 6
  simp +decide only [bE, BEq.rfl, Nat.reduceAdd] at q
  rw [q, hfB]
  exact ⟨ho4.mono_lo m03.size, m03.trans' m4⟩
end
end Go.Kf
