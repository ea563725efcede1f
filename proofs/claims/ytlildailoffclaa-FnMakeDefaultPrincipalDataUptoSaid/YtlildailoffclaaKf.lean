/- A part of the calculus by which the claim's proof goes: over any program and any numbering of its functions; no condition beyond those that each theorem names. -/
import Derived.Test.YtlildailoffclaaKe
set_option linter.unusedSimpArgs false
set_option linter.unusedVariables false
namespace Go.Kf
open Go Go.RowKit
structure ArS (m : FM) (wS w0 : World) (b off n : Nat) (σ0 : Env) (vs : List Val) (pos : Nat) (rest : List Value) (lo q : Nat) (vL : Value) (Lc sz : Nat) (vals : List Val) (j : Nat) (σ : Env) (w : World) : Prop where
 ag : Ag m.q0 σ0 σ
 hL : σ (q + 1) = vL
 hn : σ (q + 2) = .int .i64 Lc
 hj : σ (q + 3) = .int .i64 j
 le : j ≤ Lc
 mod : Mod w0 w (fun k o => k = b ∧ off ≤ o)
 lo0 : w0.heap.size ≤ lo
 lo1 : lo ≤ w.heap.size
 ex : ∃ u css ucss, w.rangeAt b off (css.flatten ++ ([u] ++ rest)) ∧ RepL w (GN (GS wS) w0.heap.size lo) vs css ∧ off + css.flatten.length = pos ∧ css.flatten.length + (1 + rest.length) = n ∧ Own w lo sz u j ucss.flatten ∧ (∃ bl c, u = .slice (some ⟨bl, 0, none⟩) j c) ∧ (∀ x ∈ ucss, x.length = sz) ∧
  (∀ c ∈ ucss.flatten, c.oneCell' = true) ∧ RepL w (GX (GS wS) lo w u) (vals.take j) ucss
section
variable {P : Program} {N : Nums} {M : zax} {L : zem} {mf : TypeId → FuncId} {m : FM}
theorem ArS.agr {wS w0 w : World} {b off n pos lo q Lc sz j : Nat} {σ0 σ σ' : Env} {vs vals : List Val} {rest : List Value} {vL : Value} (h : ArS m wS w0 b off n σ0 vs pos rest lo q vL Lc sz vals j σ w) (hq : m.q0 ≤ q) (e : ∀ i, i < q + 4 → σ' i = σ i) : ArS m wS w0 b off n σ0 vs pos rest lo q vL Lc sz vals j σ' w :=
 ⟨fun i hi => (e i (by omega)).trans (h.ag i hi), (e _ (by omega)).trans h.hL, (e _ (by omega)).trans h.hn, (e _ (by omega)).trans h.hj, h.le, h.mod, h.lo0, h.lo1, h.ex⟩
theorem ArS.cell {wS w0 w : World} {b off n pos lo q Lc sz j : Nat} {σ0 σ : Env} {vs vals : List Val} {rest : List Value} {vL u : Value} {css : List (List Value)} (hr : w.rangeAt b off (css.flatten ++ ([u] ++ rest))) (hp : off + css.flatten.length = pos) : w.cell? ⟨b, pos, none⟩ = some u := by
 rw [zx, hp] at hr
 exact hr.2 0 u rfl
theorem ArS.done {wS w0 w : World} {bT b off n pos lo q Lc sz : Nat} {ct : List Value} {t : Tr} {σ0 σ : Env} {vs vals : List Val} {rest : List Value} {vL : Value} (c : FC P N m wS w0 bT ct t b off n σ0) (h : ArS m wS w0 b off n σ0 vs pos rest lo q vL Lc sz vals Lc σ w) (hl : vals.length = Lc) : FSt m wS w0 b off n σ0 (vs ++ [.arr sz vals]) (pos + 1) rest σ w := by
 obtain ⟨ag, _, _, _, _, mod, lo0, lo1, u, css, ucss, hr, hrep, hp, hn, ho, ⟨bl, cc, hu⟩, hsz, _, hel⟩ := h
 rw [← hl, List.take_length] at hel
 refine ⟨ag, mod, css ++ [[u]], ?_, RepL.append (RepL.mono (fun k hk => hk.imp id fun h => ⟨h.1, by have := h.2; omega⟩) _ hrep) ⟨[u], [], rfl, ?_, rfl⟩, ?_, ?_⟩
 ·rw [List.flatten_append, List.flatten_cons, List.flatten_nil, List.append_nil, List.append_assoc]; exact hr
 ·rcases ho with ⟨e, _, _⟩ | ⟨b', c', e, g1, g2, g3, _, g5, _⟩
  ·rw [e] at hu; cases hu
  ·refine ⟨b', c', ucss, by rw [e, hl], by rw [hl]; exact g3, fun _ => .inr ⟨by omega, g2⟩, hsz, RepL.mono (fun k hk => hk.elim .inl fun h => .inr ⟨by have := h.1; omega, h.2.1⟩) _ hel, g5⟩
 ·rw [List.flatten_append, List.length_append, List.flatten_cons, List.flatten_nil, List.append_nil, List.length_singleton]; omega
 ·rw [List.flatten_append, List.length_append, List.flatten_cons, List.flatten_nil, List.append_nil, List.length_singleton]; omega
theorem ArS.next {wS w0 w w9 : World} {bT b off n pos lo q Lc sz j : Nat} {ct : List Value} {t : Tr} {σ0 σ' : Env} {vs vals : List Val} {rest cs' : List Value} {vL u u' : Value} {css ucss : List (List Value)} (c : FC P N m wS w0 bT ct t b off n σ0) (ag : Ag m.q0 σ0 σ') (hq : m.q0 ≤ q) (hL : σ' (q + 1) = vL) (hn : σ' (q + 2) = .int .i64 Lc) (hj : j < Lc) (hjv : j < vals.length)
  (mod : Mod w0 w (fun k o => k = b ∧ off ≤ o)) (lo0 : w0.heap.size ≤ lo) (lo1 : lo ≤ w.heap.size) (hr : w.rangeAt b off (css.flatten ++ ([u] ++ rest))) (hrep : RepL w (GN (GS wS) w0.heap.size lo) vs css) (hp : off + css.flatten.length = pos) (hnn : css.flatten.length + (1 + rest.length) = n) (ho : Own w lo sz u j ucss.flatten) (hsz : ∀ x ∈ ucss, x.length = sz) (h1 : ∀ c ∈ ucss.flatten, c.oneCell' = true)
  (m9 : Mod w w9 (fun k o => ¬ zai u k ∨ (k = b ∧ o = pos))) (c9 : w9.cell? ⟨b, pos, none⟩ = some u') (ho9 : Own w9 lo sz u' (j + 1) (ucss.flatten ++ cs')) (hl : cs'.length = sz) (h1' : ∀ c ∈ cs', c.oneCell' = true) (hel : RepL w9 (GX (GS wS) lo w9 u') (vals.take j) ucss) (hx : Rep w9 (GX (GS wS) lo w9 u') vals[j] cs') :
  ArS m wS w0 b off n σ0 vs pos rest lo q vL Lc sz vals (j + 1) (upd σ' (q + 3) (.int .i64 ((j + 1 : Nat) : Int))) w9 := by
 have hb0 := c.b0
 have hbS := c.bS
 have s9 := m9.size
 have s0 := mod.size
 have hv : ∀ k, ¬ zai u k → lo ≤ k := fun k hk => (ho.blk hk).1
 rw [zx, hp] at hr
 refine ⟨fun i hi => by rw [zp (by omega)]; exact ag i hi, by rw [zp (by omega)]; exact hL, by rw [zp (by omega)]; exact hn, upd_same _ _ _, hj, mod.trans m9 fun k o hk h => h.elim id fun h => h.elim (fun h => by have := hv k h; omega) fun h => ⟨h.1, by have := h.2; omega⟩, lo0, by omega, u', css, ucss ++ [cs'], ?_, ?_, hp, hnn, ?_, ?_, ?_, ?_, ?_⟩
 ·rw [zx, hp]
  refine ⟨m9.rangeAt (by omega) (fun i h1 h2 h => by
   rcases h with h | h
   ·have := hv b h; omega
   ·omega) hr.1, ?_⟩
  refine (zx (cs := [u']) (ds := rest)).2 ⟨zgw.2 c9, m9.rangeAt (by omega) (fun i h1 h2 h => by
   simp at h1
   rcases h with h | h
   ·have := hv b h; omega
   ·omega) ((zx (cs := [u]) (ds := rest)).1 hr.2).2⟩
 ·refine RepL.mod m9 (fun k hk => ⟨?_, fun o h => ?_, hk⟩) _ hrep
  ·rcases hk with hk | hk
   ·have hk : k < wS.heap.size := hk
    omega
   ·have := hk.2; omega
  ·rcases hk with hk | hk
   ·have hk : k < wS.heap.size := hk
    rcases h with h | h
    ·have := hv k h; omega
    ·omega
   ·have := hk.1
    have := hk.2
    rcases h with h | h
    ·have := hv k h; omega
    ·omega
 ·rw [List.flatten_append, List.flatten_cons, List.flatten_nil, List.append_nil]; exact ho9
 ·rcases ho9 with ⟨_, e, _⟩ | ⟨b', c', e, _⟩
  ·omega
  ·exact ⟨b', c', e⟩
 ·intro x hx
  rcases List.mem_append.1 hx with hx | hx
  ·exact hsz x hx
  ·simp at hx; rw [hx]; exact hl
 ·intro x hx
  rw [List.flatten_append, List.flatten_cons, List.flatten_nil, List.append_nil, List.mem_append] at hx
  exact hx.elim (h1 x) (h1' x)
 ·rw [List.take_add_one, List.getElem?_eq_getElem hjv]
  exact RepL.append hel ⟨cs', [], rfl, hx, rfl⟩
theorem W_e1 (hI : zct P N N.zaa N.zcs N.zbi N.zbu) {loc : List Nat} {N' : Nat} {Q : Exit → Env → World → Prop} {σ : Env} {wS w : World} {q j : Nat} {vL : Value} {l : List Tr} (mS : Mod wS w zw) (hL : σ (q + 1) = vL) (hj : σ (q + 3) = .int .i64 j) (hvL : zfx wS vL l) (hjl : j < l.length)
  (hQ : ∀ σ' w' cx, (∀ i, i ≠ q + 5 → σ' i = σ i) → σ' (q + 5) = .pointer (some ⟨w.heap.size, 0, none⟩) → RepA wS l[j] cx → w'.rangeAt w.heap.size 0 cx → Mod w w' zw → w'.heap.size = w.heap.size + 1 → Q .normal σ' w') :
  W P loc N' (.ops [⟨some 0, .indexAddr N.zbi (V (q + 1)) (V (q + 3)), 0, none, []⟩, ⟨some 1, .load N.zaa (T 0), 0, none, []⟩, ⟨some (q + 5 + 100), .alloc N.zaa, 0, none, []⟩, ⟨none, .store N.zaa (V (q + 5)) (T 1), 0, none, []⟩]) Q σ w := by
 obtain ⟨fs, hti⟩ := hI.ti
 obtain ⟨bl, ol, cl, cx, hv1, hx, hg⟩ := hvL.get (List.getElem?_eq_getElem hjl)
 have hgw := zh mS hg
 have hld := hI.loadT hgw hx.len
 have hix := fun {w : World} => zbf (P := P) (w := w) hI.lt hti (bl := bl) (o := ol) (n := l.length) (c := cl) (i := j) (k := .i64) hjl
 obtain ⟨wa, w5, hal, hst, _, m5, s5, r5, _⟩ := zgo (cs := cx) hti (by decide) rfl hx.len hx.ones w
 refine zq fun τ => ?_
 simp +decide (disch := omega) only [bK, bE, Nat.reduceBeqDiff, BEq.rfl, hL, hj]
 rw [hv1]
 simp +decide (disch := omega) only [bK, hix, hld, hal, hst]
 refine zd (K := fun σ' w' => Q .normal σ' w') fun σ5 hσ => hQ σ5 w5 cx (fun i hi => ?_) ?_ hx r5 m5 s5
 ·rw [hσ i]
  have e1 : (i + 100 == q + 5 + 100) = false := beq_eq_false_iff_ne.2 (by omega)
  simp +decide (disch := omega) only [bE, Nat.reduceBeqDiff, e1]
 ·rw [hσ (q + 5)]
  simp +decide (disch := omega) only [bE, BEq.rfl]
end
section
variable {P : Program} {N : Nums} {M : zax} {L : zem} {mf : TypeId → FuncId} {m : FM}
def ElF (P : Program) (N : Nums) (mf : TypeId → FuncId) (m : FM) (e : El) : Prop := ∀ {wS w0 w : World} {bT b off n pos idx q lo Lc j : Nat} {Tt st : TypeId} {ct cx : List Value} {t x : Tr} {σ0 σ σ1 : Env} {w1 : World} {vs vals : List Val} {rest : List Value} {vL : Value} {loc : List Nat} {N' : Nat} {Q : Exit → Env → World → Prop},
 FC P N m wS w0 bT ct t b off n σ0 → HF P Tt idx pos → TI P st (.slice (e.ty N)) 1 24 (.slice none 0 0) → (∃ d by' z, TI P (e.ty N) d e.sz by' z ∧ z.cells.size = e.sz ∧ by' ≤ 128) → 0 < e.sz → e.sz ≤ 16777216 → m.q0 ≤ q → Lc < 1099511627776 - 1 → b < lo → bdT x →
 ArS m wS w0 b off n σ0 vs pos rest lo q vL Lc e.sz vals j σ w → j < Lc → (hjv : j < vals.length) → vals[j] = e.ofT x → (∀ i, i ≠ q + 5 → σ1 i = σ i) → σ1 (q + 5) = .pointer (some ⟨w.heap.size, 0, none⟩) → RepA wS x cx → w1.rangeAt w.heap.size 0 cx → Mod w w1 zw → w1.heap.size = w.heap.size + 1 →
 (∀ σ' w', σ' (q + 3) = .int .i64 j → ArS m wS w0 b off n σ0 vs pos rest lo q vL Lc e.sz vals (j + 1) (upd σ' (q + 3) (.int .i64 ((j + 1 : Nat) : Int))) w' → Q .normal σ' w') → W P loc N' (e.fe N mf m Tt idx st q) Q σ1 w1
theorem zve (B : Base P N) (hI : zct P N N.zaa N.zcs N.zbi N.zbu) {T' pT df : Nat} {fs : Fds} (ho : (El.row T' pT df fs).fok P N mf .fill) : ElF P N mf .fill (.row T' pT df fs) := by
 intro wS w0 w bT b off n pos idx q lo Lc j Tt st ct cx t x σ0 σ σ1 w1 vs vals rest vL loc N' Q c hT hS hE hs0 hsm hq hLc hblo hbx h hjL hjv hval hag h5 hx r1 m1 s1 hQ
 obtain ⟨hf, hmk⟩ := ho
 obtain ⟨d, by', z, ht, hz, hby⟩ := hE
 obtain ⟨ag, hL, hn, hj, le, mod, lo0, lo1, u, css, ucss, hr, hrep, hp, hnn, hO, hu, hsz, hon, hel⟩ := h
 obtain ⟨q', rfl⟩ : ∃ q', q = q' + 1 := ⟨q - 1, by have : 3 ≤ q := hq; omega⟩
 have hb0 := c.b0
 have hbS := c.bS
 have hq3 : 3 ≤ q' + 1 := hq
 have mSw : Mod wS w zw := c.mS.fresh mod fun k o e => by have := e.1; omega
 have hcell : w.cell? ⟨b, pos, none⟩ = some u := ArS.cell (σ0 := σ0) (σ := σ) (vs := vs) (vals := vals) (vL := vL) (wS := wS) (w0 := w0) (off := off) (n := n) (lo := lo) (q := q') (Lc := Lc) (sz := 0) (j := j) hr hp
 have f0 : σ1 0 = .pointer (some ⟨b, 0, none⟩) := by rw [hag 0 (by omega), ag 0 (by decide)]; exact c.sv
 have hv : ∀ k, ¬ zai u k → lo ≤ k ∧ k < w.heap.size := fun k hk => hO.blk hk
 have md : Mod w w1.drew zw := m1.trans' (Mod.drew _ _)
 have keepb : ∀ {w' : World}, Mod w w' (fun k _ => ¬ zai u k) → w'.cell? ⟨b, pos, none⟩ = some u := fun mm => by
  rw [mm.cell _ _ (zfa (by rw [hcell]; rfl)) (fun hn => by have := (hv b hn).1; omega)]; exact hcell
 show W P loc N' (.draw (lFr N .fill Tt idx st T' (mf T') (q' + 1))) Q σ1 w1
 refine ztx B.mixed [true, true, true, true, true, true, false, false, false, false, false, false] rfl (zth (l0 := lFr N .fill Tt idx st T' (mf T') 1) q' (by kernel_rfl) rfl) (fun w' => Mod w w' (fun k _ => ¬ zai u k) ∧ w'.rangeAt w.heap.size 0 cx) ⟨md.mono fun _ _ _ h => h.elim, zh (Mod.drew _ _) r1⟩ fun τ => ?_
 have e0 : zht σ1 τ 100 = .pointer (some ⟨b, 0, none⟩) := by rw [← f0]; exact envOf_var σ1 τ 0
 have e5 : zht σ1 τ (q' + 1 + 5 + 100) = .pointer (some ⟨w.heap.size, 0, none⟩) := by rw [← h5]; exact envOf_var σ1 τ (q' + 1 + 5)
 refine zn (.pointer (some ⟨b, 0, none⟩)) (fun w' _ => by rw [zbw, ev_tmp, e0]) rfl ?_
 refine zn (.pointer (some ⟨b, 0, none⟩)) (fun w' _ => by rw [zbw, ev_tmp]; simp +decide (disch := omega) only [zjm, e0]) rfl ?_
 refine zn (.pointer (some ⟨b, 0, none⟩)) (fun w' hw => rfl) rfl ?_
 refine zn (.pointer (some ⟨b, pos, none⟩)) (fun w' _ => zap (by simp +decide only [bE, BEq.rfl, Nat.zero_add, ev_tmp, hT.run])) rfl ?_
 refine zn u (fun w' hw => zap (by simp +decide only [bE, BEq.rfl, ev_tmp, hS.run_load1 rfl, keepb hw.1, ldc_some])) rfl ?_
 refine zn (.agg cx.toArray) (fun w' hw => zap (by
  simp +decide (disch := omega) only [ev_tmp, zjm, e5]
  exact hI.loadT hw.2 hx.len)) rfl ?_
 simp only []
 show anyC P _ _ _ _ [6, 7, 8, 9, 10, 11].length [6, 7, 8, 9, 10, 11] _ _
 refine zgr _ _ _ (by kernel_rfl) (by decide) (fun k hk => by simp at hk; subst hk; kernel_rfl) ?_
 simp only [lFr, List.map, List.getD_cons_zero, List.getD_cons_succ, zgl]
 rw [zbb hf]
 simp +decide only [bK, bE, Nat.reduceBeqDiff, BEq.rfl]
 refine (hmk wS w1.drew x cx (mSw.trans' md) hx hbx).mono ?_
 rintro _ w6 ⟨cs', rfl, hrep6, hl6, m6d⟩
 have m6 : Mod w w6 zw := md.trans' m6d
 have r6 : w6.rangeAt w.heap.size 0 cx := zh m6d (zh (Mod.drew _ _) r1)
 have hok := El.ofOk (.row T' pT df fs) hbx
 have hon' : ∀ c ∈ cs', c.oneCell' = true := by
  have h1 := hok.1
  obtain ⟨css', rfl, hrl⟩ := hrep6
  exact Fds.rep_one fs _ h1 hrl
 obtain ⟨w7, u', w8, w9, hbs, happ, hsto, m7, m08, m78, m9, c9, ho9, tr1, tr2⟩ := zxk (ty := st) (v6 := .agg cs'.toArray) (G := GS wS) (a := w1.heap.size) hS rfl ht hz hby hs0 hsm (b := b) (pos := pos) hblo (fun k (hk : k < wS.heap.size) => by omega) lo1 m6 m1.size hO hl6 rfl hon' hon (by omega) (by
  intro i hi
  obtain rfl : i = 0 := by omega
  have hth := mod.there c.b0 c.th (pos - off) (by omega)
  rw [show off + (pos - off) = pos + 0 by omega] at hth
  exact hth)
 have e9 : ∀ ρ : Env, (#[(0, T 6)] : Array (Nat × Operand)).map (fun p => (p.1, ev ρ p.2)) = #[(0, ρ 6)] := fun ρ => by simp
 have nb : ¬ ¬ zai u w.heap.size := fun h => by have := (hv _ h).2; omega
 have s6 := m6d.size
 have sd : w1.drew.heap.size = w1.heap.size := rfl
 have s7 := m7.size
 have r7 : w7.rangeAt w.heap.size 0 cx := by
  obtain ⟨i, hi, _⟩ := ht.info
  have hm67 : Mod w6 w7 zw := by
   have := zim (w := w6) (v := .agg cs'.toArray) (cs := cs') hS ht rfl hl6 hs0 hsm
   rw [this] at hbs
   injection hbs with _ hbs
   rw [← hbs]; exact Mod.alloc _ _ _
  exact zh hm67 r6
 have r8 : w8.rangeAt w.heap.size 0 cx := m78.rangeAt (zfa (by
  obtain ⟨_, _, _, ecx, _⟩ := hx.out
  have := r7 0 (.int .i64 x.n) (by rw [ecx]; rfl)
  rw [this]; rfl)) (fun _ _ _ => nb) r7
 refine ⟨⟨m6.mono fun _ _ _ h => h.elim, r6⟩, ?_⟩
 simp +decide only [bK, bE, BEq.rfl, e9, hbs]
 refine ⟨⟨m7.mono fun _ _ _ h => h.elim, r7⟩, ?_⟩
 simp +decide only [bK, happ]
 refine ⟨⟨m08, r8⟩, ?_⟩
 rw [zaw (a := ⟨b, 0, none⟩) (by simp +decide only [bE, Nat.reduceBeqDiff, BEq.rfl, ev_tmp])]
 refine ⟨⟨m08, r8⟩, ?_⟩
 simp +decide only [bK, bE, Nat.reduceBeqDiff, BEq.rfl, Nat.zero_add, hT.run]
 refine ⟨⟨m08, r8⟩, ?_⟩
 simp +decide only [bK, hsto]
 refine zd (K := fun σ' w' => Q .normal σ' w') fun σ9 hσ => ?_
 have e : ∀ k, σ9 k = σ1 k := fun k => by
  rw [hσ k]
  simp +decide (disch := omega) only [zjm, envOf_var]
 have hval' : Rep w6 (GN (GS wS) w1.heap.size w6.heap.size) vals[j] cs' := by rw [hval]; exact hrep6
 refine hQ σ9 w9 (by rw [e, hag _ (by omega)]; exact hj) ?_
 exact ArS.next c (fun i hi => by rw [e, hag _ (by have : i < 3 := hi; omega)]; exact ag i hi) hq (by rw [e, hag _ (by omega)]; exact hL) (by rw [e, hag _ (by omega)]; exact hn) hjL hjv mod lo0 lo1 hr hrep hp hnn hO hsz hon m9 c9 ho9 hl6 hon' (tr1 hel) (tr2 hval')
theorem elF_row_mk (B : Base P N) (hI : zct P N N.zaa N.zcs N.zbi N.zbu) {T' pT df : Nat} {fs : Fds} (ho : (El.row T' pT df fs).fok P N mf .mk) : ElF P N mf .mk (.row T' pT df fs) := by
 intro wS w0 w bT b off n pos idx q lo Lc j Tt st ct cx t x σ0 σ σ1 w1 vs vals rest vL loc N' Q c hT hS hE hs0 hsm hq hLc hblo hbx h hjL hjv hval hag h5 hx r1 m1 s1 hQ
 obtain ⟨hf, hmk⟩ := ho
 obtain ⟨d, by', z, ht, hz, hby⟩ := hE
 obtain ⟨ag, hL, hn, hj, le, mod, lo0, lo1, u, css, ucss, hr, hrep, hp, hnn, hO, hu, hsz, hon, hel⟩ := h
 obtain ⟨q', rfl⟩ : ∃ q', q = q' + 1 := ⟨q - 1, by have : 4 ≤ q := hq; omega⟩
 have hb0 := c.b0
 have hbS := c.bS
 have hq3 : 4 ≤ q' + 1 := hq
 have mSw : Mod wS w zw := c.mS.fresh mod fun k o e => by have := e.1; omega
 have hcell : w.cell? ⟨b, pos, none⟩ = some u := ArS.cell (σ0 := σ0) (σ := σ) (vs := vs) (vals := vals) (vL := vL) (wS := wS) (w0 := w0) (off := off) (n := n) (lo := lo) (q := q') (Lc := Lc) (sz := 0) (j := j) hr hp
 have f3 : σ1 3 = .pointer (some ⟨b, 0, none⟩) := by rw [hag 3 (by omega), ag 3 (by decide)]; exact c.sv
 have hv : ∀ k, ¬ zai u k → lo ≤ k ∧ k < w.heap.size := fun k hk => hO.blk hk
 have md : Mod w w1.drew zw := m1.trans' (Mod.drew _ _)
 have keepb : ∀ {w' : World}, Mod w w' (fun k _ => ¬ zai u k) → w'.cell? ⟨b, pos, none⟩ = some u := fun mm => by
  rw [mm.cell _ _ (zfa (by rw [hcell]; rfl)) (fun hn => by have := (hv b hn).1; omega)]; exact hcell
 show W P loc N' (.draw (lFr N .mk Tt idx st T' (mf T') (q' + 1))) Q σ1 w1
 refine ztx B.mixed [true, true, true, false, false, false, false, false] rfl (zth (l0 := lFr N .mk Tt idx st T' (mf T') 1) q' (by kernel_rfl) rfl) (fun w' => Mod w w' (fun k _ => ¬ zai u k) ∧ w'.rangeAt w.heap.size 0 cx) ⟨md.mono fun _ _ _ h => h.elim, zh (Mod.drew _ _) r1⟩ fun τ => ?_
 have e3 : zht σ1 τ 103 = .pointer (some ⟨b, 0, none⟩) := by rw [← f3]; exact envOf_var σ1 τ 3
 have e5 : zht σ1 τ (q' + 1 + 5 + 100) = .pointer (some ⟨w.heap.size, 0, none⟩) := by rw [← h5]; exact envOf_var σ1 τ (q' + 1 + 5)
 refine zn (.pointer (some ⟨b, pos, none⟩)) (fun w' _ => zap (by simp +decide only [ev_tmp, e3, hT.run, Nat.zero_add])) rfl ?_
 refine zn u (fun w' hw => zap (by simp +decide only [bE, BEq.rfl, ev_tmp, hS.run_load1 rfl, keepb hw.1, ldc_some])) rfl ?_
 refine zn (.agg cx.toArray) (fun w' hw => zap (by
  simp +decide (disch := omega) only [ev_tmp, zjm, e5]
  exact hI.loadT hw.2 hx.len)) rfl ?_
 simp only []
 show anyC P _ _ _ _ [3, 4, 5, 6, 7].length [3, 4, 5, 6, 7] _ _
 refine zgr _ _ _ (by kernel_rfl) (by decide) (fun k hk => by simp at hk; subst hk; kernel_rfl) ?_
 simp only [lFr, List.map, List.getD_cons_zero, List.getD_cons_succ, zgl]
 rw [zbb hf]
 simp +decide only [bK, bE, Nat.reduceBeqDiff, BEq.rfl, Nat.reduceAdd]
 refine (hmk wS w1.drew x cx (mSw.trans' md) hx hbx).mono ?_
 rintro _ w6 ⟨cs', rfl, hrep6, hl6, m6d⟩
 have m6 : Mod w w6 zw := md.trans' m6d
 have r6 : w6.rangeAt w.heap.size 0 cx := zh m6d (zh (Mod.drew _ _) r1)
 have hok := El.ofOk (.row T' pT df fs) hbx
 have hon' : ∀ c ∈ cs', c.oneCell' = true := by
  have h1 := hok.1
  obtain ⟨css', rfl, hrl⟩ := hrep6
  exact Fds.rep_one fs _ h1 hrl
 obtain ⟨w7, u', w8, w9, hbs, happ, hsto, m7, m08, m78, m9, c9, ho9, tr1, tr2⟩ := zxk (ty := st) (v6 := .agg cs'.toArray) (G := GS wS) (a := w1.heap.size) hS rfl ht hz hby hs0 hsm (b := b) (pos := pos) hblo (fun k (hk : k < wS.heap.size) => by omega) lo1 m6 m1.size hO hl6 rfl hon' hon (by omega) (by
  intro i hi
  obtain rfl : i = 0 := by omega
  have hth := mod.there c.b0 c.th (pos - off) (by omega)
  rw [show off + (pos - off) = pos + 0 by omega] at hth
  exact hth)
 have e9 : ∀ ρ : Env, (#[(0, T 3)] : Array (Nat × Operand)).map (fun p => (p.1, ev ρ p.2)) = #[(0, ρ 3)] := fun ρ => by simp
 have nb : ¬ ¬ zai u w.heap.size := fun h => by have := (hv _ h).2; omega
 have s6 := m6d.size
 have sd : w1.drew.heap.size = w1.heap.size := rfl
 have s7 := m7.size
 have r7 : w7.rangeAt w.heap.size 0 cx := by
  have hm67 : Mod w6 w7 zw := by
   have := zim (w := w6) (v := .agg cs'.toArray) (cs := cs') hS ht rfl hl6 hs0 hsm
   rw [this] at hbs
   injection hbs with _ hbs
   rw [← hbs]; exact Mod.alloc _ _ _
  exact zh hm67 r6
 have r8 : w8.rangeAt w.heap.size 0 cx := m78.rangeAt (zfa (by
  obtain ⟨_, _, _, ecx, _⟩ := hx.out
  have := r7 0 (.int .i64 x.n) (by rw [ecx]; rfl)
  rw [this]; rfl)) (fun _ _ _ => nb) r7
 refine ⟨⟨m6.mono fun _ _ _ h => h.elim, r6⟩, ?_⟩
 simp +decide only [bK, bE, BEq.rfl, e9, hbs]
 refine ⟨⟨m7.mono fun _ _ _ h => h.elim, r7⟩, ?_⟩
 simp +decide only [bK, happ]
 refine ⟨⟨m08, r8⟩, ?_⟩
 have e3' : ∀ (ρ : Env), ρ 103 = .pointer (some ⟨b, 0, none⟩) → ev ρ (V 3) = .pointer (some ⟨b, 0, none⟩) := fun ρ h => h
 simp +decide only [bK, Nat.zero_add, f3, hT.run]
 refine ⟨⟨m08, r8⟩, ?_⟩
 simp +decide only [bK, hsto]
 refine zd (K := fun σ' w' => Q .normal σ' w') fun σ9 hσ => ?_
 have e : ∀ k, σ9 k = σ1 k := fun k => by
  rw [hσ k]
  simp +decide (disch := omega) only [zjm, envOf_var]
 have hval' : Rep w6 (GN (GS wS) w1.heap.size w6.heap.size) vals[j] cs' := by rw [hval]; exact hrep6
 refine hQ σ9 w9 (by rw [e, hag _ (by omega)]; exact hj) ?_
 exact ArS.next c (fun i hi => by rw [e, hag _ (by have : i < 4 := hi; omega)]; exact ag i hi) hq (by rw [e, hag _ (by omega)]; exact hL) (by rw [e, hag _ (by omega)]; exact hn) hjL hjv mod lo0 lo1 hr hrep hp hnn hO hsz hon m9 c9 ho9 hl6 hon' (tr1 hel) (tr2 hval')
end
section
variable {P : Program} {N : Nums} {M : zax} {L : zem} {mf : TypeId → FuncId} {m : FM}
theorem elF_pr (B : Base P N) (hI : zct P N N.zaa N.zcs N.zbi N.zbu) {k : PK} (ho : (El.pr k).fok P N mf m) : ElF P N mf m (.pr k) := by
 obtain ⟨rfl, hsg, hnb, hn6, hnt⟩ := ho
 intro wS w0 w bT b off n pos idx q lo Lc j Tt st ct cx t x σ0 σ σ1 w1 vs vals rest vL loc N' Q c hT hS hE hs0 hsm hq hLc hblo hbx h hjL hjv hval hag h5 hx r1 m1 s1 hQ
 obtain ⟨d, by', z, ht, hz, hby⟩ := hE
 obtain ⟨ag, hL, hn, hj, le, mod, lo0, lo1, u, css, ucss, hr, hrep, hp, hnn, hO, hu, hsz, hon, hel⟩ := h
 have hb0 := c.b0
 have hbS := c.bS
 have hq3 : 4 ≤ q := hq
 have hcell : w.cell? ⟨b, pos, none⟩ = some u := ArS.cell (σ0 := σ0) (σ := σ) (vs := vs) (vals := vals) (vL := vL) (wS := wS) (w0 := w0) (off := off) (n := n) (lo := lo) (q := q) (Lc := Lc) (sz := 0) (j := j) hr hp
 have hcell1 : w1.cell? ⟨b, pos, none⟩ = some u := by rw [m1.cell _ _ (zfa (by rw [hcell]; rfl)) fun h => h]; exact hcell
 have f3 : σ1 3 = .pointer (some ⟨b, 0, none⟩) := by rw [hag 3 (by omega), ag 3 (by decide)]; exact c.sv
 have hok := zog k hbx
 obtain ⟨vs0, vl0, vu0, hcx, _⟩ := hx.out
 have x0 : w1.cell? ⟨w.heap.size, 0, none⟩ = some (.int .i64 x.n) := r1 0 _ (by rw [hcx]; rfl)
 have hone : k.sz = 1 := by cases k <;> first | rfl | cases hsg
 have hcs : (k.ofN x).oneCell' = true := by
  cases k <;> first | (cases hsg; done) | rfl
 have hcv : ∀ {w : World}, (convert N.zbl (k.t N) (.int .i64 x.n)).run P w = .ok (k.ofN x) w := by
  intro w
  cases k with
  | i8 => exact zay (k' := .i64) B.int64 (B.int8 (hnt.2 rfl)) ⟨_, rfl⟩
  | i16 => exact zay (k' := .i64) B.int64 B.int16 ⟨_, rfl⟩
  | u16 => exact zay (k' := .i64) B.int64 B.uint16 ⟨_, rfl⟩
  | i32 => exact zay (k' := .i64) B.int64 B.int32 ⟨_, rfl⟩
  | bool => exact absurd rfl hnb
  | i64 => exact absurd rfl hn6
  | uuid => cases hsg
  | en t => cases hsg
 obtain ⟨w7, u', w8, w9, hbs, happ, hsto, m7, m08, m78, m9, c9, ho9, tr1, tr2⟩ := zxk (ty := st) (v6 := k.ofN x) (G := GS wS) (a := w1.heap.size) hS rfl ht hz hby hs0 hsm (b := b) (pos := pos) (cs' := [k.ofN x]) hblo (fun k (hk : k < wS.heap.size) => by omega) lo1 m1 m1.size hO (by show 1 = k.sz; rw [hone]) (zcl hcs) (by intro c hc; simp at hc; rw [hc]; exact hcs) hon (by omega) (by
  intro i hi
  obtain rfl : i = 0 := by omega
  have hth := mod.there c.b0 c.th (pos - off) (by omega)
  rw [show off + (pos - off) = pos + 0 by omega] at hth
  exact hth)
 have e5 : ∀ ρ : Env, (#[(0, T 4)] : Array (Nat × Operand)).map (fun p => (p.1, ev ρ p.2)) = #[(0, ρ 4)] := fun ρ => by simp
 have hf0 := hI.h0
 show W P loc N' (.ops (lFn N Tt idx st (k.t N) q)) Q σ1 w1
 unfold lFn
 refine zq fun τ => ?_
 simp +decide (disch := omega) only [bK, bE, Nat.reduceBeqDiff, BEq.rfl, Nat.reduceAdd, Nat.add_zero, Nat.zero_add, f3, h5, hT.run, hS.run_load1 rfl, hcell1, hf0.run, B.int64.run_load1 rfl, x0, hcv, e5, hbs, happ, hsto]
 refine zd (K := fun σ' w' => Q .normal σ' w') fun σ9 hσ => ?_
 have e : ∀ k, σ9 k = σ1 k := fun k => by
  rw [hσ k]
  simp +decide (disch := omega) only [zjm, envOf_var]
 have hval' : Rep w1 (GN (GS wS) w1.heap.size w1.heap.size) vals[j] [k.ofN x] := by
  rw [hval]
  show Rep w1 _ (.num (k.ofN x)) [k.ofN x]
  simp only [Rep]
  rw [zcl hcs]
 refine hQ σ9 w9 (by rw [e, hag _ (by omega)]; exact hj) ?_
 exact ArS.next c (fun i hi => by rw [e, hag _ (by have : i < 4 := hi; omega)]; exact ag i hi) hq (by rw [e, hag _ (by omega)]; exact hL) (by rw [e, hag _ (by omega)]; exact hn) hjL hjv mod lo0 lo1 hr hrep hp hnn hO hsz hon m9 c9 ho9 (by show 1 = k.sz; rw [hone]) (by intro c hc; simp at hc; rw [hc]; exact hcs) (tr1 hel) (tr2 hval')
theorem elF_of (B : Base P N) (hI : zct P N N.zaa N.zcs N.zbi N.zbu) {e : El} (ho : e.fok P N mf m) : ElF P N mf m e := by
 cases e with
 | pr k => exact elF_pr B hI ho
 | txt k => exact ho.elim
 | row T' pT df fs =>
  cases m with
  | fill => exact zve B hI ho
  | mk => exact elF_row_mk B hI ho
theorem mid_make (B : Base P N) (hI : zct P N N.zaa N.zcs N.zbi N.zbu) (F : TrF P N) {st et sz by' : Nat} {d : TypeDesc} {z : Value} (hS : TI P st (.slice et) 1 24 (.slice none 0 0)) (ht : TI P et d sz by' z) (hz : z.cells.size = sz) (hby : by' ≤ 128) {x : Nat} (hx : x < 50) {wS : World} {cx : List Value} {tx : Tr} (hl : tx.l.length ≤ 1048576) :
  MidR P [⟨some (x + 1), .field N.zaa (T x) 3, 0, none, []⟩, ⟨some (x + 2), .call ⟨.builtin .len, #[T (x + 1)], #[N.zbi]⟩, N.ze, none, []⟩, ⟨some (x + 3), .makeSlice st (.const (.int .i64 0)) (T (x + 2)), 0, none, []⟩] x (x + 3) wS cx tx
   (fun w v w' => ∃ bl, v = .slice (some ⟨bl, 0, none⟩) 0 tx.l.length ∧ w.heap.size ≤ bl ∧ bl < w'.heap.size ∧ w'.there bl 0 (tx.l.length * sz)) := by
 intro ρ w K mS hr hρ hK
 obtain ⟨vs, vl, vu, hcx, _, h2, _⟩ := hr.out
 have hf3 : (Instr.field N.zaa (.agg cx.toArray) 3).run P w = .ok vl w := F.f3.run (by rw [hcx]; rfl)
 have hln : (Builtin.len_ #[N.zbi] N.ze #[vl]).run P w = .ok (.int .i64 tx.l.length) w := by
  rcases h2 with ⟨ad, c, e, e2⟩ | ⟨b, o, c, css, e, _⟩
  ·rw [e, e2]; exact hI.lt.run_len
  ·rw [e]; exact hI.lt.run_len
 obtain ⟨i, hi, hsz, hbytes, hzero⟩ := ht.info
 have hmk := run_make (P := P) w st et i z hS.und hi hzero .i64 .i64 0 tx.l.length (by decide) (by omega) (by
  rw [hbytes]
  have : (by' : Int) * (tx.l.length : Int) ≤ 128 * 1048576 := Int.mul_le_mul (by omega) (by omega) (by omega) (by decide)
  omega) (by omega)
 show zbj P _ ρ w _
 rw [zge, ev_tmp, hρ, hf3, stepV_ok]
 show zbj P _ _ w _
 rw [zsy, ev_tmp, zhh, hln, stepV_ok]
 show zbj P _ _ w _
 rw [zjl, ev_const, ev_tmp, zhh, hmk, stepV_ok]
 have s1 : (w.alloc (.cells (madeCells z.cells ((tx.l.length : Int).toNat * i.size)) et)).heap.size = w.heap.size + 1 := zae _ _
 refine hK _ _ (.slice (some ⟨w.heap.size, 0, none⟩) 0 tx.l.length) (fun t ht => by rw [zgd (by omega), zgd (by omega), zgd (by omega)]) zhh (Mod.alloc _ _ _) ⟨w.heap.size, rfl, Nat.le_refl _, by rw [s1]; omega, ?_⟩
 have := zbe w (madeCells z.cells ((tx.l.length : Int).toNat * i.size)) et
 rw [size_madeCells] at this
 rw [hsz] at this ⊢
 simpa using this
theorem tyF_arr (B : Base P N) (S : SpT P N M) (hI : zct P N N.zaa N.zcs N.zbi N.zbu) (F : TrF P N) (G : SMg P N M L) {st : Nat} {nul : Option Int} {e : El} (ho : (Ty.arr st nul e).fok P N L mf m) : TyF P N L mf m (.arr st nul e) := by
 intro wS w0 w bT b off n pos idx i q kk Tt ct t σ0 σ vs rest loc N' Q hlo c hb h hT hq hQ
 obtain ⟨hS, hE, hs0, hsm, hfe⟩ := ho
 obtain ⟨d, by', z, ht, hz, hby⟩ := hE
 have hbt := hb.at i
 have hll : (atT t i).l.length ≤ 1048576 := ((zgp _).1 hbt).2.2.1
 obtain ⟨rT, mS⟩ := h.trw c
 have hlen := c.rep.len
 have hwS := c.mS.size
 have ftv : ∀ {σ' : Env}, Ag m.q0 σ0 σ' → σ' m.tv = .pointer (some ⟨bT, 0, none⟩) := fun a => by rw [a m.tv (by cases m <;> decide)]; exact c.tv
 have htq : m.tv < q := by
  have : m.tv < m.q0 := by cases m <;> decide
  omega
 unfold Ty.fgen cFarr
 refine zf fun K hK => zq fun τ => ?_
 have f1 := ftv h.ag
 simp +decide (disch := omega) only [bK, bE, BEq.rfl, f1, hI.loadT rT hlen]
 rw [zaj G.at_.has]
 simp +decide only [bK, bE, BEq.rfl]
 refine (zpt B S hI G mS c.rep i).mono ?_
 rintro _ w1 ⟨cx, rfl, hx, m1⟩
 obtain ⟨vs1, vl1, vu1, hcx, _, hvl, _⟩ := hx.out
 have hf2 : ∀ {w : World}, (Instr.field N.zaa (.agg cx.toArray) 2).run P w = .ok (.bool (atT t i).nl) w := F.f2.run (by rw [hcx]; rfl)
 have hf3 : ∀ {w : World}, (Instr.field N.zaa (.agg cx.toArray) 3).run P w = .ok vl1 w := F.f3.run (by rw [hcx]; rfl)
 simp +decide (disch := omega) only [bK, hf2]
 refine hK _ _ (zd fun σ1 hσ => ?_)
 have a1 : ∀ j, j ≠ q → σ1 j = σ j := fun j hj => by
  rw [hσ j]
  have e1 : (j + 100 == q + 100) = false := beq_eq_false_iff_ne.2 (by omega)
  simp +decide (disch := omega) only [bE, Nat.reduceBeqDiff, e1]
 have aq : σ1 q = .bool (!(atT t i).nl) := by
  rw [hσ q]
  simp +decide (disch := omega) only [bE, BEq.rfl]
 clear hσ hK K
 have h1 : FSt m wS w0 b off n σ0 vs pos ((Ty.arr st nul e).zero ++ rest) σ1 w1 := (h.stay hwS c.b0 m1).agr fun j hj => a1 j (by omega)
 refine W_if hlo aq ?_
 cases hnl : (atT t i).nl with
 | true =>
  simp only [Bool.not_true, Bool.false_eq_true, if_false]
  refine zbx (hQ _ _ ?_)
  have := FSt.skip (x := .nilA) h1 (by show Rep w1 _ .nilA [.slice none 0 0]; simp only [Rep])
  have e1 : (Ty.arr st nul e).ofT (atT t i) = .nilA := by simp only [Ty.ofT, hnl, if_true]
  rw [e1]; exact this
 | false =>
  simp only [Bool.not_false, if_true]
  have e1 : (Ty.arr st nul e).ofT (atT t i) = .arr e.sz ((atT t i).l.map e.ofT) := by simp only [Ty.ofT, hnl, Bool.false_eq_true, if_false]
  rw [e1] at hQ
  refine zf fun K hK => W_setR B S hI G c h1 hT hS rfl (fun cx => mid_make B hI F hS ht hz hby (FM.xlt m) hll) (by omega) (by have := FM.xlt m; omega) (fun wa v w' hv => ?_) fun wa v w2 cs ma hR m2 hc hl hth => hK _ _ ?_
  ·obtain ⟨bl, rfl, _⟩ := hv
   exact ⟨[.slice (some ⟨bl, 0, none⟩) 0 (atT t i).l.length], rfl, rfl, fun c hc => by simp at hc; rw [hc]; rfl⟩
  clear hK K
  obtain ⟨bl, rfl, hbl1, hbl2, hbth⟩ := hR
  have hcs : cs = [.slice (some ⟨bl, 0, none⟩) 0 (atT t i).l.length] := by simpa [Value.cells] using (congrArg Array.toList hc).symm
  subst hcs
  obtain ⟨u0, hu0⟩ : ∃ u, u = Value.slice (some ⟨bl, 0, none⟩) 0 (atT t i).l.length := ⟨_, rfl⟩
  rw [← hu0]
  obtain ⟨w3, hw3⟩ : ∃ w3, w3 = w2.setCells b pos [u0] := ⟨_, rfl⟩
  obtain ⟨ag, modA, css, hrA, hrep, hp, hn⟩ := h1.stay hwS c.b0 ma
  have hr := zh m2 hrA
  have mod : Mod w0 w2 (fun k o => k = b ∧ off ≤ o) := modA.trans m2 fun k o _ h => h.elim id fun h => h.elim
  have sa := ma.size
  have s2 := m2.size
  have m3 : Mod w2 w3 (fun k o => k = b ∧ o = pos) := by rw [hw3]; exact Mod.setCells _ _ _ fun _ j h1 h2 => ⟨rfl, by simp at h2; omega⟩
  have s3 : w3.heap.size = w2.heap.size := by rw [hw3]; exact zcn _ _ _
  have hb0 := c.b0
  have hbS := c.bS
  have s01 := (h1.mod).size
  have c3 : w3.cell? ⟨b, pos, none⟩ = some u0 := by
   have := (hth 0 (by decide)).1
   obtain ⟨x, hx⟩ := Option.isSome_iff_exists.1 this
   rw [hw3]
   exact World.cell?_setCell_same _ _ _ hx
  rw [← hw3]
  clear hw3
  have mod3 : Mod w0 w3 (fun k o => k = b ∧ off ≤ o) := mod.trans m3 fun k o _ h => h.elim id fun h => ⟨h.1, by omega⟩
  have mS3 : Mod wS w3 zw := c.mS.fresh mod3 fun k o e => by have := e.1; omega
  have rT3 : w3.rangeAt bT 0 ct := mod3.rangeAt c.lT (fun _ _ _ e => c.ne e.1) c.tr
  refine zf fun K hK => zq fun τ => ?_
  have f2 := ftv h1.ag
  simp +decide (disch := omega) only [bK, bE, BEq.rfl, f2, hI.loadT rT3 hlen]
  rw [zaj G.at_.has]
  simp +decide only [bK, bE, BEq.rfl]
  refine (zpt B S hI G mS3 c.rep i).mono ?_
  rintro _ w4 ⟨cx', rfl, hx', m4⟩
  obtain ⟨vs2, vL, vu2, hcx', _, hvL, _⟩ := hx'.out
  have hf3' : ∀ {w : World}, (Instr.field N.zaa (.agg cx'.toArray) 3).run P w = .ok vL w := F.f3.run (by rw [hcx']; rfl)
  have hln : ∀ {w : World}, (Builtin.len_ #[N.zbi] N.ze #[vL]).run P w = .ok (.int .i64 (atT t i).l.length) w := fun {w} => by
   rcases hvL with ⟨ad, c, e, e2⟩ | ⟨b, o, c, css, e, _⟩
   ·rw [e, e2]; exact hI.lt.run_len
   ·rw [e]; exact hI.lt.run_len
  simp +decide (disch := omega) only [bK, hf3', hln]
  refine hK _ _ (zd fun σ3 hσ => ?_)
  have b1 : ∀ j, j < q + 1 → σ3 j = σ1 j := fun j hj => by
   rw [hσ j]
   have e1 : (j + 100 == q + 1 + 100) = false := beq_eq_false_iff_ne.2 (by omega)
   have e2 : (j + 100 == q + 2 + 100) = false := beq_eq_false_iff_ne.2 (by omega)
   have e3 : (j + 100 == q + 3 + 100) = false := beq_eq_false_iff_ne.2 (by omega)
   simp +decide (disch := omega) only [bE, Nat.reduceBeqDiff, e1, e2, e3]
  have bL : σ3 (q + 1) = vL := by
   rw [hσ (q + 1)]
   have e2 : (q + 1 + 100 == q + 2 + 100) = false := beq_eq_false_iff_ne.2 (by omega)
   have e3 : (q + 1 + 100 == q + 3 + 100) = false := beq_eq_false_iff_ne.2 (by omega)
   simp +decide (disch := omega) only [bE, BEq.rfl, e2, e3]
  have bn : σ3 (q + 2) = .int .i64 (atT t i).l.length := by
   rw [hσ (q + 2)]
   have e3 : (q + 2 + 100 == q + 3 + 100) = false := beq_eq_false_iff_ne.2 (by omega)
   simp +decide (disch := omega) only [bE, BEq.rfl, e3]
  have bj : σ3 (q + 3) = .int .i64 ((0 : Nat) : Int) := by
   rw [hσ (q + 3)]
   simp +decide (disch := omega) only [bE, BEq.rfl]
   rfl
  clear hσ hK K
  have s4 := m4.size
  have init : ArS m wS w0 b off n σ0 vs pos rest wa.heap.size q vL (atT t i).l.length e.sz ((atT t i).l.map e.ofT) 0 σ3 w4 := by
   have hr3 : w3.rangeAt b off (css.flatten ++ ([u0] ++ rest)) := by
    have hr' : w2.rangeAt b off (css.flatten ++ ([Value.slice none 0 0] ++ rest)) := hr
    rw [zx, hp] at hr' ⊢
    refine ⟨m3.rangeAt (by omega) (fun j h1 h2 e => by have := e.2; omega) hr'.1, (zx (cs := [u0]) (ds := rest)).2 ⟨zgw.2 c3, m3.rangeAt (by omega) (fun j h1 h2 e => by have := e.2; simp at h1; omega) ((zx (cs := [Value.slice none 0 0]) (ds := rest)).1 hr'.2).2⟩⟩
   refine ⟨fun j hj => by rw [b1 j (by omega)]; exact h1.ag j hj, bL, bn, bj, Nat.zero_le _, mod3.trans m4 fun k o _ h => h.elim id fun h => h.elim, by omega, by omega, u0, css, [], zh m4 hr3, ?_, hp, ?_, ?_, ⟨bl, _, hu0⟩, fun x hx => by simp at hx, fun x hx => by simp at hx, by simp only [List.take_zero, RepL]⟩
   ·
    have mA4 : Mod wa w4 (fun k o => k = b ∧ o = pos) := ((m2.mono fun _ _ _ h => h.elim).trans' m3).trans' (m4.mono fun _ _ _ h => h.elim)
    refine RepL.mod mA4 (fun k hk => ⟨?_, fun o e => ?_, hk⟩) _ hrep
    ·rcases hk with hk | hk
     ·have hk : k < wS.heap.size := hk
      omega
     ·exact hk.2
    ·rcases hk with hk | hk
     ·have hk : k < wS.heap.size := hk
      omega
     ·have := hk.1; have := e.1; omega
   ·have : (Ty.arr st nul e).zero.length = 1 := rfl
    rw [List.length_append, this] at hn; omega
   ·rw [hu0]
    refine .inr ⟨bl, (atT t i).l.length, rfl, hbl1, by omega, Nat.zero_le _, ?_, fun j v hj => by simp at hj, by simp⟩
    exact m4.there (by omega) (m3.there (by omega) hbth)
  refine zgs hlo (L := (atT t i).l.length) (by omega) (fun j σ w => ArS m wS w0 b off n σ0 vs pos rest wa.heap.size q vL (atT t i).l.length e.sz ((atT t i).l.map e.ofT) j σ w) (fun j σ w h => ⟨h.hj, h.hn, h.le⟩) (fun j σ w bb h => h.agr hq fun i hi => zp (by omega)) init (fun σ' w' h => hQ _ _ (ArS.done c h (List.length_map _))) (fun j σ' w' hj h => ?_)
  have mSw' : Mod wS w' zw := c.mS.fresh h.mod fun k o e => by have := e.1; omega
  refine zf fun K hK => W_e1 hI mSw' h.hL h.hj hvL hj fun σ5 w5 cx5 hag5 h55 hx5 r5 m5 s5 => hK _ _ ?_
  have hjv : j < ((atT t i).l.map e.ofT).length := by rw [List.length_map]; exact hj
  refine elF_of B hI hfe c hT hS ⟨d, by', z, ht, hz, hby⟩ hs0 hsm hq (by omega) (by omega) (((zgp _).1 hbt).2.2.2.2.2 _ (List.getElem_mem hj)) h hj hjv (by rw [List.getElem_map]) hag5 h55 hx5 r5 m5 s5 fun σ6 w6 g1 g2 => ⟨g1, g2⟩
end
structure TgS (m : FM) (wS w0 : World) (b off n : Nat) (σ0 : Env) (vs : List Val) (pos : Nat) (rest : List Value) (lo q : Nat) (vu : Value) (u : List (Nat × List UInt8)) (j : Nat) (σ : Env) (w : World) : Prop where
 ag : Ag m.q0 σ0 σ
 hu : σ q = vu
 hn : σ (q + 1) = .int .i64 u.length
 hj : σ (q + 2) = .int .i64 j
 le : j ≤ u.length
 mod : Mod w0 w (fun k o => k = b ∧ off ≤ o)
 lo0 : w0.heap.size ≤ lo
 lo1 : lo ≤ w.heap.size
 ex : ∃ mv css, w.rangeAt b off (css.flatten ++ ([mv] ++ rest)) ∧ RepL w (GN (GS wS) w0.heap.size lo) vs css ∧ off + css.flatten.length = pos ∧ css.flatten.length + (1 + rest.length) = n ∧ zrd w (GS wS) lo mv (zmj (u.take j))
theorem zrd.tagsG {w : World} {G G' : Nat → Prop} {c : Nat} {v : Value} {l : List (Nat × List UInt8)} (h : zrd w G c v l) (hG : ∀ k, G k → G' k) (hn : ∀ k, c ≤ k → k < w.heap.size → G' k) : zny w G' v l := by
 rcases h with h | ⟨m, es, ck, h1, h2, h3, h4, h5, h6, h7, h8⟩
 ·exact .inl h
 ·exact .inr ⟨m, es, ck, h1, hn m h2 h3, h4, h5, h6, h7.mono hG, h8⟩
theorem tputs_snoc (u : List (Nat × List UInt8)) {j : Nat} (hj : j < u.length) : zmj (u.take (j + 1)) = tput (zmj (u.take j)) u[j].1 u[j].2 := by
 unfold zmj
 rw [← List.take_append_getElem hj, List.foldl_append]; rfl
section
variable {P : Program} {N : Nums} {M : zax} {L : zem} {mf : TypeId → FuncId} {m : FM}
theorem TgS.agr {wS w0 w : World} {b off n pos lo q j : Nat} {σ0 σ σ' : Env} {vs : List Val} {rest : List Value} {vu : Value} {u : List (Nat × List UInt8)} (h : TgS m wS w0 b off n σ0 vs pos rest lo q vu u j σ w) (hq : m.q0 ≤ q) (e : ∀ i, i < q + 3 → σ' i = σ i) : TgS m wS w0 b off n σ0 vs pos rest lo q vu u j σ' w :=
 ⟨fun i hi => (e i (by omega)).trans (h.ag i hi), (e _ (by omega)).trans h.hu, (e _ (by omega)).trans h.hn, (e _ (by omega)).trans h.hj, h.le, h.mod, h.lo0, h.lo1, h.ex⟩
theorem TgS.done {wS w0 w : World} {b off n pos lo q : Nat} {σ0 σ : Env} {vs : List Val} {rest : List Value} {vu : Value} {u : List (Nat × List UInt8)} (h : TgS m wS w0 b off n σ0 vs pos rest lo q vu u u.length σ w) : FSt m wS w0 b off n σ0 (vs ++ [.tags (zmj u)]) (pos + 1) rest σ w := by
 obtain ⟨ag, _, _, _, _, mod, lo0, lo1, mv, css, hr, hrep, hp, hn, ht⟩ := h
 rw [List.take_length] at ht
 refine ⟨ag, mod, css ++ [[mv]], ?_, RepL.append (RepL.mono (fun k hk => hk.imp id fun h => ⟨h.1, by have := h.2; omega⟩) _ hrep) ⟨[mv], [], rfl, ⟨mv, rfl, ht.tagsG (fun k h => .inl h) fun k h1 h2 => .inr ⟨by omega, h2⟩⟩, rfl⟩, ?_, ?_⟩
 ·rw [List.flatten_append, List.flatten_cons, List.flatten_nil, List.append_nil, List.append_assoc]; exact hr
 ·rw [List.flatten_append, List.length_append, List.flatten_cons, List.flatten_nil, List.append_nil, List.length_singleton]; omega
 ·rw [List.flatten_append, List.length_append, List.flatten_cons, List.flatten_nil, List.append_nil, List.length_singleton]; omega
theorem TgS.next {wS w0 w w9 : World} {bT b off n pos lo q j : Nat} {ct : List Value} {t : Tr} {σ0 σ' : Env} {vs : List Val} {rest : List Value} {vu mv mv' : Value} {u : List (Nat × List UInt8)} {css : List (List Value)} (c : FC P N m wS w0 bT ct t b off n σ0) (ag : Ag m.q0 σ0 σ') (hq : m.q0 ≤ q) (hu : σ' q = vu) (hn : σ' (q + 1) = .int .i64 u.length) (hj : j < u.length)
  (mod : Mod w0 w (fun k o => k = b ∧ off ≤ o)) (lo0 : w0.heap.size ≤ lo) (lo1 : lo ≤ w.heap.size) (hr : w.rangeAt b off (css.flatten ++ ([mv] ++ rest))) (hrep : RepL w (GN (GS wS) w0.heap.size lo) vs css) (hp : off + css.flatten.length = pos) (hnn : css.flatten.length + (1 + rest.length) = n)
  (m9 : Mod w w9 (fun k o => (k = b ∧ o = pos) ∨ lo ≤ k)) (c9 : w9.cell? ⟨b, pos, none⟩ = some mv') (htg : zrd w9 (GS wS) lo mv' (zmj (u.take (j + 1)))) :
  TgS m wS w0 b off n σ0 vs pos rest lo q vu u (j + 1) (upd σ' (q + 2) (.int .i64 ((j + 1 : Nat) : Int))) w9 := by
 have hb0 := c.b0
 have hbS := c.bS
 have s9 := m9.size
 have s0 := mod.size
 rw [zx, hp] at hr
 refine ⟨fun i hi => by rw [zp (by omega)]; exact ag i hi, by rw [zp (by omega)]; exact hu, by rw [zp (by omega)]; exact hn, upd_same _ _ _, hj, mod.trans m9 fun k o hk h => h.elim id fun h => h.elim (fun h => ⟨h.1, by have := h.2; omega⟩) fun h => by omega, lo0, by omega, mv', css, ?_, ?_, hp, hnn, htg⟩
 ·rw [zx, hp]
  refine ⟨m9.rangeAt (by omega) (fun i h1 h2 h => by
   rcases h with h | h
   ·have := h.2; omega
   ·omega) hr.1, ?_⟩
  refine (zx (cs := [mv']) (ds := rest)).2 ⟨zgw.2 c9, m9.rangeAt (by omega) (fun i h1 h2 h => by
   simp at h1
   rcases h with h | h
   ·have := h.2; omega
   ·omega) ((zx (cs := [mv]) (ds := rest)).1 hr.2).2⟩
 ·refine RepL.mod m9 (fun k hk => ⟨?_, fun o h => ?_, hk⟩) _ hrep
  ·rcases hk with hk | hk
   ·have hk : k < wS.heap.size := hk
    omega
   ·have := hk.2; omega
  ·rcases hk with hk | hk
   ·have hk : k < wS.heap.size := hk
    rcases h with h | h
    ·have := h.1; omega
    ·omega
   ·have := hk.1
    have := hk.2
    rcases h with h | h
    ·have := h.1; omega
    ·omega
theorem fg_reg (B : Base P N) (Fn : Fns P N) (hI : zct P N N.zaa N.zcs N.zbi N.zbu) (G : SMg P N M L) {wS w0 w w1 : World} {bT b off n pos idx lo q j : Nat} {Tt : TypeId} {ct : List Value} {t : Tr} {σ0 σ σ1 : Env} {vs : List Val} {rest : List Value} {vu s : Value} {u : List (Nat × List UInt8)} {loc : List Nat} {N' : Nat} {Q : Exit → Env → World → Prop}
  (c : FC P N m wS w0 bT ct t b off n σ0) (hT : HF P Tt idx pos) (hq : m.q0 ≤ q) (hblo : b < lo) (h : TgS m wS w0 b off n σ0 vs pos rest lo q vu u j σ w) (hj : j < u.length) (hk : (u[j]).1 < 4294967296) (hs : OctA wS s (u[j]).2) (hag : ∀ i, i ≠ q + 4 → σ1 i = σ i) (h5 : σ1 (q + 4) = .pointer (some ⟨w.heap.size, 0, none⟩)) (r1 : w1.rangeAt w.heap.size 0 [.int .u32 (u[j]).1, s]) (m1 : Mod w w1 zw)
  (hQ : ∀ σ' w', σ' (q + 2) = .int .i64 j → TgS m wS w0 b off n σ0 vs pos rest lo q vu u (j + 1) (upd σ' (q + 2) (.int .i64 ((j + 1 : Nat) : Int))) w' → Q .normal σ' w') : W P loc N' (lFg N m Tt idx q) Q σ1 w1 := by
 obtain ⟨ag, hu, hn, hjj, le, mod, lo0, lo1, mv, css, hr, hrep, hp, hnn, htg⟩ := h
 obtain ⟨hN, hNT⟩ := G.set
 have hb0 := c.b0
 have hbS := c.bS
 have s0 := mod.size
 have s1 := m1.size
 have mSw : Mod wS w zw := c.mS.fresh mod fun k o e => by have := e.1; omega
 have hcell : w.cell? ⟨b, pos, none⟩ = some mv := by
  rw [zx, hp] at hr
  exact hr.2 0 mv rfl
 have hth : w.there b pos 1 := by
  intro i hi
  obtain rfl : i = 0 := by omega
  have hth := mod.there c.b0 c.th (pos - off) (by omega)
  rw [show off + (pos - off) = pos + 0 by omega] at hth
  exact hth
 have k0 : ∀ {w' : World}, w'.rangeAt w.heap.size 0 [.int .u32 (u[j]).1, s] → w'.cell? ⟨w.heap.size, 0, none⟩ = some (.int .u32 (u[j]).1) ∧ w'.cell? ⟨w.heap.size, 1, none⟩ = some s := fun h => ⟨h 0 _ rfl, h 1 _ rfl⟩
 have call : ∀ {w2 : World} {Rt : Value → World → Prop}, Mod w w2 zw → (∀ v w9 mv', Mod w w9 (fun k o => (k = b ∧ o = pos) ∨ lo ≤ k) → w9.cell? ⟨b, pos, none⟩ = some mv' → zrd w9 (GS wS) lo mv' (zmj (u.take (j + 1))) → Rt v w9) → Call P N.zdm #[.pointer (some ⟨b, pos, none⟩), .int .u32 (u[j]).1, s] w2 Rt := by
  intro w2 Rt m2 hK
  have s2 := m2.size
  have htg2 : zrd w2 (GS wS) lo mv (zmj (u.take j)) := by
   rcases htg with h | ⟨mm, es, ck, e1, e2, e3, e4, e5, e6, e7, e8⟩
   ·exact .inl h
   ·refine .inr ⟨mm, es, ck, e1, e2, by omega, by rw [m2.block mm e3 fun _ h => h]; exact e4, e5, e6, e7.mod m2 fun k hk => ⟨?_, fun _ h => h, hk⟩, e8⟩
    have hk : k < wS.heap.size := hk
    omega
  refine (call_SetO B Fn hN hNT (G := GS wS) (c := lo) (q := pos) (vl := (u[j]).2) (by rw [m2.cell _ _ (by omega) fun h => h]; exact hcell) (m2.there (by omega) hth) htg2 hblo (by omega) (fun i hi => by have hi : i < wS.heap.size := hi; omega) (hs.tagS (mSw.trans' m2) fun k h => h) hk).mono ?_
  rintro v9 w9 ⟨mv', h1, _, h3, h4⟩
  exact hK v9 w9 mv' (m2.trans h4 fun k o _ h => h.elim False.elim id) h1 (by rw [tputs_snoc u hj]; exact h3)
 have fin : ∀ {σ9 : Env} {w9 : World} {mv' : Value}, (∀ k, σ9 k = σ1 k) → Mod w w9 (fun k o => (k = b ∧ o = pos) ∨ lo ≤ k) → w9.cell? ⟨b, pos, none⟩ = some mv' → zrd w9 (GS wS) lo mv' (zmj (u.take (j + 1))) → Q .normal σ9 w9 := by
  intro σ9 w9 mv' e m9 c9 t9
  refine hQ σ9 w9 (by rw [e, hag _ (by omega)]; exact hjj) ?_
  exact TgS.next c (fun i hi => by rw [e, hag _ (by omega)]; exact ag i hi) hq (by rw [e, hag _ (by omega)]; exact hu) (by rw [e, hag _ (by omega)]; exact hn) hj mod lo0 lo1 hr hrep hp hnn m9 c9 t9
 cases m with
 | mk =>
  have hq4 : 4 ≤ q := hq
  have f3 : σ1 3 = .pointer (some ⟨b, 0, none⟩) := by rw [hag 3 (by omega), ag 3 (by decide)]; exact c.sv
  obtain ⟨c0, c1⟩ := k0 r1
  unfold lFg
  refine zq fun τ => ?_
  simp +decide (disch := omega) only [bK, bE, Nat.reduceBeqDiff, BEq.rfl, Nat.reduceAdd, Nat.add_zero, Nat.zero_add, f3, h5, hT.run, hI.g0.run, hI.g1.run, B.uint32.run_load1 rfl, B.Lu8.run_load1 rfl, c0, c1]
  rw [zdu (Fn.PTags_Set hN).has]
  simp +decide only [bK, bE, Nat.reduceBeqDiff, BEq.rfl]
  refine call m1 fun v9 w9 mv' m9 c9 t9 => ?_
  refine zd (K := fun σ' w' => Q .normal σ' w') fun σ9 hσ => fin (fun k => ?_) m9 c9 t9
  rw [hσ k]
  simp +decide (disch := omega) only [zjm, envOf_var]
 | fill =>
  have hq3 : 3 ≤ q := hq
  obtain ⟨q', rfl⟩ : ∃ q', q = q' + 2 := ⟨q - 2, by omega⟩
  have f0 : σ1 0 = .pointer (some ⟨b, 0, none⟩) := by rw [hag 0 (by omega), ag 0 (by decide)]; exact c.sv
  have md : Mod w w1.drew zw := m1.trans' (Mod.drew _ _)
  show W P loc N' (.draw [⟨some 0, .move (V 0), 0, none, []⟩, ⟨some 1, .nilCheck (T 0), 0, none, [0]⟩, ⟨some 2, .fieldAddr Tt (T 1) idx, 0, none, [1]⟩, ⟨some 3, .fieldAddr N.zcs (V (q' + 2 + 4)) 0, 0, none, []⟩, ⟨some 4, .load N.zc (T 3), 0, none, [3]⟩, ⟨some 5, .fieldAddr N.zcs (V (q' + 2 + 4)) 1, 0, none, []⟩, ⟨some 6, .load N.za (T 5), 0, none, [5]⟩,
   ⟨some 7, .call ⟨.value (.func N.zdm), #[T 2, T 4, T 6], #[N.zcp, N.zc, N.za]⟩, N.t_, none, [2, 4, 6]⟩]) Q σ1 w1
  refine ztx B.mixed [true, true, true, true, true, true, true, false] rfl (zth (l0 := [⟨some 0, .move (V 0), 0, none, []⟩, ⟨some 1, .nilCheck (T 0), 0, none, [0]⟩, ⟨some 2, .fieldAddr Tt (T 1) idx, 0, none, [1]⟩, ⟨some 3, .fieldAddr N.zcs (V 6) 0, 0, none, []⟩, ⟨some 4, .load N.zc (T 3), 0, none, [3]⟩, ⟨some 5, .fieldAddr N.zcs (V 6) 1, 0, none, []⟩, ⟨some 6, .load N.za (T 5), 0, none, [5]⟩,
   ⟨some 7, .call ⟨.value (.func N.zdm), #[T 2, T 4, T 6], #[N.zcp, N.zc, N.za]⟩, N.t_, none, [2, 4, 6]⟩]) q' (by kernel_rfl) rfl) (fun w' => w'.rangeAt w.heap.size 0 [.int .u32 (u[j]).1, s]) (zh (Mod.drew _ _) r1) fun τ => ?_
  have e0 : zht σ1 τ 100 = .pointer (some ⟨b, 0, none⟩) := by rw [← f0]; exact envOf_var σ1 τ 0
  have e5 : zht σ1 τ (q' + 2 + 4 + 100) = .pointer (some ⟨w.heap.size, 0, none⟩) := by rw [← h5]; exact envOf_var σ1 τ (q' + 2 + 4)
  refine zn (.pointer (some ⟨b, 0, none⟩)) (fun w' _ => by rw [zbw, ev_tmp, e0]) rfl ?_
  refine zn (.pointer (some ⟨b, 0, none⟩)) (fun w' hw => rfl) rfl ?_
  refine zn (.pointer (some ⟨b, pos, none⟩)) (fun w' _ => zap (by simp +decide only [bE, BEq.rfl, Nat.zero_add, ev_tmp, hT.run])) rfl ?_
  refine zn (.pointer (some ⟨w.heap.size, 0, none⟩)) (fun w' hw => zap (by simp +decide (disch := omega) only [ev_tmp, zjm, e5, hI.g0.run, Nat.zero_add])) rfl ?_
  refine zn (.int .u32 (u[j]).1) (fun w' hw => zap (by simp +decide only [bE, BEq.rfl, ev_tmp, B.uint32.run_load1 rfl, (k0 hw).1, ldc_some])) rfl ?_
  refine zn (.pointer (some ⟨w.heap.size, 1, none⟩)) (fun w' hw => zap (by simp +decide (disch := omega) only [ev_tmp, zjm, e5, hI.g1.run, Nat.zero_add])) rfl ?_
  refine zn s (fun w' hw => zap (by simp +decide only [bE, BEq.rfl, ev_tmp, B.Lu8.run_load1 rfl, (k0 hw).2, ldc_some])) rfl ?_
  simp only []
  show anyC P _ _ _ _ [7].length [7] _ _
  refine zgr _ _ _ (by kernel_rfl) (by decide) (fun k hk => by simp at hk; subst hk; kernel_rfl) ?_
  simp only [List.map, List.getD_cons_zero, List.getD_cons_succ, zgl]
  rw [zdu (Fn.PTags_Set hN).has]
  simp +decide only [bK, bE, Nat.reduceBeqDiff, BEq.rfl]
  refine call md fun v9 w9 mv' m9 c9 t9 => ?_
  refine zd (K := fun σ' w' => Q .normal σ' w') fun σ9 hσ => fin (fun k => ?_) m9 c9 t9
  rw [hσ k]
  simp +decide (disch := omega) only [zjm, envOf_var]
end
section
variable (P : Program) (N : Nums) (L : zem) (mf : TypeId → FuncId) (m : FM)
def FdsF (fs : Fds) : Prop := ∀ {wS w0 w : World} {bT b off n pos idx i q k : Nat} {Tt : TypeId} {ct : List Value} {t : Tr} {σ0 σ : Env} {vs : List Val} {rest : List Value} {loc : List Nat} {N' : Nat} {Q : Exit → Env → World → Prop} {tl : List C},
 zhx loc N' → FC P N m wS w0 bT ct t b off n σ0 → bdT t → FSt m wS w0 b off n σ0 vs pos (fs.zero ++ rest) σ w → fs.hf P Tt idx pos → m.q0 ≤ q →
 (∀ σ' w', FSt m wS w0 b off n σ0 (vs ++ fs.ofT i t) (pos + fs.sz) rest σ' w' → WL P loc N' tl Q σ' w') → WL P loc N' (fs.fgen N L mf m Tt idx i q k ++ tl) Q σ w
def Fds.fok : Fds → Prop
 | .cons _ ty r => ty.fok P N L mf m ∧ r.fok
 | _ => True
end
section
variable {P : Program} {N : Nums} {M : zax} {L : zem} {mf : TypeId → FuncId} {m : FM}
theorem fdsF_tags (B : Base P N) (Fn : Fns P N) (S : SpT P N M) (hI : zct P N N.zaa N.zcs N.zbi N.zbu) (G : SMg P N M L) : FdsF P N L mf m .tags := by
 intro wS w0 w bT b off n pos idx i q kk Tt ct t σ0 σ vs rest loc N' Q tl hlo c hb h hT hq hQ
 have hT : HF P Tt idx pos := hT
 obtain ⟨rT, mS⟩ := h.trw c
 obtain ⟨fs, hti⟩ := hI.tu
 obtain ⟨tvs, tvl, vu, hct, _, _, hU⟩ := c.rep.out
 have hwS := c.mS.size
 have hb0 := c.b0
 have f1 : σ m.tv = .pointer (some ⟨bT, 0, none⟩) := by rw [h.ag m.tv (by cases m <;> decide)]; exact c.tv
 have htq : m.tv < q := by
  have : m.tv < m.q0 := by cases m <;> decide
  omega
 have c4 : w.cell? ⟨bT, 4, none⟩ = some vu := rT 4 _ (by rw [hct]; rfl)
 have hul : t.u.length ≤ 1048576 := ((zgp _).1 hb).2.2.2.1
 have hln : ∀ {w : World}, (Builtin.len_ #[N.zbu] N.ze #[vu]).run P w = .ok (.int .i64 t.u.length) w := fun {w} => by
  rcases hU with ⟨ad, c, e, e2⟩ | ⟨b, o, c, css, e, _⟩
  ·rw [e, e2]; exact hI.lg.run_len
  ·rw [e]; exact hI.lg.run_len
 rw [Fds.fgen]
 refine WL_one ?_
 unfold cFtag
 refine zf fun K hK => zq fun τ => ?_
 simp +decide (disch := omega) only [bK, bE, BEq.rfl, Nat.zero_add, f1, hI.h4.run, hI.lg.run_load1 rfl, c4, hln]
 refine hK _ _ (zd fun σ1 hσ => ?_)
 have a1 : ∀ j, j < q → σ1 j = σ j := fun j hj => by
  rw [hσ j]
  have e1 : (j + 100 == q + 100) = false := beq_eq_false_iff_ne.2 (by omega)
  have e2 : (j + 100 == q + 1 + 100) = false := beq_eq_false_iff_ne.2 (by omega)
  have e3 : (j + 100 == q + 2 + 100) = false := beq_eq_false_iff_ne.2 (by omega)
  simp +decide (disch := omega) only [bE, Nat.reduceBeqDiff, e1, e2, e3]
 have aq : σ1 q = vu := by
  rw [hσ q]
  have e2 : (q + 100 == q + 1 + 100) = false := beq_eq_false_iff_ne.2 (by omega)
  have e3 : (q + 100 == q + 2 + 100) = false := beq_eq_false_iff_ne.2 (by omega)
  simp +decide (disch := omega) only [bE, BEq.rfl, e2, e3]
 have an : σ1 (q + 1) = .int .i64 t.u.length := by
  rw [hσ (q + 1)]
  have e3 : (q + 1 + 100 == q + 2 + 100) = false := beq_eq_false_iff_ne.2 (by omega)
  simp +decide (disch := omega) only [bE, BEq.rfl, e3]
 have aj : σ1 (q + 2) = .int .i64 ((0 : Nat) : Int) := by
  rw [hσ (q + 2)]
  simp +decide (disch := omega) only [bE, BEq.rfl]
  rfl
 clear hσ hK K
 have hs := h.mod.size
 obtain ⟨ag, mod, css, hr, hrep, hp, hn⟩ := h
 refine zgs hlo (L := t.u.length) (by omega) (fun j σ w' => TgS m wS w0 b off n σ0 vs pos rest w.heap.size q vu t.u j σ w') (fun j σ w h => ⟨h.hj, h.hn, h.le⟩) (fun j σ w bb h => h.agr hq fun i hi => zp (by omega)) ?_ (fun σ' w' h => hQ _ _ h.done) (fun j σ' w' hj h => ?_)
 ·refine ⟨fun j hj => by rw [a1 j (by omega)]; exact ag j hj, aq, an, aj, Nat.zero_le _, mod, hs, Nat.le_refl _, .map none, css, hr, hrep, hp, ?_, .inl ⟨rfl, rfl⟩⟩
  rw [List.length_append] at hn
  exact hn
 ·have mSw' : Mod wS w' zw := c.mS.fresh h.mod fun k o e => by have := e.1; have := c.bS; omega
  obtain ⟨bb, oo, cc, s, hvb, hs1, hr1⟩ := hU.get (List.getElem?_eq_getElem hj)
  have hr' := zh mSw' hr1
  have hix := fun {w : World} => zbf (P := P) (w := w) hI.lg hti (bl := bb) (o := oo) (n := t.u.length) (c := cc) (i := j) (k := .i64) hj
  have hld := hti.run_load (w := w') (b := bb) (o := oo + j * 2) hr' rfl (fun h => by cases h)
  have hlv : ldv (.struct fs) [.int .u32 (t.u[j]).1, s] = .agg [.int .u32 (t.u[j]).1, s].toArray := rfl
  rw [hlv] at hld
  obtain ⟨wa, w5, hal, hst, _, m5, s5, r5, _⟩ := zgo (cs := [.int .u32 (t.u[j]).1, s]) hti (by decide) rfl rfl (by
   intro c hc; simp at hc; rcases hc with rfl | rfl
   ·rfl
   ·exact hs1.one) w'
  have hu := h.hu
  have hjj := h.hj
  refine zf fun K hK => zq fun τ => ?_
  simp +decide (disch := omega) only [bK, bE, Nat.reduceBeqDiff, BEq.rfl, hu, hjj]
  rw [hvb]
  simp +decide (disch := omega) only [bK, hix, hld, hal, hst]
  refine hK _ _ (zd fun σ5 hσ => ?_)
  have b1 : ∀ i, i ≠ q + 4 → σ5 i = σ' i := fun i hi => by
   rw [hσ i]
   have e1 : (i + 100 == q + 4 + 100) = false := beq_eq_false_iff_ne.2 (by omega)
   simp +decide (disch := omega) only [bE, Nat.reduceBeqDiff, e1]
  have b5 : σ5 (q + 4) = .pointer (some ⟨w'.heap.size, 0, none⟩) := by
   rw [hσ (q + 4)]
   simp +decide (disch := omega) only [bE, BEq.rfl]
  clear hσ hK K
  exact fg_reg B Fn hI G c hT hq (by omega) h hj (((zgp _).1 hb).2.2.2.2.1 _ (List.getElem_mem hj)).1 hs1 b1 b5 r5 m5 fun σ6 w6 g1 g2 => ⟨g1, g2⟩
theorem tyF_of (B : Base P N) (S : SpT P N M) (hI : zct P N N.zaa N.zcs N.zbi N.zbu) (F : TrF P N) (G : SMg P N M L) : ∀ (ty : Ty), ty.fok P N L mf m → TyF P N L mf m ty
 | .pr k d, h => tyF_pr B S hI F G h
 | .txt k, h => tyF_txt B S hI F G h
 | .tv k, h => tyF_tv B S hI F G h
 | .arr st nul e, h => tyF_arr B S hI F G h
 | .row .., h => h.elim
theorem fdsF_nil : FdsF P N L mf m .nil := by
 intro wS w0 w bT b off n pos idx i q kk Tt ct t σ0 σ vs rest loc N' Q tl hlo c hb h hT hq hQ
 refine hQ σ w ?_
 rw [show Fds.ofT .nil i t = [] from rfl, List.append_nil]
 exact h
theorem fdsF_cons {g : Gd} {ty : Ty} {r : Fds} (h1 : TyF P N L mf m ty) (h2 : FdsF P N L mf m r) : FdsF P N L mf m (.cons g ty r) := by
 intro wS w0 w bT b off n pos idx i q kk Tt ct t σ0 σ vs rest loc N' Q tl hlo c hb h hT hq hQ
 rw [Fds.fgen, List.cons_append]
 have h' : FSt m wS w0 b off n σ0 vs pos (ty.zero ++ (r.zero ++ rest)) σ w := by rw [← List.append_assoc]; exact h
 refine WL_one (h1 hlo c hb h' hT.1 hq fun σ' w' h3 => ?_)
 refine h2 hlo c hb h3 hT.2 (by omega) fun σ3 w3 h4 => hQ σ3 w3 ?_
 rw [show Fds.ofT (.cons g ty r) i t = ty.ofT (atT t i) :: r.ofT (i + 1) t from rfl, show (Fds.cons g ty r).sz = ty.sz + r.sz from rfl, ← Nat.add_assoc]
 rw [List.append_assoc] at h4
 exact h4
theorem zxf (B : Base P N) (Fn : Fns P N) (S : SpT P N M) (hI : zct P N N.zaa N.zcs N.zbi N.zbu) (F : TrF P N) (G : SMg P N M L) : ∀ (fs : Fds), fs.fok P N L mf m → FdsF P N L mf m fs
 | .nil, _ => fdsF_nil
 | .tags, _ => fdsF_tags B Fn S hI G
 | .cons g ty r, ho => fdsF_cons (tyF_of B S hI F G ty ho.1) (zxf B Fn S hI F G r ho.2)
theorem mkRow_of (B : Base P N) (Fn : Fns P N) (S : SpT P N M) (hI : zct P N N.zaa N.zcs N.zbi N.zbu) (F : TrF P N) (G : SMg P N M L) {f T' by' : Nat} {fs : Fds} {fds : Array Field} (ho : fs.fok P N L mf .mk) (hF : FOk P f 1 (fs.mkC N L mf T') [.cell 2 T']) (ht : TI P T' (.struct fds) fs.sz by' (.agg fs.zero.toArray)) (hhf : fs.hf P T' 0 0) (hz1 : ∀ c ∈ fs.zero, c.oneCell' = true) : MkRow P f fs := by
 intro wS w t ct mS hr hb
 have hzl : fs.zero.length = fs.sz := Fds.zero_length fs
 refine hF.call rfl fun loc N' hlo => ?_
 unfold Fds.mkC
 simp only [List.cons_append, List.nil_append]
 refine zia (by simp) ?_
 obtain ⟨w1, hw1⟩ : ∃ w1, w1 = w.alloc (.cells (Value.cells (.agg ct.toArray)) N.zaa) := ⟨_, rfl⟩
 have m1 : Mod w w1 zw := by rw [hw1]; exact Mod.alloc _ _ _
 have s1 : w1.heap.size = w.heap.size + 1 := by rw [hw1]; exact zae _ _
 have r1 : w1.rangeAt w.heap.size 0 ct := by rw [hw1]; exact zu w _ _ _
 obtain ⟨w2, hw2⟩ : ∃ w2, w2 = w1.alloc (.cells (Value.cells (.agg fs.zero.toArray)) T') := ⟨_, rfl⟩
 have hal2 := ht.run_alloc (w := w1) (.tuple #[])
 have m2 : Mod w1 w2 zw := by rw [hw2]; exact Mod.alloc _ _ _
 have s2 : w2.heap.size = w1.heap.size + 1 := by rw [hw2]; exact zae _ _
 have r2 : w2.rangeAt w1.heap.size 0 fs.zero := by rw [hw2]; exact zu w1 fs.zero.toArray _ _
 have t2 : w2.there w1.heap.size 0 fs.sz := by rw [hw2, ← hzl]; exact zbe w1 fs.zero.toArray T'
 rw [← hw2] at hal2
 refine zat fun K hK => zq fun τ => ?_
 simp +decide only [bK, bE, Nat.zero_add]
 rw [← hw1]
 simp +decide only [bK, hal2]
 refine hK _ _ (zd fun σ1 hσ => ?_)
 have f1 := hσ 1
 have f2 := hσ 2
 simp +decide only [bE, Nat.reduceBeqDiff, BEq.rfl, Nat.reduceAdd] at f1 f2
 clear hσ hK K hal2 hw1 hw2
 obtain ⟨w3, hw3⟩ : ∃ w3, w3 = w2.alloc (.cells (Value.cells (.agg fs.zero.toArray)) T') := ⟨_, rfl⟩
 have hal3 := ht.run_alloc (w := w2) (.tuple #[])
 have m3 : Mod w2 w3 zw := by rw [hw3]; exact Mod.alloc _ _ _
 have s3 : w3.heap.size = w2.heap.size + 1 := by rw [hw3]; exact zae _ _
 have r3 : w3.rangeAt w2.heap.size 0 fs.zero := by rw [hw3]; exact zu w2 fs.zero.toArray _ _
 have t3 : w3.there w2.heap.size 0 fs.sz := by rw [hw3, ← hzl]; exact zbe w2 fs.zero.toArray T'
 rw [← hw3] at hal3
 refine zat fun K hK => zq fun τ => ?_
 simp +decide only [bK, hal3]
 refine hK _ _ (zd fun σ2 hσ => ?_)
 have g1 := hσ 1
 have g2 := hσ 2
 have g3 := hσ 3
 simp +decide only [bE, Nat.reduceBeqDiff, BEq.rfl, Nat.reduceAdd, f1, f2] at g1 g2 g3
 clear hσ hK K hal3 hw3
 have m03 := (m1.trans' m2).trans' m3
 have hSw := mS.size
 have c : FC P N .mk wS w3 w.heap.size ct t w2.heap.size 0 fs.sz σ2 := ⟨g1, g3, zh (m2.trans' m3) r1, by omega, by omega, hr, mS.trans' m03, by omega, by omega, t3⟩
 have h0 : FSt .mk wS w3 w2.heap.size 0 fs.sz σ2 [] 0 (fs.zero ++ []) σ2 w3 := ⟨Ag.refl _ _, .refl _ _, [], by simpa using r3, rfl, rfl, by simp [hzl]⟩
 refine zxf B Fn S hI F G fs ho hlo c hb h0 hhf (by decide) fun σ4 w4 h4 => ?_
 obtain ⟨ag, mod, css, hr4, hrep, _, hn4⟩ := h4
 rw [List.append_nil] at hr4
 rw [List.nil_append] at hrep
 have hcl : css.flatten.length = fs.sz := by simpa using hn4
 have hok := Fds.ofOk fs 0 hb
 have hones := Fds.rep_one fs _ hok.1 hrep
 have s4 := mod.size
 have hld := ht.run_load (w := w4) (b := w2.heap.size) (o := 0) hr4 hcl (fun h => by cases h)
 have hlv : ldv (.struct fds) css.flatten = .agg css.flatten.toArray := rfl
 rw [hlv] at hld
 have m34 : Mod w3 w4 (blk w2.heap.size) := mod.mono fun _ _ _ h => h.1
 have t2' : w4.there w1.heap.size 0 fs.sz := m34.there (by omega) (m3.there (by omega) t2)
 have r2' : w4.rangeAt w1.heap.size 0 fs.zero := m34.rangeAt (by omega) (fun _ _ _ e => by have : w1.heap.size = w2.heap.size := e; omega) (zh m3 r2)
 have hst := ht.run_store (w := w4) (b := w1.heap.size) (o := 0) (v := .agg css.flatten.toArray) (cs := css.flatten) rfl hcl t2' hones
 obtain ⟨w5, hw5⟩ : ∃ w5, w5 = w4.setCells w1.heap.size 0 css.flatten := ⟨_, rfl⟩
 have m5 : Mod w4 w5 (blk w1.heap.size) := by rw [hw5]; exact Mod.setCells _ 0 _ fun _ _ _ _ => rfl
 have s5 : w5.heap.size = w4.heap.size := by rw [hw5]; exact zcn _ _ _
 have r5 : w5.rangeAt w1.heap.size 0 css.flatten := by
  have := zar css.flatten 0 w4 _ r2' (by omega)
  rw [List.drop_of_length_le (by omega), List.append_nil] at this
  rw [hw5]; exact this
 rw [← hw5] at hst
 clear hw5
 have k2 : σ4 2 = .pointer (some ⟨w1.heap.size, 0, none⟩) := by rw [ag 2 (by decide)]; exact g2
 have k3 : σ4 3 = .pointer (some ⟨w2.heap.size, 0, none⟩) := by rw [ag 3 (by decide)]; exact g3
 refine zat fun K hK => zq fun τ => ?_
 simp +decide only [bK, bE, Nat.reduceBeqDiff, BEq.rfl, Nat.reduceAdd, k2, k3, hld, hst]
 refine hK _ _ (zd fun σ5 hσ => zat fun K2 hK2 => zbk ⟨.inr rfl, .agg css.flatten.toArray, ?_, css.flatten, rfl, ⟨css, rfl, ?_⟩, hcl, ?_⟩)
 ·have q := hσ 2
  simp +decide only [bE, Nat.reduceBeqDiff, Nat.reduceAdd, k2] at q
  refine ⟨_, q, ?_⟩
  have hl5 := ht.run_load (w := w5) (b := w1.heap.size) (o := 0) r5 hcl (fun h => by cases h)
  rw [hlv] at hl5
  simpa [Instr.loadAt, Instr.sureAddr, Sem.run_bind] using hl5
 ·refine RepL.mod m5 (fun k hk => ⟨?_, fun o e => ?_, hk.imp id fun h => ⟨by have := h.1; omega, by have := h.2; omega⟩⟩) _ hrep
  ·rcases hk with hk | hk
   ·have hk : k < wS.heap.size := hk
    omega
   ·exact hk.2
  ·have e : k = w1.heap.size := e
   rcases hk with hk | hk
   ·have hk : k < wS.heap.size := hk
    omega
   ·have := hk.1; omega
 ·exact (m03.fresh m34 fun k o e => by have : k = w2.heap.size := e; omega).fresh m5 fun k o e => by have : k = w1.heap.size := e; omega
theorem zvj (B : Base P N) (Fn : Fns P N) (S : SpT P N M) (hI : zct P N N.zaa N.zcs N.zbi N.zbu) (F : TrF P N) (G : SMg P N M L) {f : Nat} {g : Msg} (ho : g.fs.fok P N L mf .fill) (hF : FOk P f 2 (g.fillC N L mf) []) (hhf : g.fs.hf P g.tT 1 1) {wS w : World} {t : Tr} {ct : List Value} {b : Nat} (mS : Mod wS w zw) (hr : RepA wS t ct) (hb : bdT t)
  (hbS : wS.heap.size ≤ b) (hb0 : b < w.heap.size) (hth : w.there b 1 g.fs.sz) (hz : w.rangeAt b 1 g.fs.zero) :
  Call P f #[.pointer (some ⟨b, 0, none⟩), .agg ct.toArray] w fun _ w' => ∃ css, RepL w' (GV wS w w') (g.fs.ofT 0 t) css ∧ w'.rangeAt b 1 css.flatten ∧ Mod w w' (fun k o => k = b ∧ 1 ≤ o) := by
 have hzl : g.fs.zero.length = g.fs.sz := Fds.zero_length g.fs
 refine hF.call rfl fun loc N' hlo => ?_
 unfold Msg.fillC
 refine zia (by simp) ?_
 obtain ⟨w1, hw1⟩ : ∃ w1, w1 = w.alloc (.cells (Value.cells (.agg ct.toArray)) N.zaa) := ⟨_, rfl⟩
 have m1 : Mod w w1 zw := by rw [hw1]; exact Mod.alloc _ _ _
 have s1 : w1.heap.size = w.heap.size + 1 := by rw [hw1]; exact zae _ _
 have r1 : w1.rangeAt w.heap.size 0 ct := by rw [hw1]; exact zu w _ _ _
 refine zat fun K hK => zq fun τ => ?_
 simp +decide only [bK, bE, Nat.reduceAdd]
 rw [← hw1]
 refine hK _ _ (zd fun σ1 hσ => ?_)
 have f0 := hσ 0
 have f2 := hσ 2
 simp +decide only [bE, Nat.reduceBeqDiff, BEq.rfl, Nat.reduceAdd, Nat.zero_add, zbp] at f0 f2
 clear hσ hK K hw1
 have c : FC P N .fill wS w1 w.heap.size ct t b 1 g.fs.sz σ1 := ⟨f2, f0, r1, by omega, by omega, hr, mS.trans' m1, hbS, by omega, m1.there hb0 hth⟩
 have h0 : FSt .fill wS w1 b 1 g.fs.sz σ1 [] 1 (g.fs.zero ++ []) σ1 w1 := ⟨Ag.refl _ _, .refl _ _, [], by simpa using zh m1 hz, rfl, rfl, by simp [hzl]⟩
 have key := zxf B Fn S hI F G g.fs ho (tl := []) (Q := retQ P [] fun _ w' => ∃ css, RepL w' (GV wS w w') (g.fs.ofT 0 t) css ∧ w'.rangeAt b 1 css.flatten ∧ Mod w w' (fun k o => k = b ∧ 1 ≤ o)) (idx := 1) (i := 0) (q := 3) (k := 0) hlo c hb h0 hhf (by decide) fun σ4 w4 h4 => ?_
 ·rwa [List.append_nil] at key
 obtain ⟨ag, mod, css, hr4, hrep, _, hn4⟩ := h4
 rw [List.append_nil] at hr4
 rw [List.nil_append] at hrep
 refine ⟨.inl rfl, .tuple #[], rfl, css, RepL.mono (fun k hk => hk.imp id fun h => ⟨by have := h.1; omega, h.2⟩) _ hrep, hr4, m1.trans mod fun k o _ h => h.elim False.elim id⟩
end
def Fds.hfBs (P : Program) (Tt : TypeId) : Fds → Nat → Nat → Bool
 | .nil, _, _ => true
 | .tags, idx, off => hfB P Tt idx off
 | .cons _ t r, idx, off => hfB P Tt idx off && r.hfBs P Tt (idx + 1) (off + t.sz)
theorem Fds.hfBs_ok {P : Program} {Tt : TypeId} : ∀ {fs : Fds} {idx off : Nat}, fs.hfBs P Tt idx off = true → fs.hf P Tt idx off
 | .nil, _, _, _ => trivial
 | .tags, _, _, h => zuy h
 | .cons _ t r, idx, off, h => by
  simp only [Fds.hfBs, Bool.and_eq_true] at h
  exact ⟨zuy h.1, Fds.hfBs_ok h.2⟩
structure MkN where
 newP : Nat := 0
 setV : Nat := 0
 maxV : Nat := 0
 maxI : Nat := 0
 fillI : Nat := 0
 app : Nat := 0
 mkI : Nat := 0
section
variable (N : Nums)
def c_doorM (tT pT setV fill app : Nat) : C := seqs [.ops [⟨some 102, .box N.zaa (V 1), 0, none, []⟩, ⟨some 103, .assign (.const (.slice none 0 0)), 0, none, []⟩],
 .ops [⟨some 0, .build tT #[], 0, none, []⟩, ⟨some 1, .box tT (T 0), 0, none, []⟩, ⟨some 104, .assign (T 1), 0, none, []⟩],
 .ops [⟨some 0, .move (V 4), 0, none, []⟩, ⟨some 1, .move (V 0), 0, none, []⟩, ⟨some 2, .convert N.ze N.zbc (T 1), 0, none, []⟩, ⟨some 3, .call ⟨.value (.func setV), #[T 0, T 2], #[pT, N.zbc]⟩, N.t_, none, []⟩],
 .ops [⟨some 0, .move (V 4), 0, none, []⟩, ⟨some 1, .load N.zaa (V 2), 0, none, []⟩, ⟨some 2, .call ⟨.value (.func fill), #[T 0, T 1], #[pT, N.zaa]⟩, N.t_, none, []⟩],
 .ops [⟨some 0, .move (V 4), 0, none, []⟩, ⟨some 1, .call ⟨.value (.func app), #[T 0, .const (.slice none 0 0)], #[pT, N.za]⟩, N.za, none, []⟩, ⟨some 103, .assign (T 1), 0, none, []⟩], .ret]
end
structure MkD (P : Program) (N : Nums) (M : zax) (A : zcr) (L : zem) (mf : TypeId → FuncId) (m : Msg) (d : MkN) : Prop where
 ti : ∃ pl by', SF P m.tT pl by' (.int .i16 0 :: m.fs.zero)
 z1 : ∀ c ∈ m.fs.zero, c.oneCell' = true
 hf : m.fs.hf P m.tT 1 1
 v0 : HF P m.tT 0 0
 plain : m.fs.plain N
 dflt : FOk P m.dflt 1 (seqs (m.fs.dfl N m.tT 1)) []
 newP : FOk P d.newP 0 (c_new N m.tT m.dflt) [.var 0]
 setV : FOk P d.setV 2 (c_set N m.tT) []
 fill : FOk P d.fillI 2 (m.fillC N L mf) []
 fok : m.fs.fok P N L mf .fill
 app : FOk P d.app 2 (m.appC N A) [.var 2]
 aok : m.fs.aok P N A
 door : FOk P d.mkI 2 (c_doorM N m.tT m.pT d.setV d.fillI d.app) [.var 3]
section
variable {P : Program} {N : Nums} {M : zax} {A : zcr} {L : zem} {mf : TypeId → FuncId}
theorem MkD.tiS {m : Msg} {d : MkN} (D : MkD P N M A L mf m d) : ∃ fs by', TI P m.tT (.struct fs) (m.fs.sz + 1) by' (.agg (.int .i16 0 :: m.fs.zero).toArray) := by
 obtain ⟨pl, by', h⟩ := D.ti
 obtain ⟨fs, h, _⟩ := h.out
 refine ⟨fs, by', ?_⟩
 have e : (Value.int .i16 0 :: m.fs.zero).length = m.fs.sz + 1 := by rw [List.length_cons, Fds.zero_length]
 rw [e] at h
 exact h
theorem msg_dfltD (B : Base P N) {m : Msg} {d : MkN} (hm : MkD P N M A L mf m d) {w : World} {Mb : Nat} (ht : w.there Mb 0 (m.fs.sz + 1)) (hM : Mb < w.heap.size) {zs : List Value} (hz : w.rangeAt Mb 1 zs) (hp : m.fs.pre zs) :
  Call P m.dflt #[.pointer (some ⟨Mb, 0, none⟩)] w fun _ w' => Mod w w' (rng Mb 1 m.fs.sz) ∧ w'.rangeAt Mb 1 m.fs.ini := by
 refine hm.dflt.call rfl fun loc N' hlo => ?_
 have fin : ∀ (σ' : Env) w', Mod w w' (rng Mb (0 + 1) m.fs.sz) → w'.rangeAt Mb (0 + 1) m.fs.ini → retQ P [] (fun _ w' => Mod w w' (rng Mb 1 m.fs.sz) ∧ w'.rangeAt Mb 1 m.fs.ini) .normal σ' w' :=
  fun σ' w' hm hr => ⟨.inl rfl, .tuple #[], rfl, hm, hr⟩
 have key := WL_dfl B (loc := loc) (N' := N') (Q := retQ P [] (fun _ w' => Mod w w' (rng Mb 1 m.fs.sz) ∧ w'.rangeAt Mb 1 m.fs.ini)) (Tt := m.tT) (b := Mb) (o := 0) m.fs 1 (zeb #[.pointer (some ⟨Mb, 0, none⟩)]) 1 1 w _ (by decide) (zke _) hm.plain hm.hf
  (fun j hj => by have := ht (1 + j) (by omega); simpa [Nat.add_assoc] using this) hM hz hp fin
 change WL P loc N' (m.fs.dfl N m.tT 1) _ _ _ at key
 cases hl : m.fs.dfl N m.tT 1 with
 | nil => rw [hl] at key; exact zbx key
 | cons x l => rw [hl] at key; exact zia (by simp) key
theorem call_newD (B : Base P N) {m : Msg} {d : MkN} (D : MkD P N M A L mf m d) (w : World) :
  Call P d.newP #[] w fun v w' => v = .pointer (some ⟨w.heap.size, 0, none⟩) ∧ Mod w w' zw ∧ w'.there w.heap.size 0 (m.fs.sz + 1) ∧ (∃ x, w'.cell? ⟨w.heap.size, 0, none⟩ = some x) ∧ w'.rangeAt w.heap.size 1 m.fs.ini ∧ w.heap.size < w'.heap.size := by
 obtain ⟨fs, by', hT⟩ := D.tiS
 refine D.newP.call rfl fun loc N' hlo => ?_
 unfold c_new
 refine zia (by simp) ?_
 refine zat fun K hK => zcy (hK _ _ ?_)
 clear hK K
 obtain ⟨w1, hw1⟩ : ∃ w1, w1 = w.alloc (.cells (Value.cells (.agg (.int .i16 0 :: m.fs.zero).toArray)) m.tT) := ⟨_, rfl⟩
 have m1 : Mod w w1 zw := by rw [hw1]; exact Mod.alloc _ _ _
 have s1 : w1.heap.size = w.heap.size + 1 := by rw [hw1]; exact zae _ _
 have r1 : w1.rangeAt w.heap.size 0 ([.int .i16 0] ++ m.fs.zero) := by rw [hw1]; exact zu w (.int .i16 0 :: m.fs.zero).toArray m.tT (0, 0)
 have t1 : w1.there w.heap.size 0 (m.fs.sz + 1) := by
  have := zbe w (.int .i16 0 :: m.fs.zero).toArray m.tT
  have e : (Value.int .i16 0 :: m.fs.zero).toArray.size = m.fs.sz + 1 := by simp [Fds.zero_length]
  rw [e] at this
  rw [hw1]; exact this
 refine zat fun K hK => zq fun τ => ?_
 have hal := hT.run_alloc (w := w) (.tuple #[])
 rw [← hw1] at hal
 simp +decide only [bK, hal]
 refine hK _ _ (zd fun σ1 hσ => ?_)
 have g1 := hσ 1
 simp +decide only [bE, BEq.rfl, Nat.reduceAdd] at g1
 clear hσ hK K hal hw1
 have q1 := zx.1 r1
 refine zat fun K hK => zq fun τ => ?_
 simp +decide only [bK]
 rw [zbb D.dflt.has]
 simp +decide only [bK, bE, Nat.reduceAdd, g1]
 refine (msg_dfltD B D t1 (by omega) (by simpa using q1.2) (zki _ D.plain)).mono ?_
 rintro _ w2 ⟨m2, r2⟩
 refine zd (K := fun σ' w' => zgt K _ .normal σ' w') fun σ2 hσ => hK _ _ ?_
 have g2 := hσ 1
 simp +decide only [bE, Nat.reduceBeqDiff, Nat.reduceAdd, g1] at g2
 clear hσ hK K
 refine zat fun K hK => zq fun τ => ?_
 simp +decide only [bK, bE, Nat.reduceAdd, g2]
 refine hK _ _ (zd fun σ3 hσ => zat fun K2 hK2 => zbk ⟨.inr rfl, _, rfl, ?_⟩)
 have g3 := hσ 0
 simp +decide only [bE, BEq.rfl, Nat.zero_add] at g3
 have s2 := m2.size
 refine ⟨g3, m1.fresh m2 fun k o e => by have := e.1; omega, m2.there (by omega) t1, ⟨.int .i16 0, ?_⟩, r2, by omega⟩
 rw [m2.cell _ _ (by omega) (fun e => by have := e.2.1; omega)]
 exact q1.1 0 _ rfl
theorem call_maxID (B : Base P N) {m : Msg} {d : MkN} (D : MkD P N M A L mf m d) {f mx k : Nat} (hmf : FOk P mx 1 (c_max k) [.var 1]) (hf : FOk P f 0 (c_maxI N m.pT d.newP mx) [.var 0]) (w : World) :
  Call P f #[] w fun v w' => v = .int .i64 (IntKind.i64.wrap k) ∧ Mod w w' zw := by
 refine hf.call rfl fun loc N' hlo => ?_
 unfold c_maxI
 refine zia (by simp) ?_
 refine zat fun K hK => zcy (hK _ _ ?_)
 clear hK K
 refine zat fun K hK => zq fun τ => ?_
 simp +decide only [bK, bE, BEq.rfl]
 rw [zjt D.newP.has]
 refine (call_newD B D w).mono ?_
 rintro v w1 ⟨rfl, m1, _⟩
 have hcv := fun {w : World} => zay (P := P) (w := w) (k' := .i16) B.int16 B.int (n := k) ⟨_, rfl⟩
 rw [zbb hmf.has]
 simp +decide only [bK, bE, BEq.rfl]
 refine (call_max hmf w1 _).mono ?_
 rintro _ _ ⟨rfl, rfl⟩
 simp +decide only [bK, hcv]
 refine hK _ _ (zd fun σ3 hσ => zat fun K2 hK2 => zbk ⟨.inr rfl, _, rfl, ?_⟩)
 have g2 := hσ 0
 simp +decide only [bE, BEq.rfl, Nat.zero_add] at g2
 exact ⟨g2, m1⟩
theorem call_setD (B : Base P N) {m : Msg} {d : MkN} (D : MkD P N M A L mf m d) {w : World} {b : Nat} (x : Int) (ht : w.there b 0 (m.fs.sz + 1)) {u : Value} (hu : w.cell? ⟨b, 0, none⟩ = some u) :
  Call P d.setV #[.pointer (some ⟨b, 0, none⟩), .int .i16 x] w fun _ w' => Mod w w' (rng b 0 1) ∧ w'.cell? ⟨b, 0, none⟩ = some (.int .i16 x) ∧ w'.heap.size = w.heap.size := by
 refine D.setV.call rfl fun loc N' hlo => ?_
 unfold c_set
 refine zq fun τ => ?_
 have hst := B.int16.run_store1 (w := w) (b := b) (o := 0) (v := .int .i16 x) rfl (fun j hj => ht j (by omega))
 simp +decide only [bK, bE, Nat.reduceBeqDiff, BEq.rfl, Nat.reduceAdd, Nat.zero_add]
 rw [zaw rfl]
 simp +decide only [bK, bE, Nat.reduceBeqDiff, BEq.rfl, Nat.add_zero, D.v0.run, hst]
 exact ⟨.inl rfl, .tuple #[], rfl, Mod.setCell fun _ => ⟨rfl, Nat.le_refl _, by omega⟩, World.cell?_setCell_same _ _ _ hu, by simp [World.setCell]⟩
theorem call_doorM (B : Base P N) (F : Fns P N) (S : SpT P N M) (hI : zct P N N.zaa N.zcs N.zbi N.zbu) (T : TrF P N) (G : SMg P N M L) (C : ApC P N A) {m : Msg} {d : MkN} (D : MkD P N M A L mf m d) {w : World} {t : Tr} {ct : List Value} {n : Int} (hr : RepA w t ct) (hb : bdT t) (hver : 0 ≤ IntKind.i16.wrap n)
  (hlen : (m.fs.wr (IntKind.i16.wrap n) (decide (IntKind.i16.wrap n ≥ m.fl)) (m.fs.ofT 0 t)).length < 1099511627776) :
  Call P d.mkI #[.int .i64 n, .agg ct.toArray] w fun r w' => OctA w' r (m.fs.wr (IntKind.i16.wrap n) (decide (IntKind.i16.wrap n ≥ m.fl)) (m.fs.ofT 0 t)) ∧ Mod w w' zw := by
 obtain ⟨pl, by', hSF⟩ := D.ti
 have hzl := Fds.zero_length m.fs
 refine D.door.call rfl fun loc N' hlo => ?_
 unfold c_doorM
 refine zia (by simp) ?_
 obtain ⟨w1, hw1⟩ : ∃ w1, w1 = w.alloc (.cells (Value.cells (.agg ct.toArray)) N.zaa) := ⟨_, rfl⟩
 have m1 : Mod w w1 zw := by rw [hw1]; exact Mod.alloc _ _ _
 have s1 : w1.heap.size = w.heap.size + 1 := by rw [hw1]; exact zae _ _
 have r1 : w1.rangeAt w.heap.size 0 ct := by rw [hw1]; exact zu w _ _ _
 refine zat fun K hK => zq fun τ => ?_
 simp +decide only [bK, bE, Nat.reduceAdd]
 rw [← hw1]
 refine hK _ _ (zd fun σ1 hσ => ?_)
 have a0 := hσ 0
 have a2 := hσ 2
 simp +decide only [bE, Nat.reduceBeqDiff, BEq.rfl, Nat.reduceAdd, Nat.zero_add, zbp] at a0 a2
 clear hσ hK K hw1
 have hbu : (Instr.build m.tT #[]).run P w1 = .ok (.agg (.int .i16 0 :: m.fs.zero).toArray) w1 := hSF.run_build (by simp [Instr.fill])
 have e0 : ∀ ρ : Env, (#[] : Array (Nat × Operand)).map (fun p => (p.1, ev ρ p.2)) = #[] := fun ρ => by simp
 obtain ⟨w2, hw2⟩ : ∃ w2, w2 = w1.alloc (.cells (Value.cells (.agg (.int .i16 0 :: m.fs.zero).toArray)) m.tT) := ⟨_, rfl⟩
 have m2 : Mod w1 w2 zw := by rw [hw2]; exact Mod.alloc _ _ _
 have s2 : w2.heap.size = w1.heap.size + 1 := by rw [hw2]; exact zae _ _
 have r2 : w2.rangeAt w1.heap.size 0 ([.int .i16 0] ++ m.fs.zero) := by rw [hw2]; exact zu w1 (.int .i16 0 :: m.fs.zero).toArray _ _
 have t2 : w2.there w1.heap.size 0 (m.fs.sz + 1) := by
  have := zbe w1 (.int .i16 0 :: m.fs.zero).toArray m.tT
  have e : (Value.int .i16 0 :: m.fs.zero).toArray.size = m.fs.sz + 1 := by simp [Fds.zero_length]
  rw [e] at this
  rw [hw2]; exact this
 refine zat fun K hK => zq fun τ => ?_
 simp +decide only [bK, bE, BEq.rfl, e0, hbu]
 rw [← hw2]
 refine hK _ _ (zd fun σ2 hσ => ?_)
 have b0 := hσ 0
 have b2 := hσ 2
 have b4 := hσ 4
 simp +decide only [bE, Nat.reduceBeqDiff, BEq.rfl, Nat.reduceAdd, Nat.zero_add, a0, a2] at b0 b2 b4
 clear hσ hK K a0 a2 hw2 hbu
 obtain ⟨Mb, hMb⟩ : ∃ M, M = w1.heap.size := ⟨_, rfl⟩
 rw [← hMb] at r2 t2 b4
 have q2 := zx.1 r2
 have lM : Mb < w2.heap.size := by omega
 refine zat fun K hK => zq fun τ => ?_
 have hcv := fun {w : World} => zay (P := P) (w := w) (k' := .i64) B.int B.int16 (n := n) ⟨_, rfl⟩
 simp +decide only [bK, bE, Nat.reduceBeqDiff, BEq.rfl, Nat.reduceAdd, Nat.zero_add, b0, b4, hcv]
 rw [zaj D.setV.has]
 simp +decide only [bK, bE, Nat.reduceBeqDiff, BEq.rfl]
 refine (call_setD B D (IntKind.i16.wrap n) t2 (q2.1 0 _ rfl)).mono ?_
 rintro v3 w3 ⟨m3, hv3, s3⟩
 refine hK _ _ (zd fun σ3 hσ => ?_)
 have c2 := hσ 2
 have c4 := hσ 4
 simp +decide only [bE, Nat.reduceBeqDiff, Nat.reduceAdd, b2, b4] at c2 c4
 clear hσ hK K b0 b2 b4
 have m02 := m1.trans' m2
 have m03 : Mod w w3 zw := m02.fresh m3 fun k o h => by have := h.1; omega
 have t3 := m3.there lM t2
 have r3 : w3.rangeAt Mb 1 m.fs.zero := m3.rangeAt lM (fun i h1 _ h => by have := h.2.2; omega) (by simpa using q2.2)
 have rT3 : w3.rangeAt w.heap.size 0 ct := m3.rangeAt (by omega) (fun i _ _ h => by have := h.1; omega) (zh m2 r1)
 refine zat fun K hK => zq fun τ => ?_
 simp +decide only [bK, bE, Nat.reduceBeqDiff, Nat.reduceAdd, c2, c4, hI.loadT rT3 hr.len]
 rw [zaj D.fill.has]
 simp +decide only [bK, bE, Nat.reduceBeqDiff, BEq.rfl]
 refine (zvj B F S hI T G D.fok D.fill D.hf m03 hr hb (b := Mb) (by omega) (by omega) (fun j hj => by
  have := t3 (1 + j) (by omega)
  rwa [Nat.zero_add] at this) r3).mono ?_
 rintro v4 w4 ⟨css, hrep, r4, m4⟩
 refine hK _ _ (zd fun σ4 hσ => ?_)
 have d4 := hσ 4
 simp +decide only [bE, Nat.reduceBeqDiff, Nat.reduceAdd, c4] at d4
 clear hσ hK K c2 c4
 have s4 := m4.size
 have s03 := m03.size
 have m04 : Mod w w4 zw := m03.fresh m4 fun k o h => by have := h.1; omega
 have hv4 : w4.cell? ⟨Mb, 0, none⟩ = some (.int .i16 (IntKind.i16.wrap n)) := by rw [m4.cell _ _ (by omega) (fun h => by have := h.2; omega)]; exact hv3
 have hok := Fds.ofOk m.fs 0 hb
 refine zat fun K hK => zq fun τ => ?_
 simp +decide only [bK, bE, Nat.reduceAdd, d4]
 rw [zaj D.app.has]
 simp +decide only [bK, bE, BEq.rfl]
 refine (ztq B F C D.aok D.hf D.v0 D.app (G := GV w w3 w4) (lo := w4.heap.size) (l := []) (d := .slice none 0 0) hver hv4 hok.1 hok.2 hrep r4 (fun k hk => by
  rcases hk with hk | hk
  ·have hk : k < w.heap.size := hk
   omega
  ·exact hk.2) (by omega) (Nat.le_refl _) zkk (by simpa using hlen)).mono ?_
 rintro v5 w5 ⟨ho5, m5⟩
 rw [List.nil_append] at ho5
 refine hK _ _ (zd fun σ5 hσ => zat fun K2 hK2 => zbk ⟨.inr rfl, _, rfl, ?_⟩)
 have g3 := hσ 3
 simp +decide only [bE, BEq.rfl, Nat.reduceAdd] at g3
 rw [g3]
 exact ⟨ho5.octA, m04.fresh m5 fun k o h => by have := m04.size; omega⟩
end
structure LawMM (P : Program) (N : Nums) (M : zax) (A : zcr) (L : zem) (mf : TypeId → FuncId) (m : Msg) (d : MkN) (k : Nat) (mk : Nat) (sc : List SC) (fl : Int) : Prop where
 D : MkD P N M A L mf m d
 mv : FOk P d.maxV 1 (c_max k) [.var 1]
 mi : FOk P d.maxI 0 (c_maxI N m.pT d.newP d.maxV) [.var 0]
 k1 : IntKind.i64.wrap k = k
 k2 : IntKind.i64.wrap (k + 1) = k + 1
 kk : k < 32767
 md : FOk P mk 0 (c_msg M sc fl) [.cell 0 M.zac]
 scb : scB sc = true
 sco : scOk P sc
 okf : zkl (SC.flds sc) = true
 ofb : zwx (SC.flds sc) = true
 ver : verB m true (SC.flds sc) fl k = true
def dMake (N : Nums) (M : zax) (L : zem) (mkI : Nat) : List ROp := [
 ⟨some 0, .move (V 8), 0, none, []⟩, ⟨some 1, .fieldAddr M.zac (V 7) 0, 0, none, []⟩, ⟨some 2, .load M.zab (T 1), 0, none, [1]⟩, ⟨some 3, .move (V 8), 0, none, []⟩, ⟨some 4, .load N.zb (V 2), 0, none, []⟩,
 ⟨some 5, .call ⟨.value (.func L.zka), #[T 2, T 3, T 4], #[M.zab, N.ze, N.zb]⟩, N.zb, none, [2, 3, 4]⟩, ⟨some 6, .call ⟨.value (.func L.zlg), #[T 5], #[N.zb]⟩, N.zaa, none, [5, 5]⟩,
 ⟨some 7, .call ⟨.value (.func mkI), #[T 0, T 6], #[N.ze, N.zaa]⟩, N.za, none, [0, 6, 6]⟩, ⟨some 8, .load M.zac (V 7), 0, none, []⟩, ⟨some 9, .move (V 8), 0, none, []⟩, ⟨some 10, .load N.zb (V 2), 0, none, []⟩,
 ⟨some 11, .call ⟨.value (.func M.zjh), #[T 8, T 9, T 10], #[M.zac, N.ze, N.zb]⟩, N.za, none, [8, 9, 10, 7]⟩, ⟨some 12, .call ⟨.value (.func N.zdy), #[T 7, T 11], #[N.za, N.za]⟩, N.zaq, none, [7, 11, 11]⟩,
 ⟨some 103, .assign (T 12), 0, none, [12, 12, 0, 1, 2, 3, 4, 5, 6, 7, 8, 9, 10, 11, 12]⟩]
def c_lawM (N : Nums) (M : zax) (L : zem) (maxI mkI mk : Nat) : C := seqs [
 .ops [⟨some 102, .box N.zb (V 1), 0, none, []⟩, ⟨some 103, .assign (.const (.bool false)), 0, none, []⟩],
 .seq (.ops [⟨some 0, .load N.zb (V 2), 0, none, []⟩, ⟨some 1, .call ⟨.value (.func M.znh), #[T 0], #[N.zb]⟩, N.zaq, none, []⟩, ⟨some 104, .unOp .not N.zaq (T 1), 0, none, []⟩]) (.cond 4 (.seq (zgn 3 (.bool true)) .ret) .skip),
 .ops [⟨some 0, .call ⟨.value (.func maxI), #[], #[]⟩, N.ze, none, []⟩, ⟨some 105, .assign (T 0), 0, none, []⟩],
 .seq (.ops [⟨some 0, .move (V 5), 0, none, []⟩, ⟨some 106, .binOp .lss N.ze (T 0) (.const (.int .i64 0)) N.ze, 0, none, []⟩]) (.cond 6 (.seq (zgn 3 (.bool false)) .ret) .skip),
 .ops [⟨some 0, .call ⟨.value (.func mk), #[], #[]⟩, M.zac, none, []⟩, ⟨some 1, .move (V 0), 0, none, []⟩, ⟨some 2, .move (V 5), 0, none, []⟩, ⟨some 3, .call ⟨.value (.func N.zjz), #[T 1, T 2], #[N.zk, N.ze]⟩, N.ze, none, []⟩,
  ⟨some 107, .alloc M.zac, 0, none, []⟩, ⟨none, .store M.zac (V 7) (T 0), 0, none, []⟩, ⟨some 108, .assign (T 3), 0, none, []⟩],
 .draw (dMake N M L mkI), .ret]
mutual
theorem zqh : ∀ t : Tr, bdT t → okS t
 | .mk n s nl l u, h => by
  simp only [bdT] at h
  exact ⟨⟨by omega, by omega⟩, zse l h.2.2.2.2.2⟩
theorem zse : ∀ l : List Tr, bdTs l → okSs l
 | [], _ => trivial
 | t :: l, h => by
  simp only [bdTs] at h
  exact ⟨zqh t h.1, zse l h.2⟩
end
section
variable {P : Program} {N : Nums} {M : zax} {A : zcr} {L : zem} {mf : TypeId → FuncId}
theorem call_lawM (B : Base P N) (F : Fns P N) (S : SpT P N M) (hI : zct P N N.zaa N.zcs N.zbi N.zbu) (T : TrF P N) (hZ : SZ P N M) (hW : SW P N M) (C : ApC P N A) (hL : SMk P N M L) (G : SMg P N M L) (hgv : L.zlg ≠ 0) (hN : N.zdy ≠ 0) (hV : N.zjz ≠ 0) {m : Msg} {d : MkN} {k mk : Nat} {sc : List SC} {fl : Int} (Lw : LawMM P N M A L mf m d k mk sc fl) {f : Nat}
  (hf : FOk P f 2 (c_lawM N M L d.maxI d.mkI mk) [.var 3]) {w : World} {t : Tr} {ct : List Value} {n : Int} (hn : 0 ≤ n ∧ n ≤ 255) (ht : RepA w t ct) (hwf : wfT t) (hsz : szT t ≤ 1048576) :
  Call P f #[.int .u8 n, .agg ct.toArray] w fun v' w' => v' = .bool true ∧ Mod w w' zw := by
 refine hf.call rfl fun loc N' hlo => ?_
 unfold c_lawM
 refine zia (by simp) ?_
 refine zat fun K hK => zq fun τ => ?_
 simp +decide only [bK, bE, Nat.reduceAdd]
 obtain ⟨w1, hw1⟩ : ∃ w1, w1 = w.alloc (.cells (Value.cells (.agg ct.toArray)) N.zb) := ⟨_, rfl⟩
 have m1 : Mod w w1 zw := by rw [hw1]; exact Mod.alloc _ _ _
 have r1 : w1.rangeAt w.heap.size 0 ct := by rw [hw1]; exact zu w _ _ _
 have s1 : w1.heap.size = w.heap.size + 1 := by rw [hw1]; exact zae _ _
 rw [← hw1]
 clear hw1
 refine hK _ _ (zd fun σ1 hσ => ?_)
 have a0 := hσ 0
 have a2 := hσ 2
 simp +decide only [bE, Nat.reduceBeqDiff, BEq.rfl, Nat.reduceAdd, Nat.zero_add, zbp] at a0 a2
 clear hσ hK K
 obtain ⟨bT, hbT⟩ : ∃ b, b = w.heap.size := ⟨_, rfl⟩
 rw [← hbT] at a2 r1
 have ht1 := RepA.stay m1 _ ht
 refine zat fun K hK => zf fun K1 hK1 => zq fun τ => ?_
 simp +decide only [bK, bE, Nat.reduceAdd, a2, zbm S.tr r1 ht.len]
 rw [zbb hZ.zzFits1.has]
 simp +decide only [bK, bE, BEq.rfl]
 refine (sp_fits1 B S hZ ht1 (fits_of hsz)).mono ?_
 rintro _ w2 ⟨rfl, m2⟩
 simp +decide only [bK]
 refine hK1 _ _ (zd fun σ2 hσ => ?_)
 have b0 := hσ 0
 have b2 := hσ 2
 have b4 := hσ 4
 simp +decide only [bE, Nat.reduceBeqDiff, BEq.rfl, Nat.reduceAdd, Nat.zero_add, a0, a2] at b0 b2 b4
 clear hσ hK1 K1 a0 a2
 refine W_if hlo b4 ?_
 simp only [Bool.not_true, Bool.false_eq_true, if_false]
 refine zbx (hK _ _ ?_)
 clear hK K b4
 have m02 := m1.trans' m2
 refine zat fun K hK => zq fun τ => ?_
 simp +decide only [bK]
 rw [zjt Lw.mi.has]
 refine (call_maxID B Lw.D Lw.mv Lw.mi w2).mono ?_
 rw [Lw.k1]
 rintro _ w3 ⟨rfl, m3⟩
 simp +decide only [bE, BEq.rfl]
 refine hK _ _ (zd fun σ3 hσ => ?_)
 have c0 := hσ 0
 have c2 := hσ 2
 have c5 := hσ 5
 simp +decide only [bE, Nat.reduceBeqDiff, BEq.rfl, Nat.reduceAdd, Nat.zero_add, b0, b2] at c0 c2 c5
 clear hσ hK K b0 b2
 have m03 := m02.trans' m3
 refine zat fun K hK => zf fun K1 hK1 => zq fun τ => ?_
 simp +decide only [bK, bE, BEq.rfl, Nat.reduceAdd, c5]
 refine hK1 _ _ (zd fun σ4 hσ => ?_)
 have d0 := hσ 0
 have d2 := hσ 2
 have d5 := hσ 5
 have d6 := hσ 6
 simp +decide only [bE, Nat.reduceBeqDiff, BEq.rfl, Nat.reduceAdd, Nat.zero_add, c0, c2, c5] at d0 d2 d5 d6
 clear hσ hK1 K1 c0 c2 c5
 refine W_if hlo d6 ?_
 have hk0 : ¬ (k : Int) < 0 := by omega
 simp only [hk0, decide_false, Bool.false_eq_true, if_false]
 refine zbx (hK _ _ ?_)
 clear hK K d6
 obtain ⟨v, hv⟩ : ∃ v : Nat, (IntKind.i64.wrap n).tmod (IntKind.i64.wrap (k + 1)) = (v : Int) ∧ v ≤ k := by
  rw [Lw.k2, zga (by omega) (by omega)]
  have h1 := Int.tmod_nonneg (k + 1 : Int) hn.1
  have h2 := Int.tmod_lt_of_pos n (show (0 : Int) < k + 1 by omega)
  exact ⟨(n.tmod (k + 1)).toNat, by omega, by omega⟩
 obtain ⟨fsM, htM, _⟩ := S.msg.out
 refine zat fun K hK => zq fun τ => ?_
 simp +decide only [bK, bE, Nat.reduceBeqDiff, BEq.rfl, Nat.reduceAdd, Nat.zero_add]
 rw [zjt Lw.md.has]
 refine (mk_msg S Lw.scb Lw.sco Lw.md w3).mono ?_
 rintro _ w4 ⟨fv, rfl, hfv, m4⟩
 simp +decide only [bE, Nat.reduceBeqDiff, d0, d5]
 rw [zaj (F.version hV).has]
 simp +decide only [bK, bE, Nat.reduceBeqDiff, BEq.rfl]
 refine (zvg B F hV w4 n k (by rw [Lw.k2]; omega)).mono ?_
 rintro _ w4' ⟨rfl, hw4⟩
 obtain rfl := hw4.symm
 clear hw4
 rw [hv.1]
 obtain ⟨w5, w6, hal, hst, _, m46, s6, r6, _⟩ := zgo (cs := [fv, .int .i64 fl]) htM (by decide) rfl rfl (by
  intro c hc; simp at hc; rcases hc with rfl | rfl
  ·exact hfv.one
  ·rfl) w4
 simp +decide only [bK, hal, hst]
 refine hK _ _ (zd fun σ5 hσ => ?_)
 have e2 := hσ 2
 have e7 := hσ 7
 have e8 := hσ 8
 simp +decide only [bE, Nat.reduceBeqDiff, BEq.rfl, Nat.reduceAdd, d2] at e2 e7 e8
 clear hσ hK K d0 d2 d5 hal hst
 obtain ⟨bM, hbM⟩ : ∃ b, b = w4.heap.size := ⟨_, rfl⟩
 rw [← hbM] at e7 r6
 have m06 := (m03.trans' m4).trans' m46
 have m16 := ((m2.trans' m3).trans' m4).trans' m46
 have hf6 := hfv.stay m46
 have rT6 := zh m16 r1
 obtain ⟨g1, g2, g3⟩ := verB_at Lw.ver hv.2
 have hfl : (SC.flds sc).length < 1000 := by rw [SC.flds_len]; exact (ztc Lw.scb).2.2.2
 have hbl : (zei (zjx fl v) v (SC.flds sc) t).length ≤ K0 * szT t := zus Lw.okf hfl hwf
 have hK0 : K0 * szT t ≤ 40000 * 1048576 := Nat.mul_le_mul (Nat.le_refl _) hsz
 have hbl2 : (zei (zjx fl v) v (SC.flds sc) t).length < 549755813888 := by omega
 have hbd := fitP_bd (v := v) Lw.okf hfl (bdT_of t hwf hsz)
 have hi16 : IntKind.i16.wrap (v : Int) = v := zua (by have := Lw.kk; omega)
 have hfx : zjx fl v = decide ((v : Int) ≥ m.fl) := by rw [g3, Bool.true_and]
 have hwr := msg_wrF (m := m) (t := t) g1
 rw [Bool.true_and, ← hfx] at hwr
 have md : Mod w6 w6.drew zw := Mod.drew _ _
 refine zat fun K hK => zks B.mixed [true, true, true, true, true, false, false, false, true, true, true, false, false, false] (by kernel_rfl) (fun w' => Mod w6 w' zw) md fun τ => ?_
 have hlM : bM < w6.heap.size := by omega
 have q8 : zht σ5 τ 108 = .int .i64 v := by rw [← e8]; exact envOf_var σ5 τ 8
 refine zn (.int .i64 v) (fun w' _ => by rw [zbw, ev_tmp, q8]) rfl ?_
 refine zn (.pointer (some ⟨bM, 0, none⟩)) (fun w' _ => zap (by simp +decide only [bE, Nat.reduceBeqDiff, Nat.reduceAdd, Nat.zero_add, ev_tmp, e7, S.m0.run])) rfl ?_
 refine zn fv (fun w' hw => zap (by
  have : w'.cell? ⟨bM, 0, none⟩ = some fv := zh hw r6 0 _ rfl
  simp +decide only [bE, BEq.rfl, ev_tmp, S.lf.run_load1 rfl, this, ldc_some])) rfl ?_
 refine zn (.int .i64 v) (fun w' _ => by
  rw [zbw, ev_tmp]
  simp +decide only [bE, Nat.reduceBeqDiff, Nat.reduceAdd, e8]) rfl ?_
 refine zn (.agg ct.toArray) (fun w' hw => zap (by
  simp +decide only [bE, Nat.reduceBeqDiff, Nat.reduceAdd, ev_tmp, e2]
  exact zbm S.tr (zh hw rT6) ht.len)) rfl ?_
 show zdx P _ _ ((_, false) :: (_, false) :: (_, false) :: _) _
 rw [zdx, zdx, zdx]
 refine zn (.agg [fv, .int .i64 fl].toArray) (fun w' hw => zap (by
  have hld := htM.run_load (w := w') (b := bM) (o := 0) (zh hw r6) rfl (fun h => by cases h)
  have hlv : ldv (.struct fsM) [fv, .int .i64 fl] = .agg [fv, .int .i64 fl].toArray := rfl
  rw [hlv] at hld
  simp +decide only [bE, Nat.reduceBeqDiff, Nat.reduceAdd, ev_tmp, e7, hld])) rfl ?_
 refine zn (.int .i64 v) (fun w' _ => by
  rw [zbw, ev_tmp]
  simp +decide only [bE, Nat.reduceBeqDiff, Nat.reduceAdd, e8]) rfl ?_
 refine zn (.agg ct.toArray) (fun w' hw => zap (by
  simp +decide only [bE, Nat.reduceBeqDiff, Nat.reduceAdd, ev_tmp, e2]
  exact zbm S.tr (zh hw rT6) ht.len)) rfl ?_
 simp only [zdx, dMake, zeo, List.zip_cons_cons, List.zip_nil_right, List.zipWith_cons_cons, List.zipWith_nil_right, List.filter, Bool.not_true, Bool.not_false, List.map, zgl]
 rw [zdu hL.fit.has]
 simp +decide only [bK, bE, Nat.reduceBeqDiff, BEq.rfl]
 refine (fitP_of B S hW hL hfl Lw.okf Lw.ofb w w6.drew fv t ct (m06.trans' md) (hf6.stay md) ht).mono ?_
 rintro _ w7 ⟨c7, rfl, hr7, m7⟩
 have m67 := md.trans' m7
 refine ⟨m67, ?_⟩
 rw [zbb G.given.has]
 simp +decide only [bK, bE, BEq.rfl]
 have s7 := m7.size
 have s06 := m06.size
 refine (zsm B S hI G hgv (zqh _ hbd) (fun k hk => by
  rcases hk with hk | hk
  ·have hk : k < w.heap.size := hk
   have : w6.drew.heap.size = w6.heap.size := rfl
   omega
  ·exact hk.2) hr7).mono ?_
 rintro _ w8 ⟨c8, rfl, hr8, m8⟩
 have m68 := m67.trans' m8
 refine ⟨m68, ?_⟩
 rw [zaj Lw.D.door.has]
 simp +decide only [bK, bE, Nat.reduceBeqDiff, BEq.rfl]
 refine (call_doorM B F S hI T G C Lw.D (n := v) hr8 hbd (by rw [hi16]; omega) (by rw [hi16, ← hfx, hwr]; omega)).mono ?_
 rintro v9 w9 ⟨ho9, m9⟩
 rw [hi16, ← hfx, hwr] at ho9
 have m69 := m68.trans' m9
 refine ⟨m69, ?_⟩
 rw [zdu hW.Write.has]
 simp +decide only [bK, bE, Nat.reduceBeqDiff, BEq.rfl]
 refine (sp_Write B S hW hfl Lw.okf (hf6.stay m69) (RepA.stay (m06.trans' m69) _ ht) hwf hbl2).mono ?_
 rintro r w10 ⟨ho10, m10⟩
 have m610 := m69.trans' m10
 refine ⟨m610, ?_⟩
 rw [zaj (F.spec_Same hN).has]
 simp +decide only [bK, bE, Nat.reduceBeqDiff, BEq.rfl]
 refine (zsn B F hN (ho9.stay m10) ho10.octA (by omega)).mono ?_
 rintro _ w11 ⟨rfl, m11⟩
 have m611 := m610.trans' m11
 refine ⟨m611, ?_⟩
 refine zd (K := fun σ' w' => zgt K _ .normal σ' w') fun σ9 hσ => hK _ _ ?_
 have q3 := hσ 3
 simp +decide only [bE, BEq.rfl, Nat.reduceAdd] at q3
 exact zat fun K2 hK2 => zbk ⟨.inr rfl, _, rfl, q3, m06.trans' m611⟩
end
section
variable (N : Nums)
end
section
variable {P : Program} {N : Nums}
end
def dKept (N : Nums) (M : zax) : List ROp := [
 ⟨some 0, .move (V 1), 0, none, []⟩,
 ⟨some 1, .call ⟨.value (.func M.zds), #[T 0, .const (.int .i64 2)], #[N.zbl, N.ze]⟩, N.za, none, [0]⟩,
 ⟨some 2, .load M.zac (V 3), 0, none, []⟩,
 ⟨some 3, .move (V 1), 0, none, []⟩,
 ⟨some 4, .load N.zb (V 4), 0, none, []⟩,
 ⟨some 5, .call ⟨.value (.func M.zjh), #[T 2, T 3, T 4], #[M.zac, N.ze, N.zb]⟩, N.za, none, [2, 3, 4, 1]⟩,
 ⟨some 6, .call ⟨.builtin .append, #[T 1, T 5], #[N.za, N.za]⟩, N.za, none, [1, 5, 5]⟩,
 ⟨some 105, .assign (T 6), 0, none, [6, 6, 0, 1, 2, 3, 4, 5, 6]⟩]
def c_Kept (N : Nums) (M : zax) : C := seqs [.ops [⟨some 103, .box M.zac (V 0), 0, none, []⟩, ⟨some 104, .box N.zb (V 2), 0, none, []⟩, ⟨some 105, .assign (.const (.slice none 0 0)), 0, none, []⟩], .draw (dKept N M), .ret]
section
variable {P : Program} {N : Nums} {M : zax}
theorem W_kept (B : Base P N) (S : SpT P N M) (hW : SW P N M) {loc : List Nat} {N' : Nat} {Q : Exit → Env → World → Prop} {σ : Env} {w : World} {b3 b4 : Nat} {fv : Value} {fl v : Int} {fs : List Fld} {t : Tr} {cs : List Value} (h1 : fs.length < 1000) (hok : zkl fs = true)
  (s1 : σ 1 = .int .i64 v) (s3 : σ 3 = .pointer (some ⟨b3, 0, none⟩)) (s4 : σ 4 = .pointer (some ⟨b4, 0, none⟩)) (r3 : w.rangeAt b3 0 [fv, .int .i64 fl]) (r4 : w.rangeAt b4 0 cs) (hf : zfz w fv fs) (ht : RepA w t cs) (hwf : wfT t)
  (hbig : (zei (zjx fl v) v fs t).length < 549755813888) (hQ : ∀ (σ' : Env) (w' : World), Gave w (fixB v 2 ++ zei (zjx fl v) v fs t) (σ' 5) w' → Q .normal σ' w') : W P loc N' (.draw (dKept N M)) Q σ w := by
 have md : Mod w w.drew zw := Mod.drew _ _
 obtain ⟨fsM, htM, _⟩ := S.msg.out
 have hlv : ∀ (f : Array Field) (x : List Value), ldv (.struct f) x = .agg x.toArray := fun _ _ => rfl
 refine zks B.mixed [true, false, true, true, true, false, false, false] (by kernel_rfl) (fun w' => Mod w w' zw) md fun τ => ?_
 unfold dKept
 refine zn (.int .i64 v) (fun w' hw => by
  rw [zbw, ev_tmp]
  simp +decide only [bE, Nat.reduceAdd, s1]) rfl ?_
 simp only []
 refine zn (.agg [fv, .int .i64 fl].toArray) (fun w' hw => zap (by
  simp +decide only [bE, Nat.reduceBeqDiff, Nat.reduceAdd, ev_tmp, s3]
  have := htM.run_load (w := w') (b := b3) (o := 0) (zh hw r3) rfl (fun h => by cases h)
  rw [this]; rfl)) rfl ?_
 refine zn (.int .i64 v) (fun w' hw => by
  rw [zbw, ev_tmp]
  simp +decide only [bE, Nat.reduceBeqDiff, Nat.reduceAdd, s1]) rfl ?_
 refine zn (.agg cs.toArray) (fun w' hw => zap (by
  simp +decide only [bE, Nat.reduceBeqDiff, Nat.reduceAdd, ev_tmp, s4]
  exact zbm S.tr (zh hw r4) ht.len)) rfl ?_
 simp only [zdx, zeo, List.zip_cons_cons, List.zip_nil_right, List.zipWith_cons_cons, List.zipWith_nil_right, List.filter, Bool.not_true, Bool.not_false, List.map, zgl]
 rw [zaj hW.Fixed.has]
 simp +decide only [bK, bE, Nat.reduceBeqDiff, BEq.rfl]
 refine (zpk B hW.Fixed w.drew v 2 (by decide)).mono ?_
 rintro r1 w2 ⟨o2, m2⟩
 have m02 := md.trans' m2
 refine ⟨m02, ?_⟩
 rw [zdu hW.Write.has]
 simp +decide only [bK, bE, Nat.reduceBeqDiff, BEq.rfl]
 refine (sp_Write B S hW h1 hok (hf.stay m02) (RepA.stay m02 _ ht) hwf hbig).mono ?_
 rintro r5 w3 ⟨o3, m3⟩
 have m03 := m02.trans' m3
 refine ⟨m03, ?_⟩
 have hs := md.size
 have hs2 := m2.size
 have hs3 := m3.size
 obtain ⟨v6, w4, h6, o6, m6, _⟩ := zet (ty := N.za) B (Own.stay m3 (fun _ _ _ h => h) o2 : OwnB w3 w.drew.heap.size r1 (fixB v 2)) o3.octA (by omega) (by rw [zea]; omega)
 simp +decide only [bK, h6]
 have m04 : Mod w w4 zw := m03.fresh m6 fun k o h => by have := (o2.blk h).1; omega
 refine ⟨m04, ?_⟩
 try simp +decide only [bK, bE, zmd, Nat.reduceBeqDiff, decide_true, decide_false, BEq.rfl, beq_self_eq_true, reduceIte, Nat.reduceAdd, Nat.reduceSub, Nat.reduceLT, Nat.reduceEqDiff, Nat.reduceLeDiff, Nat.reduceMul, Nat.add_sub_cancel, Int.reduceToNat, Nat.add_zero, Nat.zero_add, Nat.mul_one, Nat.reduceBEq, reduceCtorEq, Nat.zero_ne_one, Nat.one_ne_zero, Nat.lt_irrefl, if_false, if_true, List.take_succ_cons, List.take_zero, List.drop_succ_cons, List.drop_zero, true_and, Option.map_some, Option.map_none]
 refine zd fun σ' hσ => hQ σ' w4 ?_
 have g5 := hσ 5
 simp +decide only [bE, BEq.rfl, Nat.reduceAdd] at g5
 rw [g5]
 exact ⟨o6, m04⟩
theorem sp_Kept (B : Base P N) (S : SpT P N M) (hW : SW P N M) {kp : FuncId} (hF : FOk P kp 3 (c_Kept N M) [.var 5]) {w : World} {fv : Value} {fl v : Int} {fs : List Fld} {t : Tr} {cs : List Value} (h1 : fs.length < 1000) (hok : zkl fs = true) (hf : zfz w fv fs) (ht : RepA w t cs) (hwf : wfT t)
  (hbig : (zei (zjx fl v) v fs t).length < 549755813888) : Call P kp #[.agg [fv, .int .i64 fl].toArray, .int .i64 v, .agg cs.toArray] w (Gave w (fixB v 2 ++ zei (zjx fl v) v fs t)) := by
 refine hF.call rfl fun loc N' hlo => ?_
 unfold c_Kept
 refine zia (by simp) ?_
 refine zat fun K hK => zq fun τ => ?_
 simp +decide only [bK, bE, Nat.reduceBeqDiff, Nat.reduceAdd, Nat.zero_add]
 obtain ⟨w1, hw1⟩ : ∃ w1, w1 = w.alloc (.cells (Value.cells (.agg [fv, .int .i64 fl].toArray)) M.zac) := ⟨_, rfl⟩
 have m1 : Mod w w1 zw := by rw [hw1]; exact Mod.alloc _ _ _
 have r1 : w1.rangeAt w.heap.size 0 [fv, .int .i64 fl] := by rw [hw1]; exact zu w _ _ _
 have s1 : w1.heap.size = w.heap.size + 1 := by rw [hw1]; exact zae _ _
 rw [← hw1]
 clear hw1
 obtain ⟨w2, hw2⟩ : ∃ w2, w2 = w1.alloc (.cells (Value.cells (.agg cs.toArray)) N.zb) := ⟨_, rfl⟩
 have m2 : Mod w1 w2 zw := by rw [hw2]; exact Mod.alloc _ _ _
 have r2 : w2.rangeAt w1.heap.size 0 cs := by rw [hw2]; exact zu w1 _ _ _
 rw [← hw2]
 clear hw2
 have m02 := m1.trans' m2
 refine hK _ _ (zd fun σ1 hσ => ?_)
 have a1 := hσ 1
 have a3 := hσ 3
 have a4 := hσ 4
 simp +decide only [bE, Nat.reduceBeqDiff, BEq.rfl, Nat.reduceAdd, zgq] at a1 a3 a4
 clear hσ hK K
 refine zat fun K hK => W_kept B S hW h1 hok a1 a3 a4 (zh m2 r1) r2 (hf.stay m02) (RepA.stay m02 _ ht) hwf hbig fun σ' w' hg => hK _ _ (zat fun K2 hK2 => zbk ⟨.inr rfl, _, rfl, ?_⟩)
 have hs := m02.size
 exact ⟨Own.mono_lo hs hg.1, m02.trans' hg.2⟩
end
section
variable (N : Nums) (A : zcr)
def Msg.appCV (m : Msg) : C := seqs ([.ops [⟨some 102, .assign (.const (.slice none 0 0)), 0, none, []⟩],
 .ops [⟨some 0, .move (V 0), 0, none, []⟩, ⟨some 1, .nilCheck (T 0), 0, none, []⟩, ⟨some 2, .fieldAddr m.tT (T 1) 0, 0, none, []⟩, ⟨some 3, .load N.zbc (T 2), 0, none, []⟩, ⟨some 103, .assign (T 3), 0, none, []⟩],
 .ops [⟨some 0, .move (V 3), 0, none, []⟩],
 .ops [⟨some 0, .move (V 3), 0, none, []⟩, ⟨some 1, .binOp .geq N.zbc (T 0) (.const (.int .i16 m.fl)) N.zbc, 0, none, []⟩, ⟨some 104, .assign (T 1), 0, none, []⟩],
 .ops [⟨some 0, .move (V 4), 0, none, []⟩]] ++ (Fds.cons .all (.pr .i16 none) m.fs).agen N A 0 m.tT 0 5 0 ++ [.ops [⟨some 0, .move (V 1), 0, none, []⟩, ⟨some 102, .assign (T 0), 0, none, []⟩], .ret])
end
section
variable {P : Program} {N : Nums} {A : zcr}
theorem zrm (B : Base P N) (F : Fns P N) (C : ApC P N A) {m : Msg} (ha : m.fs.aok P N A) (hhf : m.fs.hf P m.tT 1 1) (hv0 : HF P m.tT 0 0) {f : FuncId} (hI : A.zbv ≠ 0) (hF : FOk P f 2 (m.appCV N A) [.var 2])
  {w : World} {G : Nat → Prop} {M lo : Nat} {ver : Int} {d : Value} {l : List UInt8} {vs : List Val} {css : List (List Value)} (hver : 0 ≤ ver) (hvs : ver < 32768) (hc : w.cell? ⟨M, 0, none⟩ = some (.int .i16 ver)) (hv : m.fs.okV vs) (hsm : smL vs) (hrep : RepL w G vs css) (hr : w.rangeAt M 1 css.flatten)
  (hG : ∀ k, G k → k < lo) (hM : M < lo) (hlo : lo ≤ w.heap.size) (ho : OwnB w lo d l) (hlen : l.length + (fixB ver 2 ++ m.fs.wr ver (decide (ver ≥ m.fl)) vs).length < 1099511627776) :
  Call P f #[.pointer (some ⟨M, 0, none⟩), d] w fun v' w' => OwnB w' lo v' (l ++ (fixB ver 2 ++ m.fs.wr ver (decide (ver ≥ m.fl)) vs)) ∧ Mod w w' (fun k _ => lo ≤ k) := by
 refine hF.call rfl fun loc N' hloc => ?_
 unfold Msg.appCV
 rw [List.append_assoc]
 refine zia (by simp) ?_
 simp only [List.cons_append, List.nil_append]
 refine zat fun K hK => zq fun τ => ?_
 simp +decide only [bK]
 refine hK _ _ (zd fun σ1 hσ => ?_)
 have a0 := hσ 0
 have a1 := hσ 1
 simp +decide only [bE, Nat.reduceBeqDiff, Nat.reduceAdd, Nat.zero_add, zbp, zcm] at a0 a1
 clear hσ hK K
 refine zat fun K hK => zq fun τ => ?_
 simp +decide only [bK, bE, BEq.rfl, Nat.zero_add, a0]
 rw [zaw rfl]
 simp +decide only [bK, bE, BEq.rfl, Nat.add_zero, hv0.run, B.int16.run_load1 rfl, hc]
 refine hK _ _ (zd fun σ2 hσ => ?_)
 have b0 := hσ 0
 have b1 := hσ 1
 have b3 := hσ 3
 simp +decide only [bE, Nat.reduceBeqDiff, BEq.rfl, Nat.reduceAdd, Nat.zero_add, a0, a1] at b0 b1 b3
 clear hσ hK K
 refine zat fun K hK => zq fun τ => ?_
 simp +decide only [bK, bE, Nat.reduceAdd]
 refine hK _ _ (zd fun σ3 hσ => ?_)
 have c0 := hσ 0
 have c1 := hσ 1
 have c3 := hσ 3
 simp +decide only [bE, Nat.reduceBeqDiff, Nat.reduceAdd, Nat.zero_add, b0, b1, b3] at c0 c1 c3
 clear hσ hK K
 refine zat fun K hK => zq fun τ => ?_
 simp +decide only [bK, bE, BEq.rfl, Nat.reduceAdd, c3]
 refine hK _ _ (zd fun σ4 hσ => ?_)
 have d0 := hσ 0
 have d1 := hσ 1
 have d3 := hσ 3
 have d4 := hσ 4
 simp +decide only [bE, Nat.reduceBeqDiff, BEq.rfl, Nat.reduceAdd, Nat.zero_add, c0, c1, c3] at d0 d1 d3 d4
 clear hσ hK K
 refine zat fun K hK => zq fun τ => ?_
 simp +decide only [bK, bE, Nat.reduceAdd]
 refine hK _ _ (zd fun σ5 hσ => ?_)
 have e0 := hσ 0
 have e1 := hσ 1
 have e3 := hσ 3
 have e4 := hσ 4
 simp +decide only [bE, Nat.reduceBeqDiff, Nat.reduceAdd, Nat.zero_add, d0, d1, d3, d4] at e0 e1 e3 e4
 clear hσ hK K
 have hwr : (Fds.cons .all (.pr .i16 none) m.fs).wr ver (decide (ver ≥ m.fl)) (.num (.int .i16 ver) :: vs) = fixB ver 2 ++ m.fs.wr ver (decide (ver ≥ m.fl)) vs := rfl
 rw [← hwr] at hlen ⊢
 refine Fds.wW B F C hver (.cons .all (.pr .i16 none) m.fs) ⟨⟨hI, (fun h => nomatch h), fun h => absurd h (by decide)⟩, ha⟩ (idx := 0) (off := 0) (oo := 0) (vv := 0) (q := 5) (kk := 0) (.num (.int .i16 ver) :: vs) ([.int .i16 ver] :: css) hloc ⟨⟨ver, rfl, zga (by omega) (by omega)⟩, hv⟩ ⟨by show (zhy (.int .i16 ver)).length < _; simp [zhy], hsm⟩ ⟨_, _, rfl, rfl, hrep⟩ (by
  show w.rangeAt M 0 ([.int .i16 ver] ++ css.flatten)
  exact zx.2 ⟨zgw.2 hc, hr⟩) hG hM hlo ⟨hv0, hhf⟩ e0 (by decide) (by decide) (by decide) ⟨e1, e3, e4, ho, .refl _ _⟩ hlen fun σ6 w6 d6 h6 _ => ?_
 refine zat fun K hK => zq fun τ => ?_
 simp +decide only [bK, bE, BEq.rfl, Nat.reduceAdd, h6.f1]
 refine hK _ _ (zd fun σ7 hσ => zat fun K2 hK2 => zbk ?_)
 have g2 := hσ 2
 simp +decide only [bE, BEq.rfl, Nat.reduceAdd] at g2
 exact ⟨.inr rfl, _, rfl, by rw [g2]; exact h6.own, h6.mod⟩
end
section
variable (N : Nums)
def c_doorMV (tT pT fill app : Nat) : C := seqs [.ops [⟨some 102, .box N.zaa (V 1), 0, none, []⟩, ⟨some 103, .assign (.const (.slice none 0 0)), 0, none, []⟩],
 .ops [⟨some 0, .move (V 0), 0, none, []⟩, ⟨some 1, .convert N.ze N.zbc (T 0), 0, none, []⟩, ⟨some 2, .build tT #[(0, T 1)], 0, none, []⟩, ⟨some 3, .box tT (T 2), 0, none, []⟩, ⟨some 104, .assign (T 3), 0, none, []⟩],
 .ops [⟨some 0, .move (V 4), 0, none, []⟩, ⟨some 1, .load N.zaa (V 2), 0, none, []⟩, ⟨some 2, .call ⟨.value (.func fill), #[T 0, T 1], #[pT, N.zaa]⟩, N.t_, none, []⟩],
 .ops [⟨some 0, .move (V 4), 0, none, []⟩, ⟨some 1, .call ⟨.value (.func app), #[T 0, .const (.slice none 0 0)], #[pT, N.za]⟩, N.za, none, []⟩, ⟨some 103, .assign (T 1), 0, none, []⟩], .ret]
end
structure MkDV (P : Program) (N : Nums) (M : zax) (A : zcr) (L : zem) (mf : TypeId → FuncId) (m : Msg) (d : MkN) : Prop where
 ti : ∃ pl by', SF P m.tT ((0, 1) :: pl) by' (.int .i16 0 :: m.fs.zero)
 z1 : ∀ c ∈ m.fs.zero, c.oneCell' = true
 hf : m.fs.hf P m.tT 1 1
 v0 : HF P m.tT 0 0
 fill : FOk P d.fillI 2 (m.fillC N L mf) []
 fok : m.fs.fok P N L mf .fill
 i16 : A.zbv ≠ 0
 app : FOk P d.app 2 (m.appCV N A) [.var 2]
 aok : m.fs.aok P N A
 door : FOk P d.mkI 2 (c_doorMV N m.tT m.pT d.fillI d.app) [.var 3]
section
variable {P : Program} {N : Nums} {M : zax} {A : zcr} {L : zem} {mf : TypeId → FuncId}
theorem zwe (n : Int) : IntKind.i16.wrap n < 32768 := by
 simp [IntKind.wrap, IntKind.bits, IntKind.signed]; omega
theorem zxi (B : Base P N) (F : Fns P N) (S : SpT P N M) (hI : zct P N N.zaa N.zcs N.zbi N.zbu) (T : TrF P N) (G : SMg P N M L) (C : ApC P N A) {m : Msg} {d : MkN} (D : MkDV P N M A L mf m d) {w : World} {t : Tr} {ct : List Value} {n : Int} (hr : RepA w t ct) (hb : bdT t) (hver : 0 ≤ IntKind.i16.wrap n)
  (hlen : (fixB (IntKind.i16.wrap n) 2 ++ m.fs.wr (IntKind.i16.wrap n) (decide (IntKind.i16.wrap n ≥ m.fl)) (m.fs.ofT 0 t)).length < 1099511627776) :
  Call P d.mkI #[.int .i64 n, .agg ct.toArray] w fun r w' => OctA w' r (fixB (IntKind.i16.wrap n) 2 ++ m.fs.wr (IntKind.i16.wrap n) (decide (IntKind.i16.wrap n ≥ m.fl)) (m.fs.ofT 0 t)) ∧ Mod w w' zw := by
 obtain ⟨pl, by', hSF⟩ := D.ti
 have hzl := Fds.zero_length m.fs
 refine D.door.call rfl fun loc N' hlo => ?_
 unfold c_doorMV
 refine zia (by simp) ?_
 obtain ⟨w1, hw1⟩ : ∃ w1, w1 = w.alloc (.cells (Value.cells (.agg ct.toArray)) N.zaa) := ⟨_, rfl⟩
 have m1 : Mod w w1 zw := by rw [hw1]; exact Mod.alloc _ _ _
 have s1 : w1.heap.size = w.heap.size + 1 := by rw [hw1]; exact zae _ _
 have r1 : w1.rangeAt w.heap.size 0 ct := by rw [hw1]; exact zu w _ _ _
 refine zat fun K hK => zq fun τ => ?_
 simp +decide only [bK, bE, Nat.reduceAdd]
 rw [← hw1]
 refine hK _ _ (zd fun σ1 hσ => ?_)
 have a0 := hσ 0
 have a2 := hσ 2
 simp +decide only [bE, Nat.reduceBeqDiff, BEq.rfl, Nat.reduceAdd, Nat.zero_add, zbp] at a0 a2
 clear hσ hK K hw1
 obtain ⟨x, hx⟩ : ∃ x, x = IntKind.i16.wrap n := ⟨_, rfl⟩
 have hbu : (Instr.build m.tT #[(0, .int .i16 x)]).run P w1 = .ok (.agg (.int .i16 x :: m.fs.zero).toArray) w1 := hSF.run_build (by simp [Instr.fill, Value.cells])
 obtain ⟨w2, hw2⟩ : ∃ w2, w2 = w1.alloc (.cells (Value.cells (.agg (.int .i16 x :: m.fs.zero).toArray)) m.tT) := ⟨_, rfl⟩
 have m2 : Mod w1 w2 zw := by rw [hw2]; exact Mod.alloc _ _ _
 have s2 : w2.heap.size = w1.heap.size + 1 := by rw [hw2]; exact zae _ _
 have r2 : w2.rangeAt w1.heap.size 0 ([.int .i16 x] ++ m.fs.zero) := by rw [hw2]; exact zu w1 (.int .i16 x :: m.fs.zero).toArray _ _
 have t2 : w2.there w1.heap.size 0 (m.fs.sz + 1) := by
  have := zbe w1 (.int .i16 x :: m.fs.zero).toArray m.tT
  have e : (Value.int .i16 x :: m.fs.zero).toArray.size = m.fs.sz + 1 := by simp [Fds.zero_length]
  rw [e] at this
  rw [hw2]; exact this
 have e0 : ∀ ρ : Env, (#[(0, Go.Kf.T 1)] : Array (Nat × Operand)).map (fun p => (p.1, ev ρ p.2)) = #[(0, ρ 1)] := fun ρ => by simp [ev]
 refine zat fun K hK => zq fun τ => ?_
 have hcv := fun {w : World} => zay (P := P) (w := w) (k' := .i64) B.int B.int16 (n := n) ⟨_, rfl⟩
 rw [← hx] at hcv
 simp +decide only [bK, bE, BEq.rfl, Nat.zero_add, a0, hcv, e0, hbu]
 rw [← hw2]
 refine hK _ _ (zd fun σ3 hσ => ?_)
 have c2 := hσ 2
 have c4 := hσ 4
 simp +decide only [bE, Nat.reduceBeqDiff, BEq.rfl, Nat.reduceAdd, a2] at c2 c4
 clear hσ hK K a0 a2 hw2 hbu
 obtain ⟨Mb, hMb⟩ : ∃ M, M = w1.heap.size := ⟨_, rfl⟩
 rw [← hMb] at r2 t2 c4
 have q2 := zx.1 r2
 have m03 : Mod w w2 zw := m1.trans' m2
 have hv3 : w2.cell? ⟨Mb, 0, none⟩ = some (.int .i16 (IntKind.i16.wrap n)) := by rw [← hx]; exact q2.1 0 _ rfl
 have r3 : w2.rangeAt Mb 1 m.fs.zero := by simpa using q2.2
 have t3 := t2
 have rT3 : w2.rangeAt w.heap.size 0 ct := zh m2 r1
 refine zat fun K hK => zq fun τ => ?_
 simp +decide only [bK, bE, Nat.reduceBeqDiff, Nat.reduceAdd, c2, c4, hI.loadT rT3 hr.len]
 rw [zaj D.fill.has]
 simp +decide only [bK, bE, Nat.reduceBeqDiff, BEq.rfl]
 refine (zvj B F S hI T G D.fok D.fill D.hf m03 hr hb (b := Mb) (by omega) (by omega) (fun j hj => by
  have := t3 (1 + j) (by omega)
  rwa [Nat.zero_add] at this) r3).mono ?_
 rintro v4 w4 ⟨css, hrep, r4, m4⟩
 refine hK _ _ (zd fun σ4 hσ => ?_)
 have d4 := hσ 4
 simp +decide only [bE, Nat.reduceBeqDiff, Nat.reduceAdd, c4] at d4
 clear hσ hK K c2 c4
 have s4 := m4.size
 have s03 := m03.size
 have m04 : Mod w w4 zw := m03.fresh m4 fun k o h => by have := h.1; omega
 have hv4 : w4.cell? ⟨Mb, 0, none⟩ = some (.int .i16 (IntKind.i16.wrap n)) := by rw [m4.cell _ _ (by omega) (fun h => by have := h.2; omega)]; exact hv3
 have hok := Fds.ofOk m.fs 0 hb
 refine zat fun K hK => zq fun τ => ?_
 simp +decide only [bK, bE, Nat.reduceAdd, d4]
 rw [zaj D.app.has]
 simp +decide only [bK, bE, BEq.rfl]
 refine (zrm B F C D.aok D.hf D.v0 D.i16 D.app (G := GV w w2 w4) (lo := w4.heap.size) (l := []) (d := .slice none 0 0) hver (by have := zwe n; omega) hv4 hok.1 hok.2 hrep r4 (fun k hk => by
  rcases hk with hk | hk
  ·have hk : k < w.heap.size := hk
   omega
  ·exact hk.2) (by omega) (Nat.le_refl _) zkk (by simpa using hlen)).mono ?_
 rintro v5 w5 ⟨ho5, m5⟩
 rw [List.nil_append] at ho5
 refine hK _ _ (zd fun σ5 hσ => zat fun K2 hK2 => zbk ⟨.inr rfl, _, rfl, ?_⟩)
 have g3 := hσ 3
 simp +decide only [bE, BEq.rfl, Nat.reduceAdd] at g3
 rw [g3]
 exact ⟨ho5.octA, m04.fresh m5 fun k o h => by have := m04.size; omega⟩
end
structure LawMV (P : Program) (N : Nums) (M : zax) (A : zcr) (L : zem) (mf : TypeId → FuncId) (m : Msg) (d : MkN) (mk : Nat) (kp : Nat) (sc : List SC) (fl : Int) : Prop where
 D : MkDV P N M A L mf m d
 kp : FOk P kp 3 (c_Kept N M) [.var 5]
 md : FOk P mk 0 (c_msg M sc fl) [.cell 0 M.zac]
 scb : scB sc = true
 sco : scOk P sc
 okf : zkl (SC.flds sc) = true
 ofb : zwx (SC.flds sc) = true
 ver : verB m true (SC.flds sc) fl 0 = true
def dMakeV (N : Nums) (M : zax) (L : zem) (mkI kp : Nat) : List ROp := [
 ⟨some 0, .move (V 6), 0, none, []⟩, ⟨some 1, .fieldAddr M.zac (V 5) 0, 0, none, []⟩, ⟨some 2, .load M.zab (T 1), 0, none, [1]⟩, ⟨some 3, .move (V 6), 0, none, []⟩, ⟨some 4, .load N.zb (V 2), 0, none, []⟩,
 ⟨some 5, .call ⟨.value (.func L.zka), #[T 2, T 3, T 4], #[M.zab, N.ze, N.zb]⟩, N.zb, none, [2, 3, 4]⟩, ⟨some 6, .call ⟨.value (.func L.zlg), #[T 5], #[N.zb]⟩, N.zaa, none, [5, 5]⟩,
 ⟨some 7, .call ⟨.value (.func mkI), #[T 0, T 6], #[N.ze, N.zaa]⟩, N.za, none, [0, 6, 6]⟩, ⟨some 8, .load M.zac (V 5), 0, none, []⟩, ⟨some 9, .move (V 6), 0, none, []⟩, ⟨some 10, .load N.zb (V 2), 0, none, []⟩,
 ⟨some 11, .call ⟨.value (.func kp), #[T 8, T 9, T 10], #[M.zac, N.ze, N.zb]⟩, N.za, none, [8, 9, 10, 7]⟩, ⟨some 12, .call ⟨.value (.func N.zdy), #[T 7, T 11], #[N.za, N.za]⟩, N.zaq, none, [7, 11, 11]⟩,
 ⟨some 103, .assign (T 12), 0, none, [12, 12, 0, 1, 2, 3, 4, 5, 6, 7, 8, 9, 10, 11, 12]⟩]
def c_lawMV (N : Nums) (M : zax) (L : zem) (mkI mk kp : Nat) : C := seqs [
 .ops [⟨some 102, .box N.zb (V 1), 0, none, []⟩, ⟨some 103, .assign (.const (.bool false)), 0, none, []⟩],
 .seq (.ops [⟨some 0, .load N.zb (V 2), 0, none, []⟩, ⟨some 1, .call ⟨.value (.func M.znh), #[T 0], #[N.zb]⟩, N.zaq, none, []⟩, ⟨some 104, .unOp .not N.zaq (T 1), 0, none, []⟩]) (.cond 4 (.seq (zgn 3 (.bool true)) .ret) .skip),
 .ops [⟨some 0, .call ⟨.value (.func mk), #[], #[]⟩, M.zac, none, []⟩, ⟨some 1, .move (V 0), 0, none, []⟩, ⟨some 2, .convert N.zk N.ze (T 1), 0, none, []⟩, ⟨some 3, .binOp .rem N.ze (T 2) (.const (.int .i64 1)) N.ze, 0, none, []⟩,
  ⟨some 105, .alloc M.zac, 0, none, []⟩, ⟨none, .store M.zac (V 5) (T 0), 0, none, []⟩, ⟨some 106, .assign (T 3), 0, none, []⟩],
 .draw (dMakeV N M L mkI kp), .ret]
section
variable {P : Program} {N : Nums} {M : zax} {A : zcr} {L : zem} {mf : TypeId → FuncId}
theorem call_lawMV (B : Base P N) (F : Fns P N) (S : SpT P N M) (hI : zct P N N.zaa N.zcs N.zbi N.zbu) (T : TrF P N) (hZ : SZ P N M) (hW : SW P N M) (C : ApC P N A) (hL : SMk P N M L) (G : SMg P N M L) (hgv : L.zlg ≠ 0) (hN : N.zdy ≠ 0) {m : Msg} {d : MkN} {mk kp : Nat} {sc : List SC} {fl : Int} (Lw : LawMV P N M A L mf m d mk kp sc fl) {f : Nat}
  (hf : FOk P f 2 (c_lawMV N M L d.mkI mk kp) [.var 3]) {w : World} {t : Tr} {ct : List Value} {n : Int} (hn : 0 ≤ n ∧ n ≤ 255) (ht : RepA w t ct) (hwf : wfT t) (hsz : szT t ≤ 1048576) :
  Call P f #[.int .u8 n, .agg ct.toArray] w fun v' w' => v' = .bool true ∧ Mod w w' zw := by
 refine hf.call rfl fun loc N' hlo => ?_
 unfold c_lawMV
 refine zia (by simp) ?_
 refine zat fun K hK => zq fun τ => ?_
 simp +decide only [bK, bE, Nat.reduceAdd]
 obtain ⟨w1, hw1⟩ : ∃ w1, w1 = w.alloc (.cells (Value.cells (.agg ct.toArray)) N.zb) := ⟨_, rfl⟩
 have m1 : Mod w w1 zw := by rw [hw1]; exact Mod.alloc _ _ _
 have r1 : w1.rangeAt w.heap.size 0 ct := by rw [hw1]; exact zu w _ _ _
 have s1 : w1.heap.size = w.heap.size + 1 := by rw [hw1]; exact zae _ _
 rw [← hw1]
 clear hw1
 refine hK _ _ (zd fun σ1 hσ => ?_)
 have a0 := hσ 0
 have a2 := hσ 2
 simp +decide only [bE, Nat.reduceBeqDiff, BEq.rfl, Nat.reduceAdd, Nat.zero_add, zbp] at a0 a2
 clear hσ hK K
 obtain ⟨bT, hbT⟩ : ∃ b, b = w.heap.size := ⟨_, rfl⟩
 rw [← hbT] at a2 r1
 have ht1 := RepA.stay m1 _ ht
 refine zat fun K hK => zf fun K1 hK1 => zq fun τ => ?_
 simp +decide only [bK, bE, Nat.reduceAdd, a2, zbm S.tr r1 ht.len]
 rw [zbb hZ.zzFits1.has]
 simp +decide only [bK, bE, BEq.rfl]
 refine (sp_fits1 B S hZ ht1 (fits_of hsz)).mono ?_
 rintro _ w2 ⟨rfl, m2⟩
 simp +decide only [bK]
 refine hK1 _ _ (zd fun σ2 hσ => ?_)
 have b0 := hσ 0
 have b2 := hσ 2
 have b4 := hσ 4
 simp +decide only [bE, Nat.reduceBeqDiff, BEq.rfl, Nat.reduceAdd, Nat.zero_add, a0, a2] at b0 b2 b4
 clear hσ hK1 K1 a0 a2
 refine W_if hlo b4 ?_
 simp only [Bool.not_true, Bool.false_eq_true, if_false]
 refine zbx (hK _ _ ?_)
 clear hK K b4
 have m02 := m1.trans' m2
 obtain ⟨v, hv⟩ : ∃ v : Nat, v = 0 := ⟨0, rfl⟩
 obtain ⟨fsM, htM, _⟩ := S.msg.out
 refine zat fun K hK => zq fun τ => ?_
 simp +decide only [bK, bE, Nat.reduceBeqDiff, BEq.rfl, Nat.reduceAdd, Nat.zero_add]
 rw [zjt Lw.md.has]
 refine (mk_msg S Lw.scb Lw.sco Lw.md w2).mono ?_
 rintro _ w4 ⟨fv, rfl, hfv, m4⟩
 have hcv := fun {w : World} => zay (P := P) (w := w) (k' := .u8) B.uint8 B.int (n := n) ⟨_, rfl⟩
 have hz : (IntKind.i64.wrap n).tmod 1 = (v : Int) := by rw [hv, Int.tmod_one]; rfl
 simp +decide only [bK, bE, Nat.reduceBeqDiff, BEq.rfl, b0, hcv, run_rem (show (1 : Int) ≠ 0 by decide), hz]
 obtain ⟨w5, w6, hal, hst, _, m46, s6, r6, _⟩ := zgo (cs := [fv, .int .i64 fl]) htM (by decide) rfl rfl (by
  intro c hc; simp at hc; rcases hc with rfl | rfl
  ·exact hfv.one
  ·rfl) w4
 simp +decide only [bK, hal, hst]
 refine hK _ _ (zd fun σ5 hσ => ?_)
 have e2 := hσ 2
 have e5 := hσ 5
 have e6 := hσ 6
 simp +decide only [bE, Nat.reduceBeqDiff, BEq.rfl, Nat.reduceAdd, b2] at e2 e5 e6
 clear hσ hK K b0 b2 hal hst
 obtain ⟨bM, hbM⟩ : ∃ b, b = w4.heap.size := ⟨_, rfl⟩
 rw [← hbM] at e5 r6
 have m06 := (m02.trans' m4).trans' m46
 have m16 := (m2.trans' m4).trans' m46
 have hf6 := hfv.stay m46
 have rT6 := zh m16 r1
 obtain ⟨g1, g2, g3⟩ := verB_at Lw.ver (v := v) (by omega)
 have hfl : (SC.flds sc).length < 1000 := by rw [SC.flds_len]; exact (ztc Lw.scb).2.2.2
 have hbl : (zei (zjx fl v) v (SC.flds sc) t).length ≤ K0 * szT t := zus Lw.okf hfl hwf
 have hK0 : K0 * szT t ≤ 40000 * 1048576 := Nat.mul_le_mul (Nat.le_refl _) hsz
 have hbl2 : (zei (zjx fl v) v (SC.flds sc) t).length < 549755813888 := by omega
 have hbd := fitP_bd (v := v) Lw.okf hfl (bdT_of t hwf hsz)
 have hi16 : IntKind.i16.wrap (v : Int) = v := zua (by omega)
 have hfx : zjx fl v = decide ((v : Int) ≥ m.fl) := by rw [g3, Bool.true_and]
 have hwr := msg_wrF (m := m) (t := t) g1
 rw [Bool.true_and, ← hfx] at hwr
 have md : Mod w6 w6.drew zw := Mod.drew _ _
 refine zat fun K hK => zks B.mixed [true, true, true, true, true, false, false, false, true, true, true, false, false, false] (by kernel_rfl) (fun w' => Mod w6 w' zw) md fun τ => ?_
 have hlM : bM < w6.heap.size := by omega
 have q8 : zht σ5 τ 106 = .int .i64 v := by rw [← e6]; exact envOf_var σ5 τ 6
 refine zn (.int .i64 v) (fun w' _ => by rw [zbw, ev_tmp, q8]) rfl ?_
 refine zn (.pointer (some ⟨bM, 0, none⟩)) (fun w' _ => zap (by simp +decide only [bE, Nat.reduceBeqDiff, Nat.reduceAdd, Nat.zero_add, ev_tmp, e5, S.m0.run])) rfl ?_
 refine zn fv (fun w' hw => zap (by
  have : w'.cell? ⟨bM, 0, none⟩ = some fv := zh hw r6 0 _ rfl
  simp +decide only [bE, BEq.rfl, ev_tmp, S.lf.run_load1 rfl, this, ldc_some])) rfl ?_
 refine zn (.int .i64 v) (fun w' _ => by
  rw [zbw, ev_tmp]
  simp +decide only [bE, Nat.reduceBeqDiff, Nat.reduceAdd, e6]) rfl ?_
 refine zn (.agg ct.toArray) (fun w' hw => zap (by
  simp +decide only [bE, Nat.reduceBeqDiff, Nat.reduceAdd, ev_tmp, e2]
  exact zbm S.tr (zh hw rT6) ht.len)) rfl ?_
 show zdx P _ _ ((_, false) :: (_, false) :: (_, false) :: _) _
 rw [zdx, zdx, zdx]
 refine zn (.agg [fv, .int .i64 fl].toArray) (fun w' hw => zap (by
  have hld := htM.run_load (w := w') (b := bM) (o := 0) (zh hw r6) rfl (fun h => by cases h)
  have hlv : ldv (.struct fsM) [fv, .int .i64 fl] = .agg [fv, .int .i64 fl].toArray := rfl
  rw [hlv] at hld
  simp +decide only [bE, Nat.reduceBeqDiff, Nat.reduceAdd, ev_tmp, e5, hld])) rfl ?_
 refine zn (.int .i64 v) (fun w' _ => by
  rw [zbw, ev_tmp]
  simp +decide only [bE, Nat.reduceBeqDiff, Nat.reduceAdd, e6]) rfl ?_
 refine zn (.agg ct.toArray) (fun w' hw => zap (by
  simp +decide only [bE, Nat.reduceBeqDiff, Nat.reduceAdd, ev_tmp, e2]
  exact zbm S.tr (zh hw rT6) ht.len)) rfl ?_
 simp only [zdx, dMakeV, zeo, List.zip_cons_cons, List.zip_nil_right, List.zipWith_cons_cons, List.zipWith_nil_right, List.filter, Bool.not_true, Bool.not_false, List.map, zgl]
 rw [zdu hL.fit.has]
 simp +decide only [bK, bE, Nat.reduceBeqDiff, BEq.rfl]
 refine (fitP_of B S hW hL hfl Lw.okf Lw.ofb w w6.drew fv t ct (m06.trans' md) (hf6.stay md) ht).mono ?_
 rintro _ w7 ⟨c7, rfl, hr7, m7⟩
 have m67 := md.trans' m7
 refine ⟨m67, ?_⟩
 rw [zbb G.given.has]
 simp +decide only [bK, bE, BEq.rfl]
 have s7 := m7.size
 have s06 := m06.size
 refine (zsm B S hI G hgv (zqh _ hbd) (fun k hk => by
  rcases hk with hk | hk
  ·have hk : k < w.heap.size := hk
   have : w6.drew.heap.size = w6.heap.size := rfl
   omega
  ·exact hk.2) hr7).mono ?_
 rintro _ w8 ⟨c8, rfl, hr8, m8⟩
 have m68 := m67.trans' m8
 refine ⟨m68, ?_⟩
 rw [zaj Lw.D.door.has]
 simp +decide only [bK, bE, Nat.reduceBeqDiff, BEq.rfl]
 refine (zxi B F S hI T G C Lw.D (n := v) hr8 hbd (by rw [hi16]; omega) (by rw [hi16, ← hfx, hwr, List.length_append, zea]; omega)).mono ?_
 rintro v9 w9 ⟨ho9, m9⟩
 rw [hi16, ← hfx, hwr] at ho9
 have m69 := m68.trans' m9
 refine ⟨m69, ?_⟩
 rw [zdu Lw.kp.has]
 simp +decide only [bK, bE, Nat.reduceBeqDiff, BEq.rfl]
 refine (sp_Kept B S hW Lw.kp hfl Lw.okf (hf6.stay m69) (RepA.stay (m06.trans' m69) _ ht) hwf hbl2).mono ?_
 rintro r w10 ⟨ho10, m10⟩
 have m610 := m69.trans' m10
 refine ⟨m610, ?_⟩
 rw [zaj (F.spec_Same hN).has]
 simp +decide only [bK, bE, Nat.reduceBeqDiff, BEq.rfl]
 refine (zsn B F hN (ho9.stay m10) ho10.octA (by rw [List.length_append, zea]; omega)).mono ?_
 rintro _ w11 ⟨rfl, m11⟩
 have m611 := m610.trans' m11
 refine ⟨m611, ?_⟩
 refine zd (K := fun σ' w' => zgt K _ .normal σ' w') fun σ9 hσ => hK _ _ ?_
 have q3 := hσ 3
 simp +decide only [bE, BEq.rfl, Nat.reduceAdd] at q3
 exact zat fun K2 hK2 => zbk ⟨.inr rfl, _, rfl, q3, m06.trans' m611⟩
end
section
end
end Go.Kf
