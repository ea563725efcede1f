/- A part of the calculus by which the claim's proof goes: over any program and any numbering of its functions; no condition beyond those that each theorem names. -/
import Derived.Laws.IdiomStrings
import Derived.Laws.MakeOwn
import Derived.Maps.RangeRun
import Derived.Shelf.GgSortFunc.Whole
import Derived.Shelf.GgSortFunc.Tiny
import Derived.Sort.LotA
import Derived.Test.YtfgfenphgeffgaaDoorKc
set_option linter.unusedSimpArgs false
set_option linter.unusedVariables false

/- Trees that are copied: all. -/
namespace Go.Kf
open Go Go.RowKit

section
variable {P : Program} {N : Nums}

theorem UsG.mono {w : World} {G G' : Nat → Prop} (hG : ∀ k, G k → G' k) : ∀ {u : List (Nat × List UInt8)} {cs : List Value}, UsG w G u cs → UsG w G' u cs
  | [], _, hu => hu
  | (k, l) :: r, _, ⟨v, rest, h1, h2, h3⟩ => ⟨v, rest, h1, h2.imp (fun x => ⟨x.1, x.2.mono hG⟩) (fun x => x.mono hG), UsG.mono hG h3⟩
theorem RepU.mono {w : World} {G G' : Nat → Prop} (hG : ∀ k, G k → G' k) {v : Value} {u : List (Nat × List UInt8)} (hu : RepU w G v u) : RepU w G' v u :=
  hu.imp id fun ⟨b, c, cs, h1, h2, h3, h4, h5⟩ => ⟨b, c, cs, h1, h2, fun h => hG b (h3 h), h4.mono hG, h5⟩
mutual
theorem RepT.mono {w : World} {G G' : Nat → Prop} (hG : ∀ k, G k → G' k) : ∀ (t : Tr) {cs : List Value}, RepT w G t cs → RepT w G' t cs
  | .mk n s nl l u, _, ⟨vs, vl, vu, h1, h2, h3, h4⟩ => ⟨vs, vl, vu, h1, h2.imp (fun x => ⟨x.1, x.2.mono hG⟩) (fun x => x.mono hG), h3.imp id fun ⟨b, c, css, g1, g2, g3, g4, g5⟩ => ⟨b, c, css, g1, g2, fun h => hG b (g3 h), RepTs.mono hG l g4, g5⟩, h4.mono hG⟩
theorem RepTs.mono {w : World} {G G' : Nat → Prop} (hG : ∀ k, G k → G' k) : ∀ (l : List Tr) {css : List (List Value)}, RepTs w G l css → RepTs w G' l css
  | [], _, hr => hr
  | t :: l, _, ⟨c, r, h1, h2, h3⟩ => ⟨c, r, h1, RepT.mono hG t h2, RepTs.mono hG l h3⟩
end

theorem treeBuild {tt tg lt lg : TypeId} (h : TreeT P N tt tg lt lg) (w : World) {n vs nl : Value} (h0 : n.oneCell' = true) (h1 : vs.oneCell' = true) (h2 : nl.oneCell' = true) : (Instr.build tt #[(0, n), (1, vs), (2, nl)]).run P w = .ok (.agg [n, vs, nl, .slice none 0 0, .slice none 0 0].toArray) w :=
  h.tree.run_build (by simp [Instr.fill, cells_one h0, cells_one h1, cells_one h2])

theorem got_step (B : Base P N) (F : Fns P N) (hN : N.f_got ≠ 0) (hS : TreeT P N N.t_spec_Tree N.t_spec_Tag N.t_Lspec_Tree N.t_Lspec_Tag) (hI : TreeT P N N.t_Tree N.t_Tag N.t_LTree N.t_LTag)
    {n : Int} {s : List UInt8} {nl : Bool} {l : List Tr} {u : List (Nat × List UInt8)} (hll : l.length < 1099511627776) (hul : u.length < 1099511627776) (ih : ∀ x ∈ l, GT P N x) : GT P N (.mk n s nl l u) := by
  intro w G cs hG hrep
  simp only [RepT] at hrep
  obtain ⟨vs, vl, vu, rfl, a1, a2, a3⟩ := hrep
  obtain ⟨fs, hI1⟩ := hI.ti
  obtain ⟨fs', hS1⟩ := hS.ti
  have e2 : vl.oneCell' = true := by rcases a2 with ⟨rfl, _⟩ | ⟨b, c, css, rfl, _⟩ <;> rfl
  have e3 : vu.oneCell' = true := by rcases a3 with ⟨rfl, _⟩ | ⟨b, c, css, rfl, _⟩ <;> rfl
  refine (F.got hN).call rfl fun loc N' hlo => ?_
  unfold c_got
  -- the box, and what is handed back
  refine W_seq' fun K hK => W_ops fun τ => ?_
  simp (decide := true) only [runR, step_alloc, step_box, run_box, stepV_ok, ev_tmp, envOf_var, Nat.reduceAdd, Nat.zero_add, argEnv1_0, hS1.run_alloc]
  obtain ⟨w1, hw1⟩ : ∃ w1, w1 = w.alloc (.cells (Value.cells (.agg [.int .i64 n, vs, .bool nl, vl, vu].toArray)) N.t_Tree) := ⟨_, rfl⟩
  have m1 : Mod w w1 none' := by rw [hw1]; exact Mod.alloc _ _ _
  have s1 : w1.heap.size = w.heap.size + 1 := by rw [hw1]; exact alloc_size _ _
  have r1 : w1.rangeAt w.heap.size 0 [.int .i64 n, vs, .bool nl, vl, vu] := by rw [hw1]; exact rangeAt_alloc w _ _ _
  rw [← hw1]
  clear hw1
  obtain ⟨w2, hw2⟩ : ∃ w2, w2 = w1.alloc (.cells (Value.cells (.agg zT.toArray)) N.t_spec_Tree) := ⟨_, rfl⟩
  have m2 : Mod w1 w2 none' := by rw [hw2]; exact Mod.alloc _ _ _
  have s2 : w2.heap.size = w1.heap.size + 1 := by rw [hw2]; exact alloc_size _ _
  have r2 : w2.rangeAt w1.heap.size 0 zT := by rw [hw2]; exact rangeAt_alloc w1 _ _ _
  have t2 : w2.there w1.heap.size 0 5 := by rw [hw2]; exact there_alloc w1 _ _
  rw [← hw2]
  clear hw2
  have m02 : Mod w w2 none' := m1.trans' m2
  obtain ⟨b1, hb1⟩ : ∃ b, b = w.heap.size := ⟨_, rfl⟩
  obtain ⟨bR, hbR⟩ : ∃ b, b = w1.heap.size := ⟨_, rfl⟩
  obtain ⟨b3, hb3⟩ : ∃ b, b = w2.heap.size := ⟨_, rfl⟩
  rw [← hb1] at r1 ⊢
  rw [← hbR] at r2 t2 ⊢
  have r1' := rangeAt_stay m2 r1
  refine hK _ _ (gen_locs fun σ hσ => ?_)
  have f1 := hσ 1
  have f2 := hσ 2
  simp (decide := true) only [put_at, sel_true, sel_false, Nat.reduceBeqDiff, BEq.rfl, Nat.reduceAdd] at f1 f2
  clear hσ hK K r1 m1 m2
  have x0 : w2.cell? ⟨b1, 0, none⟩ = some (.int .i64 n) := r1' 0 _ rfl
  have x1 : w2.cell? ⟨b1, 1, none⟩ = some vs := r1' 1 _ rfl
  have x2 : w2.cell? ⟨b1, 2, none⟩ = some (.bool nl) := r1' 2 _ rfl
  -- the copy is begun
  have hbu := treeBuild hS w2 (n := .int .i64 n) (vs := vs) (nl := .bool nl) rfl a1.one rfl
  have e6 : ∀ ρ : Env, (#[(0, T 1), (1, T 3), (2, T 5)] : Array (Nat × Operand)).map (fun p => (p.1, ev ρ p.2)) = #[(0, ρ 1), (1, ρ 3), (2, ρ 5)] := fun ρ => by simp
  obtain ⟨w3, hst, m3, s3, r3, t3⟩ := new_struct (z := zT) hS1 w2 [.int .i64 n, vs, .bool nl, .slice none 0 0, .slice none 0 0] rfl (fun c hc => by
    simp at hc; rcases hc with rfl | rfl | rfl | rfl
    · rfl
    · exact a1.one
    · rfl
    · rfl)
  rw [← hb3] at r3 t3 hst
  refine W_seq' fun K hK => W_ops fun τ => ?_
  simp (decide := true) only [runR, step_alloc, step_build, step_load, step_store, step_fieldAddr, stepV_ok, stepU_ok, ev_tmp, put_at, envOf_var, sel_true, sel_false, Nat.reduceBeqDiff, BEq.rfl, ldc_some, Nat.reduceAdd, Nat.add_zero, Nat.zero_add, f1, hI.h0.run, hI.h1.run, hI.h2.run, B.int64.run_load1 rfl, B.Lu8.run_load1 rfl, B.bool.run_load1 rfl, x0, x1, x2, e6, hbu, hS1.run_alloc, ← hb3, hst]
  refine hK _ _ (gen_locs fun σ3 hσ => ?_)
  have g1 := hσ 1
  have g2 := hσ 2
  have g3 := hσ 3
  simp (decide := true) only [put_at, envOf_var, sel_true, sel_false, Nat.reduceBeqDiff, BEq.rfl, Nat.reduceAdd, f1, f2] at g1 g2 g3
  clear hσ hK K hst hbu
  have r13 := rangeAt_stay m3 r1'
  have y3 : w3.cell? ⟨b1, 3, none⟩ = some vl := r13 3 _ rfl
  have hl1 : (vl = .slice none 0 0 ∧ l.length = 0) ∨ ∃ b c, vl = .slice (some ⟨b, 0, none⟩) l.length c := a2.imp (fun h => ⟨h.1, by rw [h.2]; rfl⟩) fun ⟨b, c, _, h, _⟩ => ⟨b, c, h⟩
  have hu1 : (vu = .slice none 0 0 ∧ u.length = 0) ∨ ∃ b c, vu = .slice (some ⟨b, 0, none⟩) u.length c := a3.imp (fun h => ⟨h.1, by rw [h.2]; rfl⟩) fun ⟨b, c, _, h, _⟩ => ⟨b, c, h⟩
  have m03 : Mod w w3 none' := m02.trans' m3
  have hGb : ∀ k, G k → k < b3 := fun k hk => by have := hG k hk; omega
  -- the list
  refine W_seq' fun K hK => W_seq' fun K1 hK1 => W_ops fun τ => ?_
  simp (decide := true) only [runR, step_move, step_load, step_fieldAddr, step_len, stepV_ok, ev_tmp, ev_const, put_at, envOf_var, sel_true, BEq.rfl, ldc_some, Nat.reduceAdd, Nat.zero_add, g1, hI.h3.run, hI.lt.run_load1 rfl, y3, len_of hI.lt hl1]
  refine hK1 _ _ (gen_locs fun σ4 hσ => ?_)
  have p1 := hσ 1
  have p2 := hσ 2
  have p3 := hσ 3
  have p4 := hσ 4
  have p5 := hσ 5
  have p6 := hσ 6
  simp (decide := true) only [put_at, envOf_var, sel_true, sel_false, Nat.reduceBeqDiff, BEq.rfl, Nat.reduceAdd, g1, g2, g3] at p1 p2 p3 p4 p5 p6
  clear hσ hK1 K1
  refine W_cRange (i := 6) (l := 5) (c := 7) (k := 0) hlo (L := l.length) (by omega) (G1 w3 b1 bR b3 (.int .i64 n) vs (.bool nl) vl l G) (fun j σ w h => ⟨h.f6, h.f5, h.le⟩) (fun j σ w b h => ?_) ?_ (fun σ5 w5 h => hK _ _ ?_) (fun j σ' w' hj h => ?_)
  · exact ⟨by rw [upd_ne (by decide)]; exact h.f1, by rw [upd_ne (by decide)]; exact h.f2, by rw [upd_ne (by decide)]; exact h.f3, by rw [upd_ne (by decide)]; exact h.f4, by rw [upd_ne (by decide)]; exact h.f5, by rw [upd_ne (by decide)]; exact h.f6, h.le, h.mod, h.ex⟩
  · exact ⟨p1, p2, p3, p4, p5, p6, Nat.zero_le _, .refl _ _, .slice none 0 0, [], r3, t3, .inl ⟨rfl, rfl, rfl⟩, by simp only [List.take_zero, RepTs]⟩
  · -- the tags
    clear hK K
    obtain ⟨h1, h2, h3, _, _, _, _, hmod, v1, css, hr5, ht5, ho5, hrep5⟩ := h
    rw [List.take_length] at hrep5
    have m05 : Mod w w5 none' := m03.fresh hmod fun k o e => by have : k = b3 := e; omega
    have s5 := hmod.size
    have y4 : w5.cell? ⟨b1, 4, none⟩ = some vu := by
      rw [hmod.cell _ _ (by omega) (fun h => by have : b1 = b3 := h; omega)]; exact r13 4 _ rfl
    refine W_seq' fun K hK => W_seq' fun K1 hK1 => W_ops fun τ => ?_
    simp (decide := true) only [runR, step_move, step_load, step_fieldAddr, step_len, stepV_ok, ev_tmp, ev_const, put_at, envOf_var, sel_true, BEq.rfl, ldc_some, Nat.reduceAdd, Nat.zero_add, h1, hI.h4.run, hI.lg.run_load1 rfl, y4, len_of hI.lg hu1]
    refine hK1 _ _ (gen_locs fun σ6 hσ => ?_)
    have q2 := hσ 2
    have q3 := hσ 3
    have q9 := hσ 9
    have q10 := hσ 10
    have q11 := hσ 11
    simp (decide := true) only [put_at, envOf_var, sel_true, sel_false, Nat.reduceBeqDiff, BEq.rfl, Nat.reduceAdd, h2, h3] at q2 q3 q9 q10 q11
    clear hσ hK1 K1
    refine W_cRange (i := 11) (l := 10) (c := 12) (k := 2) hlo (L := u.length) (by omega) (G2 w5 bR b3 (.int .i64 n) vs (.bool nl) v1 vu u G) (fun j σ w h => ⟨h.f11, h.f10, h.le⟩) (fun j σ w b h => ?_) ?_ (fun σ7 w7 h => hK _ _ ?_) (fun j σ' w' hj h => ?_)
    · exact ⟨by rw [upd_ne (by decide)]; exact h.f2, by rw [upd_ne (by decide)]; exact h.f3, by rw [upd_ne (by decide)]; exact h.f9, by rw [upd_ne (by decide)]; exact h.f10, by rw [upd_ne (by decide)]; exact h.f11, h.le, h.mod, h.ex⟩
    · exact ⟨q2, q3, q9, q10, q11, Nat.zero_le _, .refl _ _, .slice none 0 0, [], hr5, ht5, .inl ⟨rfl, rfl, rfl⟩, by simp only [List.take_zero, UsG]⟩
    · -- the end
      clear hK K
      obtain ⟨k2, k3, _, _, _, _, hmod7, v2, cs2, hr7, ht7, ho7, hrep7⟩ := h
      rw [List.take_length] at hrep7
      have s7 := hmod7.size
      have m07 : Mod w w7 none' := m05.fresh hmod7 fun k o e => by have : k = b3 := e; omega
      have hld := hS1.run_load (w := w7) (b := b3) (o := 0) hr7 rfl (fun h => by cases h)
      have hlv : ∀ (f : Array Field) (x : List Value), ldv (.struct f) x = .agg x.toArray := fun _ _ => rfl
      have ones : ∀ c ∈ [Value.int .i64 n, vs, .bool nl, v1, v2], c.oneCell' = true := fun c hc => by
        simp at hc; rcases hc with rfl | rfl | rfl | rfl | rfl
        · rfl
        · exact a1.one
        · rfl
        · exact ho5.one
        · exact ho7.one
      have m27 : Mod w2 w7 (blk b3) := (m3.mono fun _ _ _ h => h.elim).trans' (hmod.trans' hmod7)
      have rR : w7.rangeAt bR 0 zT := m27.rangeAt (by omega) (fun _ _ _ e => by have : bR = b3 := e; omega) r2
      have tR : w7.there bR 0 5 := m27.there (by omega) t2
      have hst := hS1.run_store (w := w7) (b := bR) (o := 0) (v := .agg [Value.int .i64 n, vs, .bool nl, v1, v2].toArray) (cs := [Value.int .i64 n, vs, .bool nl, v1, v2]) rfl rfl tR ones
      refine W_seq' fun K hK => W_ops fun τ => ?_
      simp (decide := true) only [runR, step_load, step_store, stepV_ok, stepU_ok, ev_tmp, put_at, envOf_var, sel_true, sel_false, Nat.reduceBeqDiff, BEq.rfl, Nat.reduceAdd, k2, k3, hld, hlv, hst]
      obtain ⟨w8, hw8⟩ : ∃ w8, w8 = w7.setCells bR 0 [Value.int .i64 n, vs, .bool nl, v1, v2] := ⟨_, rfl⟩
      have m8 : Mod w7 w8 (blk bR) := by rw [hw8]; exact Mod.setCells _ 0 _ fun _ _ _ _ => rfl
      have r8 : w8.rangeAt bR 0 [Value.int .i64 n, vs, .bool nl, v1, v2] := by
        have := rangeAt_setCells [Value.int .i64 n, vs, .bool nl, v1, v2] 0 w7 _ rR (by simp [zT])
        rw [hw8]; simpa [zT] using this
      have s8 : w8.heap.size = w7.heap.size := by rw [hw8]; exact setCells_size _ _ _
      rw [← hw8]
      clear hw8 hst hld
      have m08 : Mod w w8 none' := m07.fresh m8 fun k o e => by have : k = bR := e; omega
      refine hK _ _ (gen_locs fun σ8 hσ => W_ret ⟨.inr rfl, .agg [Value.int .i64 n, vs, .bool nl, v1, v2].toArray, ⟨⟨bR, 0, none⟩, ?_, ?_⟩, [Value.int .i64 n, vs, .bool nl, v1, v2], rfl, ?_, m08⟩)
      · have := hσ 2
        simp (decide := true) only [put_at, envOf_var, sel_false, Nat.reduceBeqDiff, Nat.reduceAdd, k2] at this
        exact this
      · have hl2 := hS1.run_load (w := w8) (b := bR) (o := 0) r8 rfl (fun h => by cases h)
        simpa [Instr.loadAt, Instr.sureAddr, Sem.run_bind, hlv] using hl2
      · -- it is the same tree
        have hl8 : RepTs w8 (GN G w.heap.size w8.heap.size) l css ∧ w8.rangeAt b3 0 [] := by
          refine ⟨?_, fun j v hj => by simp at hj⟩
          have h7 : RepTs w7 (GX G w3.heap.size w5 v1) l css := by
            refine RepTs.mod hmod7 (fun k hk => ⟨?_, fun o e => ?_, hk⟩) l hrep5
            · rcases hk with hk | hk
              · have := hGb k hk; omega
              · exact hk.2.1
            · have e : k = b3 := e
              rcases hk with hk | hk
              · have := hGb k hk; omega
              · have := hk.1; omega
          refine RepTs.mod m8 (fun k hk => ⟨?_, fun o e => ?_, ?_⟩) l h7
          · rcases hk with hk | hk
            · have := hGb k hk; omega
            · have := hk.2.1; omega
          · have e : k = bR := e
            rcases hk with hk | hk
            · have := hG k hk; omega
            · have := hk.1; omega
          · rcases hk with hk | hk
            · exact .inl hk
            · exact .inr ⟨by have := hk.1; omega, by have := hk.2.1; omega⟩
        have keep : ∀ {b : Nat} {cs : List Value}, w3.heap.size ≤ b → b < w7.heap.size → w7.rangeAt b 0 cs → w8.rangeAt b 0 cs := fun h1 h2 hr => m8.rangeAt h2 (fun _ _ _ e => by have e : _ = bR := e; omega) hr
        simp only [RepT]
        refine ⟨vs, v1, v2, rfl, a1.mod m08 fun k hk => ⟨hG k hk, fun _ h => h, .inl hk⟩, ?_, ?_⟩
        · rcases ho5 with ⟨e1, e2, e3⟩ | ⟨b, c, e1, c1, c2, c3, c4, c5, c6⟩
          · exact .inl ⟨e1, List.length_eq_zero_iff.1 e2⟩
          · refine .inr ⟨b, c, css, e1, c3, fun _ => .inr ⟨by omega, by omega⟩, hl8.1, keep c1 (by omega) (hmod7.rangeAt c2 (fun _ _ _ e => by have e : b = b3 := e; omega) c5)⟩
        · rcases ho7 with ⟨e1, e2, e3⟩ | ⟨b, c, e1, c1, c2, c3, c4, c5, c6⟩
          · exact .inl ⟨e1, List.length_eq_zero_iff.1 e2⟩
          · refine .inr ⟨b, c, cs2, e1, c3, fun _ => .inr ⟨by omega, by omega⟩, hrep7.mod m8 fun k hk => ⟨?_, fun o e => ?_, ?_⟩, keep (by omega) (by omega) c5⟩
            · rcases hk with hk | hk
              · have := hGb k hk; omega
              · have := hk.2.1; omega
            · have e : k = bR := e
              rcases hk with hk | hk
              · have := hG k hk; omega
              · have := hk.1; omega
            · rcases hk with hk | hk
              · exact .inl hk
              · exact .inr ⟨by have := hk.1; omega, by have := hk.2.1; omega⟩
    · refine got_tag B hS hI hj hul (by omega) hGb h (a3.mod m05 fun k hk => ⟨hG k hk, fun _ h => h, hk⟩) fun σ' w' h1 h2 => ⟨h1, h2⟩
  · have hsrc : ∃ b c css, vl = .slice (some ⟨b, 0, none⟩) l.length c ∧ G b ∧ RepTs w3 G l css ∧ w3.rangeAt b 0 css.flatten := by
      rcases a2 with ⟨_, h0⟩ | ⟨b, c, css, h1, h2, h3, h4, h5⟩
      · rw [h0] at hj; simp at hj
      · exact ⟨b, c, css, h1, h3 (by intro e; rw [e] at hj; simp at hj), RepTs.mod m03 (fun k hk => ⟨hG k hk, fun _ h => h, hk⟩) l h4, rangeAt_stay m03 h5⟩
    exact got_elem B F hN hS hI hj hll (by omega) hGb h hsrc ih fun σ' w' h1 h2 => ⟨h1, h2⟩

/-- All lists in it are short. -/
def shortT : Tr → Prop
  | .mk _ _ _ l u => l.length < 1099511627776 ∧ u.length < 1099511627776
mutual
def okS : Tr → Prop
  | .mk n s nl l u => shortT (.mk n s nl l u) ∧ okSs l
def okSs : List Tr → Prop
  | [] => True
  | t :: l => okS t ∧ okSs l
end
mutual
theorem gotT (B : Base P N) (F : Fns P N) (hN : N.f_got ≠ 0) (hS : TreeT P N N.t_spec_Tree N.t_spec_Tag N.t_Lspec_Tree N.t_Lspec_Tag) (hI : TreeT P N N.t_Tree N.t_Tag N.t_LTree N.t_LTag) : ∀ (t : Tr), okS t → GT P N t
  | .mk n s nl l u, h => got_step B F hN hS hI h.1.1 h.1.2 (gotTs B F hN hS hI l h.2)
theorem gotTs (B : Base P N) (F : Fns P N) (hN : N.f_got ≠ 0) (hS : TreeT P N N.t_spec_Tree N.t_spec_Tag N.t_Lspec_Tree N.t_Lspec_Tag) (hI : TreeT P N N.t_Tree N.t_Tag N.t_LTree N.t_LTag) : ∀ (l : List Tr), okSs l → ∀ x ∈ l, GT P N x
  | [], _, x, hx => by simp at hx
  | t :: l, h, x, hx => by
    rcases List.mem_cons.1 hx with e | hx
    · rw [e]; exact gotT B F hN hS hI t h.1
    · exact gotTs B F hN hS hI l h.2 x hx
end
end
end Go.Kf

/- What is told of texts, octets and bools. -/
namespace Go.Kf
open Go Go.RowKit

/-- New blocks. -/
def NB (a b : Nat) : Nat → Prop := fun k => a ≤ k ∧ k < b

section
variable {P : Program} {N : Nums}

theorem run_append0 {st ty et : TypeId} {a b sz by' : Nat} {z z' : Value} {d : TypeDesc} (hS : TI P st (.slice et) a b z') (ht : TI P et d sz by' z) {w : World} {ad : Option Addr} {c : Nat} :
    (Builtin.append_ #[st, st] ty #[.slice none 0 0, .slice ad 0 c]).run P w = .ok (.slice none 0 0) w := by
  obtain ⟨i, hi, _, _, _⟩ := ht.info
  cases ad with
  | none => simp [Builtin.append_, run_underlying hS.und, sizeOf, typeInfo, hi, Builtin.lenOf, Builtin.firstCells]
  | some a =>
    have : (loadCells a 0).run P w = .ok #[] w := by
      have := run_loadCells_list (P := P) w a [] (fun j v hj => by simp at hj)
      simpa using this
    simp [Builtin.append_, run_underlying hS.und, sizeOf, typeInfo, hi, Builtin.lenOf, Builtin.firstCells, this]

theorem byteV_ones (l : List UInt8) : ∀ c ∈ l.map byteV, c.oneCell' = true := fun c hc => by
  obtain ⟨x, _, rfl⟩ := List.mem_map.1 hc
  rfl

/-- Octets are copied. -/
theorem run_copyOct (B : Base P N) {w : World} {G : Nat → Prop} {v : Value} {l : List UInt8} {ty : TypeId} (h : tagV w G v l) (hl : l.length < 1099511627776) :
    ∃ v' w', (Builtin.append_ #[N.t_Luint8, N.t_Luint8] ty #[.slice none 0 0, v]).run P w = .ok v' w' ∧ tagV w' (NB w.heap.size w'.heap.size) v' l ∧ Mod w w' none' := by
  have empty : ∀ {ad : Option Addr} {c : Nat}, v = .slice ad 0 c → l = [] → ∃ v' w', (Builtin.append_ #[N.t_Luint8, N.t_Luint8] ty #[.slice none 0 0, v]).run P w = .ok v' w' ∧ tagV w' (NB w.heap.size w'.heap.size) v' l ∧ Mod w w' none' := by
    intro ad c e1 e2
    subst e1 e2
    exact ⟨_, _, run_append0 B.Lu8 B.uint8, .inl ⟨rfl, rfl⟩, .refl _ _⟩
  rcases h with ⟨e, h⟩ | ⟨b, o, c, e, h1, h2, h3⟩
  · exact empty h e
  · cases l with
    | nil => exact empty e rfl
    | cons x l =>
      obtain ⟨i, hi, hsz, hbytes, hzero⟩ := B.uint8.info
      have hsrc : Src P i.size N.t_Luint8 v (x :: l).length ((x :: l).map byteV) w := by
        rw [e]
        exact Src.ofSlice w B.Lu8.und ⟨b, o, none⟩ _ c _ (by rw [hsz]; simp) (fun j u hj => by rw [Addr.add_mid]; exact h3 j u hj) (byteV_ones _)
      have hfit : Builtin.nextslicecap (0 + (x :: l).length) 0 * i.bytes ≤ 281474976710656 := by
        have := nextslicecap_le (show 0 < 0 + (x :: l).length by simp)
        rw [hbytes]; omega
      have hrun := run_append_grow_src (P := P) w N.t_Luint8 N.t_Luint8 ty N.t_uint8 i _ B.Lu8.und hi hzero none 0 0 [] rfl v _ _ hsrc (by simp) (by omega) hfit
      refine ⟨_, _, hrun, .inr ⟨w.heap.size, 0, _, by rw [Nat.zero_add], by exact grownCap_ge w (x :: l).length 0 N.t_uint8, fun _ => ⟨Nat.le_refl _, by rw [alloc_size]; exact Nat.lt_succ_self _⟩, ?_⟩, (Mod.drew w _).trans' (Mod.alloc _ _ _)⟩
      have hr := rangeAt_alloc w.drew (([] ++ (x :: l).map byteV).toArray ++ Builtin.zeroCells (Value.cells (.int .u8 0)) (grownCap w (0 + (x :: l).length) 0 N.t_uint8 - (0 + (x :: l).length))) N.t_uint8 (0, 0)
      exact (rangeAt_append.1 (by simpa using hr)).1

/-- A text's octets. -/
theorem run_strOct (B : Base P N) (w : World) (l : List UInt8) : ∃ v' w', (convert N.t_string N.t_Luint8 (strV l)).run P w = .ok v' w' ∧ tagV w' (NB w.heap.size w'.heap.size) v' l ∧ Mod w w' none' := by
  have h := run_bytes_of_string (P := P) w N.t_string N.t_Luint8 N.t_uint8 ⟨l.toArray⟩ B.string.und B.Lu8.und B.uint8.und
  have hs : (⟨l.toArray⟩ : ByteArray).size = l.length := by simp [ByteArray.size]
  refine ⟨_, _, h, .inr ⟨w.heap.size, 0, _, by rw [hs], ?_, fun _ => ⟨Nat.le_refl _, by rw [alloc_size]; exact Nat.lt_succ_self _⟩, ?_⟩, (Mod.drew w _).trans' (Mod.alloc _ _ _)⟩
  · rw [← hs]; exact grownCap_ge _ _ _ _
  · have hr := rangeAt_alloc w.drew (bytesRow ⟨l.toArray⟩ (grownCap w (⟨l.toArray⟩ : ByteArray).size 0 N.t_uint8)) N.t_uint8 ((bytesRow ⟨l.toArray⟩ (grownCap w (⟨l.toArray⟩ : ByteArray).size 0 N.t_uint8)).size, (bytesRow ⟨l.toArray⟩ (grownCap w (⟨l.toArray⟩ : ByteArray).size 0 N.t_uint8)).size + 1)
    have e : (bytesRow ⟨l.toArray⟩ (grownCap w (⟨l.toArray⟩ : ByteArray).size 0 N.t_uint8)).toList = l.map byteV ++ List.replicate (grownCap w (⟨l.toArray⟩ : ByteArray).size 0 N.t_uint8 - (⟨l.toArray⟩ : ByteArray).size) (.int .u8 0) := by
      simp [bytesRow, byteV]
    rw [e] at hr
    exact (rangeAt_append.1 hr).1

/-- A tree of no parts. -/
def leafT (n : Int) (s : List UInt8) (nl : Bool) : Tr := .mk n s nl [] []

theorem leaf_rep {w : World} {G : Nat → Prop} {n : Int} {s : List UInt8} {nl : Bool} {v : Value} (h : tagV w G v s) : RepT w G (leafT n s nl) [.int .i64 n, v, .bool nl, .slice none 0 0, .slice none 0 0] := by
  simp only [leafT, RepT]
  exact ⟨v, _, _, rfl, h, .inl ⟨rfl, trivial⟩, .inl ⟨rfl, rfl⟩⟩
theorem tagV_nil {w : World} {G : Nat → Prop} : tagV w G (.slice none 0 0) [] := .inl ⟨rfl, rfl⟩

/-- What a call that tells a thing comes to. -/
def Told (w : World) (t : Tr) (v : Value) (w' : World) : Prop := ∃ cs, v = .agg cs.toArray ∧ RepT w' (NB w.heap.size w'.heap.size) t cs ∧ Mod w w' none'

theorem ret_tree {tt tg lt lg : TypeId} (hT : TreeT P N tt tg lt lg) {w1 : World} {b : Nat} {cs : List Value} (hr : w1.rangeAt b 0 cs) (hl : cs.length = 5) : (loadVar tt ⟨b, 0, none⟩).run P w1 = .ok (.agg cs.toArray) w1 := by
  obtain ⟨fs, h⟩ := hT.ti
  have hlv : ∀ (f : Array Field) (x : List Value), ldv (.struct f) x = .agg x.toArray := fun _ _ => rfl
  have hl2 := h.run_load (w := w1) (b := b) (o := 0) hr hl (fun h => by cases h)
  simpa [Instr.loadAt, Instr.sureAddr, Sem.run_bind, hlv] using hl2

/-- The result is stored. -/
theorem put_tree {tt tg lt lg : TypeId} (hT : TreeT P N tt tg lt lg) {w : World} {b : Nat} {old cs : List Value} (hr : w.rangeAt b 0 old) (ho : old.length = 5) (ht : w.there b 0 5) (hl : cs.length = 5) (h1 : ∀ c ∈ cs, c.oneCell' = true) :
    ∃ w', (Instr.storeAt tt (.pointer (some ⟨b, 0, none⟩)) (.agg cs.toArray)).run P w = .ok () w' ∧ Mod w w' (blk b) ∧ w'.heap.size = w.heap.size ∧ w'.rangeAt b 0 cs ∧ w'.there b 0 5 := by
  obtain ⟨fs, h⟩ := hT.ti
  have m : Mod w (w.setCells b 0 cs) (blk b) := Mod.setCells cs 0 w fun _ _ _ _ => rfl
  refine ⟨_, h.run_store (w := w) (b := b) (o := 0) (v := .agg cs.toArray) (cs := cs) rfl hl ht h1, m, setCells_size _ _ _, ?_, m.there (there_lt ht (by decide)) ht⟩
  have := rangeAt_setCells cs 0 w _ hr (by omega)
  rwa [List.drop_of_length_le (by omega), List.append_nil] at this

theorem leaf_ones {n : Int} {v : Value} {nl : Bool} (h : v.oneCell' = true) : ∀ c ∈ [Value.int .i64 n, v, .bool nl, .slice none 0 0, .slice none 0 0], c.oneCell' = true := fun c hc => by
  simp at hc
  rcases hc with rfl | rfl | rfl | rfl
  · rfl
  · exact h
  · rfl
  · rfl

theorem build0 {tt tg lt lg : TypeId} (hT : TreeT P N tt tg lt lg) (w : World) : (Instr.build tt #[]).run P w = .ok (.agg zT.toArray) w :=
  hT.tree.run_build (by simp [Instr.fill, zT])
theorem buildN {tt tg lt lg : TypeId} (hT : TreeT P N tt tg lt lg) (w : World) (n : Int) : (Instr.build tt #[(0, .int .i64 n)]).run P w = .ok (.agg [.int .i64 n, .slice none 0 0, .bool false, .slice none 0 0, .slice none 0 0].toArray) w :=
  hT.tree.run_build (by simp [Instr.fill, cells_one (show (Value.int .i64 n).oneCell' = true from rfl)])
theorem buildS {tt tg lt lg : TypeId} (hT : TreeT P N tt tg lt lg) (w : World) {v : Value} (h : v.oneCell' = true) : (Instr.build tt #[(1, v)]).run P w = .ok (.agg [.int .i64 0, v, .bool false, .slice none 0 0, .slice none 0 0].toArray) w :=
  hT.tree.run_build (by simp [Instr.fill, cells_one h])
theorem buildB {tt tg lt lg : TypeId} (hT : TreeT P N tt tg lt lg) (w : World) (b : Bool) : (Instr.build tt #[(2, .bool b)]).run P w = .ok (.agg [.int .i64 0, .slice none 0 0, .bool b, .slice none 0 0, .slice none 0 0].toArray) w :=
  hT.tree.run_build (by simp [Instr.fill, cells_one (show (Value.bool b).oneCell' = true from rfl)])
theorem buildSB {tt tg lt lg : TypeId} (hT : TreeT P N tt tg lt lg) (w : World) {v : Value} (h : v.oneCell' = true) (b : Bool) : (Instr.build tt #[(1, v), (2, .bool b)]).run P w = .ok (.agg [.int .i64 0, v, .bool b, .slice none 0 0, .slice none 0 0].toArray) w :=
  hT.tree.run_build (by simp [Instr.fill, cells_one h, cells_one (show (Value.bool b).oneCell' = true from rfl)])
theorem buildL {tt tg lt lg : TypeId} (hT : TreeT P N tt tg lt lg) (w : World) {v : Value} (h : v.oneCell' = true) : (Instr.build tt #[(3, v)]).run P w = .ok (.agg [.int .i64 0, .slice none 0 0, .bool false, v, .slice none 0 0].toArray) w :=
  hT.tree.run_build (by simp [Instr.fill, cells_one h])

abbrev ImplT (P : Program) (N : Nums) : Prop := TreeT P N N.t_Tree N.t_Tag N.t_LTree N.t_LTag

/-- A result cell that is there, of zeros. -/
structure ResAt (w : World) (b : Nat) : Prop where
  r : w.rangeAt b 0 zT
  t : w.there b 0 5

theorem alloc_tree (hI : ImplT P N) (w : World) : ∃ w1, (∀ old : Value, (Instr.alloc N.t_Tree true old).run P w = .ok (.pointer (some ⟨w.heap.size, 0, none⟩)) w1) ∧ Mod w w1 none' ∧ w1.heap.size = w.heap.size + 1 ∧ ResAt w1 w.heap.size := by
  obtain ⟨fs, h⟩ := hI.ti
  exact ⟨_, fun old => h.run_alloc old, Mod.alloc _ _ _, alloc_size _ _, rangeAt_alloc w zT.toArray N.t_Tree (0, 0), there_alloc w zT.toArray N.t_Tree⟩

/-- The end: a tree is stored into the result, and handed back. -/
theorem W_hand (hI : ImplT P N) {loc : List Nat} {N' : Nat} {σ : Env} {w0 w : World} {b : Nat} {t : Tr} (hb : w0.heap.size ≤ b) (hw : Mod w0 w none') {cs : List Value} (hrep : RepT w (fun k => NB w0.heap.size w.heap.size k ∧ k ≠ b) t cs) {w' : World} (m : Mod w w' (blk b)) (hs : w'.heap.size = w.heap.size) (hr : w'.rangeAt b 0 cs) (h1 : σ 1 = .pointer (some ⟨b, 0, none⟩)) (hbw : b < w.heap.size) :
    retQ P [.cell 1 N.t_Tree] (Told w0 t) .ret σ w' := by
  refine ⟨.inr rfl, .agg cs.toArray, ⟨⟨b, 0, none⟩, h1, ret_tree hI hr hrep.len⟩, cs, rfl, RepT.mod m (fun k hk => ⟨hk.1.2, fun o e => hk.2 e, hk.1.1, by have := hk.1.2; omega⟩) t hrep, hw.fresh m fun k o e => by have : k = b := e; omega⟩

theorem call_boolTree (B : Base P N) (F : Fns P N) (hI : ImplT P N) (hN : N.f_boolTree ≠ 0) (w : World) (x : Bool) : Call P N.f_boolTree #[.bool x] w (Told w (leafT (if x then 1 else 0) [] false)) := by
  refine (F.boolTree hN).call rfl fun loc N' hlo => ?_
  unfold c_boolTree
  obtain ⟨w1, hal, m1, s1, hres⟩ := alloc_tree hI w
  have store : ∀ n : Int, ∃ w', (Instr.storeAt N.t_Tree (.pointer (some ⟨w.heap.size, 0, none⟩)) (.agg [.int .i64 n, .slice none 0 0, .bool false, .slice none 0 0, .slice none 0 0].toArray)).run P w1 = .ok () w' ∧ ∀ σ : Env, σ 1 = .pointer (some ⟨w.heap.size, 0, none⟩) → retQ P [.cell 1 N.t_Tree] (Told w (leafT n [] false)) .ret σ w' := by
    intro n
    obtain ⟨w', h1, h2, h3, h4, h5⟩ := put_tree hI (cs := [.int .i64 n, .slice none 0 0, .bool false, .slice none 0 0, .slice none 0 0]) hres.r rfl hres.t rfl (leaf_ones rfl)
    exact ⟨w', h1, fun σ hσ => W_hand hI (loc := loc) (N' := N') (Nat.le_refl _) m1 (leaf_rep tagV_nil) h2 h3 h4 hσ (by omega)⟩
  refine W_seq' fun K hK => W_ops fun τ => ?_
  simp (decide := true) only [runR, step_alloc, stepV_ok, Nat.reduceAdd, hal]
  refine hK _ _ (gen_locs fun σ hσ => ?_)
  have f0 := hσ 0
  have f1 := hσ 1
  simp (decide := true) only [put_at, envOf_var, sel_true, sel_false, Nat.reduceBeqDiff, BEq.rfl, Nat.reduceAdd, Nat.zero_add] at f0 f1
  clear hσ hK K
  refine W_seq' fun K hK => W_seq' fun K1 hK1 => W_ops fun τ => ?_
  simp (decide := true) only [runR, step_move, ev_tmp, envOf_var, Nat.reduceAdd, Nat.zero_add, argEnv1_0, f0]
  refine hK1 _ _ (gen_locs fun σ2 hσ => ?_)
  have g1 := hσ 1
  have g2 := hσ 2
  simp (decide := true) only [put_at, envOf_var, sel_true, sel_false, Nat.reduceBeqDiff, BEq.rfl, Nat.reduceAdd, f1] at g1 g2
  clear hσ hK1 K1
  refine W_if hlo g2 ?_
  cases x with
  | true =>
    rw [if_pos rfl]
    obtain ⟨w', hst, hfin⟩ := store 1
    refine W_seq' fun K2 hK2 => W_ops fun τ => ?_
    have e1 : ∀ ρ : Env, (#[(0, .const (.int .i64 1))] : Array (Nat × Operand)).map (fun p => (p.1, ev ρ p.2)) = #[(0, .int .i64 1)] := fun ρ => by simp
    simp (decide := true) only [runR, step_build, step_store, stepV_ok, stepU_ok, ev_tmp, put_at, envOf_var, sel_true, sel_false, Nat.reduceBeqDiff, BEq.rfl, Nat.reduceAdd, if_true, g1, e1, buildN hI, hst]
    refine hK2 _ _ (gen_locs fun σ3 hσ => W_ret ?_)
    have k1 := hσ 1
    simp (decide := true) only [put_at, envOf_var, sel_false, Nat.reduceBeqDiff, Nat.reduceAdd, g1] at k1
    exact hfin _ k1
  | false =>
    rw [if_neg (by simp)]
    refine W_skip (hK _ _ ?_)
    obtain ⟨w', hst, hfin⟩ := store 0
    refine W_seq' fun K2 hK2 => W_ops fun τ => ?_
    have e1 : ∀ ρ : Env, (#[] : Array (Nat × Operand)).map (fun p => (p.1, ev ρ p.2)) = #[] := fun ρ => by simp
    have hst' : (Instr.storeAt N.t_Tree (.pointer (some ⟨w.heap.size, 0, none⟩)) (.agg zT.toArray)).run P w1 = .ok () w' := hst
    simp (decide := true) only [runR, step_build, step_store, stepV_ok, stepU_ok, ev_tmp, put_at, envOf_var, sel_true, sel_false, Nat.reduceBeqDiff, BEq.rfl, Nat.reduceAdd, if_false, g1, e1, build0 hI, hst']
    refine hK2 _ _ (gen_locs fun σ3 hσ => W_ret ?_)
    have k1 := hσ 1
    simp (decide := true) only [put_at, envOf_var, sel_false, Nat.reduceBeqDiff, Nat.reduceAdd, g1] at k1
    exact hfin _ k1
end
end Go.Kf

/- What is told of texts that may be null, and of octets. -/
namespace Go.Kf
open Go Go.RowKit

section
variable {P : Program} {N : Nums}

theorem run_eqlP {t a : TypeId} (h : P.underlying t = some (.pointer a)) {x y : Operand} {m : Option Addr} {w : World} :
    (do eqGuard .eql t x y (.pointer m) (.pointer none); binOp .eql t (.pointer m) (.pointer none) : Sem Value).run P w = .ok (.bool m.isNone) w := by
  have e : (Op.equal t (.pointer m) (.pointer none)).run P w = .ok m.isNone w := by
    unfold Op.equal Op.maxDepth
    rw [show (10000 : Nat) = 9999 + 1 from rfl]
    unfold Op.equalIn
    rw [Sem.run_bind, run_underlying h, Result.andThen_ok]
    cases m <;> rfl
  have e1 : (eqGuard .eql t x y (.pointer m) (.pointer none)).run P w = .ok () w := rfl
  rw [Sem.run_bind, e1, Result.andThen_ok]
  show ((do pure (.bool (← Op.equal t (.pointer m) (.pointer none))) : Sem Value)).run P w = _
  rw [Sem.run_bind, e, Result.andThen_ok]
  rfl

theorem run_eqlS {t a : TypeId} (h : P.underlying t = some (.slice a)) {x y : Operand} {m : Option Addr} {n c : Nat} {w : World} :
    (do eqGuard .eql t x y (.slice m n c) (.slice none 0 0); binOp .eql t (.slice m n c) (.slice none 0 0) : Sem Value).run P w = .ok (.bool m.isNone) w := by
  have e : (Op.equal t (.slice m n c) (.slice none 0 0)).run P w = .ok m.isNone w := by
    unfold Op.equal Op.maxDepth
    rw [show (10000 : Nat) = 9999 + 1 from rfl]
    unfold Op.equalIn
    rw [Sem.run_bind, run_underlying h, Result.andThen_ok]
    cases m <;> rfl
  have e1 : (eqGuard .eql t x y (.slice m n c) (.slice none 0 0)).run P w = .ok () w := rfl
  rw [Sem.run_bind, e1, Result.andThen_ok]
  show ((do pure (.bool (← Op.equal t (.slice m n c) (.slice none 0 0))) : Sem Value)).run P w = _
  rw [Sem.run_bind, e, Result.andThen_ok]
  rfl

theorem OctG.tagV {w : World} {G : Nat → Prop} {v : Value} {o : Option (List UInt8)} (h : OctG w G v o) : tagV w G v (o.getD []) := by
  cases o with
  | none => exact .inl ⟨rfl, h⟩
  | some l => exact .inr h

theorem NB_of {w w1 w2 : World} (m1 : Mod w w1 none') (m2 : Mod w1 w2 none') {a b k : Nat} (ha : w.heap.size ≤ a) (hb : b ≤ w2.heap.size) (h : NB a b k) : NB w.heap.size w2.heap.size k := ⟨by have := h.1; omega, by have := h.2; omega⟩

/-- A tree with the octets v is stored as the result, and handed back. -/
theorem fin_leaf (hI : ImplT P N) {w w1 w2 : World} {b : Nat} (hb : b = w.heap.size) (m1 : Mod w w1 none') (s1 : w1.heap.size = w.heap.size + 1) (hres : ResAt w1 b) (m2 : Mod w1 w2 none') {v : Value} {s : List UInt8} (hv : tagV w2 (NB w1.heap.size w2.heap.size) v s) (n : Int) (nl : Bool) :
    ∃ w', (Instr.storeAt N.t_Tree (.pointer (some ⟨b, 0, none⟩)) (.agg [.int .i64 n, v, .bool nl, .slice none 0 0, .slice none 0 0].toArray)).run P w2 = .ok () w' ∧ ∀ σ : Env, σ 1 = .pointer (some ⟨b, 0, none⟩) → retQ P [.cell 1 N.t_Tree] (Told w (leafT n s nl)) .ret σ w' := by
  have s2 := m2.size
  obtain ⟨w', h1, h2, h3, h4, h5⟩ := put_tree hI (cs := [.int .i64 n, v, .bool nl, .slice none 0 0, .slice none 0 0]) (rangeAt_stay m2 hres.r) rfl (m2.there (by omega) hres.t) rfl (leaf_ones hv.one)
  refine ⟨w', h1, fun σ hσ => W_hand hI (loc := []) (N' := 0) (by omega) (m1.trans' m2) (leaf_rep (hv.imp (fun x => ⟨x.1, x.2.mono ?_⟩) fun x => x.mono ?_)) h2 h3 h4 hσ (by omega)⟩
  all_goals exact fun k hk => ⟨⟨by have := hk.1; omega, hk.2⟩, by have := hk.1; omega⟩

theorem call_textTree (B : Base P N) (F : Fns P N) (hI : ImplT P N) (hN : N.f_textTree ≠ 0) (hp : N.t_Pstring ≠ 0) {w : World} {G : Nat → Prop} {o : Option (List UInt8)} {cs : List Value} (hG : ∀ k, G k → k < w.heap.size) (h : Rep w G (.nstr o) cs) :
    ∃ v, cs = [v] ∧ Call P N.f_textTree #[v] w (Told w (leafT 0 (o.getD []) o.isNone)) := by
  have hv : ∃ m : Option Addr, cs = [.pointer m] ∧ m.isNone = o.isNone ∧ ∀ l, o = some l → ∃ b, m = some ⟨b, 0, none⟩ ∧ b < w.heap.size ∧ w.cell? ⟨b, 0, none⟩ = some (strV l) := by
    cases o with
    | none => exact ⟨none, by simpa only [Rep] using h, rfl, fun l e => by cases e⟩
    | some l =>
      simp only [Rep] at h
      obtain ⟨b, e, g, hr⟩ := h
      exact ⟨_, e, rfl, fun l' e' => by cases e'; exact ⟨b, rfl, hG b g, hr 0 _ rfl⟩⟩
  obtain ⟨m, rfl, hm, hsome⟩ := hv
  refine ⟨_, rfl, ?_⟩
  refine (F.textTree hN).call rfl fun loc N' hlo => ?_
  unfold c_textTree
  obtain ⟨w1, hal, m1, s1, hres⟩ := alloc_tree hI w
  refine W_seq' fun K hK => W_ops fun τ => ?_
  simp (decide := true) only [runR, step_alloc, stepV_ok, Nat.reduceAdd, hal]
  refine hK _ _ (gen_locs fun σ hσ => ?_)
  have f0 := hσ 0
  have f1 := hσ 1
  simp (decide := true) only [put_at, envOf_var, sel_true, sel_false, Nat.reduceBeqDiff, BEq.rfl, Nat.reduceAdd, Nat.zero_add] at f0 f1
  clear hσ hK K
  refine W_seq' fun K hK => W_seq' fun K1 hK1 => W_ops fun τ => ?_
  simp (decide := true) only [runR, step_move, step_binOp, stepV_ok, ev_tmp, ev_const, put_at, envOf_var, sel_true, BEq.rfl, Nat.reduceAdd, Nat.zero_add, argEnv1_0, f0, run_eqlP (B.pstring hp).und]
  refine hK1 _ _ (gen_locs fun σ2 hσ => ?_)
  have g0 := hσ 0
  have g1 := hσ 1
  have g2 := hσ 2
  simp (decide := true) only [put_at, envOf_var, sel_true, sel_false, Nat.reduceBeqDiff, BEq.rfl, Nat.reduceAdd, Nat.zero_add, f0, f1] at g0 g1 g2
  clear hσ hK1 K1
  refine W_if hlo g2 ?_
  cases o with
  | none =>
    rw [if_pos (by rw [hm]; rfl)]
    obtain ⟨w', hst, hfin⟩ := fin_leaf hI rfl m1 s1 hres (.refl w1 _) (tagV_nil) 0 true
    refine W_seq' fun K2 hK2 => W_ops fun τ => ?_
    have e1 : ∀ ρ : Env, (#[(2, .const (.bool true))] : Array (Nat × Operand)).map (fun p => (p.1, ev ρ p.2)) = #[(2, .bool true)] := fun ρ => by simp
    simp (decide := true) only [runR, step_build, step_store, stepV_ok, stepU_ok, ev_tmp, put_at, envOf_var, sel_true, sel_false, Nat.reduceBeqDiff, BEq.rfl, Nat.reduceAdd, g1, e1, buildB hI, hst]
    refine hK2 _ _ (gen_locs fun σ3 hσ => W_ret ?_)
    have k1 := hσ 1
    simp (decide := true) only [put_at, envOf_var, sel_false, Nat.reduceBeqDiff, Nat.reduceAdd, g1] at k1
    exact hfin _ k1
  | some l =>
    rw [if_neg (by rw [hm]; simp)]
    refine W_skip (hK _ _ ?_)
    obtain ⟨b, rfl, hbw, hcell⟩ := hsome l rfl
    have hcell1 : w1.cell? ⟨b, 0, none⟩ = some (strV l) := by rw [m1.cell _ _ hbw (fun h => h)]; exact hcell
    obtain ⟨v', w2, hconv, htv, m2⟩ := run_strOct B w1 l
    obtain ⟨w', hst, hfin⟩ := fin_leaf hI rfl m1 s1 hres m2 htv 0 false
    refine W_seq' fun K2 hK2 => W_ops fun τ => ?_
    have e1 : ∀ ρ : Env, (#[(1, T 3)] : Array (Nat × Operand)).map (fun p => (p.1, ev ρ p.2)) = #[(1, ρ 3)] := fun ρ => by simp
    simp (decide := true) only [runR, step_move, step_build, step_load, step_store, step_convert, ev_tmp, put_at, envOf_var, sel_true, sel_false, Nat.reduceBeqDiff, BEq.rfl, Nat.reduceAdd, Nat.zero_add, argEnv1_0, g0]
    rw [step_nilCheck rfl]
    simp (decide := true) only [stepV_ok, stepU_ok, put_at, envOf_var, sel_true, sel_false, Nat.reduceBeqDiff, BEq.rfl, ldc_some, g1, B.string.run_load1 rfl, hcell1, hconv, e1, buildS hI _ htv.one, hst]
    refine hK2 _ _ (gen_locs fun σ3 hσ => W_ret ?_)
    have k1 := hσ 1
    simp (decide := true) only [put_at, envOf_var, sel_false, Nat.reduceBeqDiff, Nat.reduceAdd, g1] at k1
    exact hfin _ k1

theorem call_octetsTree (B : Base P N) (F : Fns P N) (hI : ImplT P N) (hN : N.f_octetsTree ≠ 0) {w : World} {G : Nat → Prop} {o : Option (List UInt8)} {v : Value} (hG : ∀ k, G k → k < w.heap.size) (h : OctG w G v o) (hl : (o.getD []).length < 1099511627776) :
    Call P N.f_octetsTree #[v] w (Told w (leafT 0 (o.getD []) o.isNone)) := by
  have hv : ∃ m n c, v = .slice m n c ∧ m.isNone = o.isNone := by
    cases o with
    | none => exact ⟨none, 0, 0, h, rfl⟩
    | some l => obtain ⟨b, o', c, e, _⟩ := h; exact ⟨_, _, _, e, rfl⟩
  obtain ⟨m, n, c, hv, hm⟩ := hv
  refine (F.octetsTree hN).call rfl fun loc N' hlo => ?_
  unfold c_octetsTree
  obtain ⟨w1, hal, m1, s1, hres⟩ := alloc_tree hI w
  refine W_seq' fun K hK => W_ops fun τ => ?_
  simp (decide := true) only [runR, step_alloc, stepV_ok, Nat.reduceAdd, hal]
  refine hK _ _ (gen_locs fun σ hσ => ?_)
  have f0 := hσ 0
  have f1 := hσ 1
  simp (decide := true) only [put_at, envOf_var, sel_true, sel_false, Nat.reduceBeqDiff, BEq.rfl, Nat.reduceAdd, Nat.zero_add] at f0 f1
  clear hσ hK K
  have htv1 : tagV w1 G v (o.getD []) := h.tagV.mod m1 fun k hk => ⟨hG k hk, fun _ h => h, hk⟩
  obtain ⟨v', w2, happ, htv, m2⟩ := run_copyOct (ty := N.t_Luint8) B htv1 hl
  obtain ⟨w', hst, hfin⟩ := fin_leaf hI rfl m1 s1 hres m2 htv 0 o.isNone
  have heq : ∀ {x y : Operand} {w : World}, (do eqGuard .eql N.t_Luint8 x y v (.slice none 0 0); binOp .eql N.t_Luint8 v (.slice none 0 0) : Sem Value).run P w = .ok (.bool o.isNone) w := by
    intro x y w
    rw [← hm, hv]
    exact run_eqlS B.Lu8.und
  refine W_seq' fun K2 hK2 => W_ops fun τ => ?_
  have e1 : ∀ ρ : Env, (#[(1, T 1), (2, T 3)] : Array (Nat × Operand)).map (fun p => (p.1, ev ρ p.2)) = #[(1, ρ 1), (2, ρ 3)] := fun ρ => by simp
  simp (decide := true) only [runR, step_move, step_build, step_store, step_binOp, step_append, stepV_ok, stepU_ok, ev_tmp, ev_const, put_at, envOf_var, sel_true, sel_false, Nat.reduceBeqDiff, BEq.rfl, Nat.reduceAdd, Nat.zero_add, argEnv1_0, f0, f1, happ, heq, e1, buildSB hI _ htv.one, hst]
  refine hK2 _ _ (gen_locs fun σ3 hσ => W_ret ?_)
  have k1 := hσ 1
  simp (decide := true) only [put_at, envOf_var, sel_false, Nat.reduceBeqDiff, Nat.reduceAdd, f1] at k1
  exact hfin _ k1
end
end Go.Kf

/- Tags that are sorted are left as they are. -/
namespace Go.Kf
open Go Go.RowKit

section
variable {P : Program} {N : Nums}

def cLess (N : Nums) : C := .draw [
  ⟨(some 0), .move (V 5), 0, none, []⟩,
  ⟨(some 1), .binOp .gtr N.t_int (T 0) (.const (.int .i64 0)) N.t_int, 0, none, [0]⟩,
  ⟨(some 2), .move (T 1), 0, none, [1]⟩,
  ⟨(some 3), .move (V 0), 0, (some (some 2, true)), [2]⟩,
  ⟨(some 4), .move (V 5), 0, (some (some 2, true)), [2]⟩,
  ⟨(some 5), .indexAddr N.t_LTag (T 3) (T 4), 0, (some (some 2, true)), [3, 4, 2]⟩,
  ⟨(some 6), .fieldAddr N.t_Tag (T 5) 0, 0, (some (some 2, true)), [5, 2]⟩,
  ⟨(some 7), .load N.t_uint32 (T 6), 0, (some (some 2, true)), [6, 2]⟩,
  ⟨(some 8), .move (V 0), 0, (some (some 2, true)), [2]⟩,
  ⟨(some 9), .move (V 5), 0, (some (some 2, true)), [2]⟩,
  ⟨(some 10), .binOp .sub N.t_int (T 9) (.const (.int .i64 1)) N.t_int, 0, (some (some 2, true)), [9, 2]⟩,
  ⟨(some 11), .indexAddr N.t_LTag (T 8) (T 10), 0, (some (some 2, true)), [8, 10, 2]⟩,
  ⟨(some 12), .fieldAddr N.t_Tag (T 11) 0, 0, (some (some 2, true)), [11, 2]⟩,
  ⟨(some 13), .load N.t_uint32 (T 12), 0, (some (some 2, true)), [12, 2]⟩,
  ⟨(some 14), .binOp .lss N.t_uint32 (T 7) (T 13) N.t_uint32, 0, (some (some 2, true)), [7, 13, 2]⟩,
  ⟨(some (6 + 100)), .pick (T 2) (T 14) (.const (.bool false)), 0, none, [2, 14]⟩]

theorem W_less (B : Base P N) (hI : ImplT P N) {loc : List Nat} {N' : Nat} {Q : Exit → Env → World → Prop} {σ : Env} {w : World} {b c j : Nat} {u : List (Nat × List UInt8)} (f0 : σ 0 = .slice (some ⟨b, 0, none⟩) u.length c) (f5 : σ 5 = .int .i64 j) (hj : j < u.length) (hu : u.length < 4611686018427387904)
    (hc : ∀ i x, u[i]? = some x → w.drew.cell? ⟨b, i * 2, none⟩ = some (.int .u32 x.1)) (hs : (u.map Prod.fst).Pairwise (· < ·))
    (hQ : ∀ σ' : Env, σ' 6 = .bool false → (∀ i, i < 6 → σ' i = σ i) → Q .normal σ' w.drew) : W P loc N' (cLess N) Q σ w := by
  obtain ⟨fs, hI1⟩ := hI.tu
  refine W_drawS B.mixed (by kernel_rfl) fun τ => ?_
  have same : ∀ {σ' : Env}, (∀ i, σ' i = σ' i) → True := fun _ => trivial
  clear same
  by_cases h0 : j = 0
  · subst h0
    have e0 : decide (((0 : Nat) : Int) > 0) = false := by decide
    simp (decide := true) only [stillL, step_move, step_binOp, run_gtr, run_pick, stepV_ok, ev_tmp, ev_const, put_at, envOf_var, sel_true, sel_false, Nat.reduceBeqDiff, decide_false, BEq.rfl, Nat.reduceAdd, if_false, true_and, f5, step_guard_no, Bool.not_true, step_pick]
    refine gen_locs (K := fun σ' w' => Q .normal σ' w') fun σ' hσ => hQ _ ?_ fun i hi => ?_
    · have := hσ 6
      simp (decide := true) only [put_at, sel_true, BEq.rfl, Nat.reduceAdd] at this
      exact this
    · rw [hσ]
      match i, hi with
      | 0, _ => simp (decide := true) only [put_at, envOf_var, sel_false, Nat.reduceBeqDiff, Nat.zero_add]
      | 1, _ => simp (decide := true) only [put_at, envOf_var, sel_false, Nat.reduceBeqDiff, Nat.reduceAdd]
      | 2, _ => simp (decide := true) only [put_at, envOf_var, sel_false, Nat.reduceBeqDiff, Nat.reduceAdd]
      | 3, _ => simp (decide := true) only [put_at, envOf_var, sel_false, Nat.reduceBeqDiff, Nat.reduceAdd]
      | 4, _ => simp (decide := true) only [put_at, envOf_var, sel_false, Nat.reduceBeqDiff, Nat.reduceAdd]
      | 5, _ => simp (decide := true) only [put_at, envOf_var, sel_false, Nat.reduceBeqDiff, Nat.reduceAdd]
  · have e0 : decide ((j : Int) > 0) = true := by simp; omega
    have hx := List.getElem?_eq_getElem hj
    have hj1 : j - 1 < u.length := by omega
    have hx1 := List.getElem?_eq_getElem hj1
    have c1 := hc _ _ hx
    have c2 := hc _ _ hx1
    have hlt : (u[j - 1]).1 < (u[j]).1 := by
      have := List.pairwise_iff_getElem.1 hs (j - 1) j (by simpa using hj1) (by simpa using hj) (by omega)
      simpa using this
    have hw : IntKind.i64.wrap ((j : Int) - 1) = ((j - 1 : Nat) : Int) := by
      rw [show ((j : Int) - 1) = ((j - 1 : Nat) : Int) by omega]
      exact wrap_i64 (by omega) (by omega)
    have hd : decide (((u[j]).1 : Int) < ((u[j - 1]).1 : Int)) = false := by simp; omega
    simp (decide := true) only [stillL, step_move, step_load, step_binOp, step_fieldAddr, step_indexAddr, run_lss, run_gtr, run_isub, run_pick, stepV_ok, ev_tmp, ev_const, put_at, envOf_var, sel_true, sel_false, Nat.reduceBeqDiff, BEq.rfl, ldc_some, Nat.reduceAdd, Nat.add_zero, Nat.zero_add, if_true, true_and, f0, f5, e0, step_guard_yes, step_pick, run_indexAt hI.lg hI1 hj, run_indexAt hI.lg hI1 hj1, hI.g0.run, B.uint32.run_load1 rfl, c1, c2, hw, hd]
    refine gen_locs (K := fun σ' w' => Q .normal σ' w') fun σ' hσ => hQ _ ?_ fun i hi => ?_
    · have := hσ 6
      simp (decide := true) only [put_at, sel_true, BEq.rfl, Nat.reduceAdd] at this
      exact this
    · rw [hσ]
      match i, hi with
      | 0, _ => simp (decide := true) only [put_at, envOf_var, sel_false, Nat.reduceBeqDiff, Nat.zero_add]
      | 1, _ => simp (decide := true) only [put_at, envOf_var, sel_false, Nat.reduceBeqDiff, Nat.reduceAdd]
      | 2, _ => simp (decide := true) only [put_at, envOf_var, sel_false, Nat.reduceBeqDiff, Nat.reduceAdd]
      | 3, _ => simp (decide := true) only [put_at, envOf_var, sel_false, Nat.reduceBeqDiff, Nat.reduceAdd]
      | 4, _ => simp (decide := true) only [put_at, envOf_var, sel_false, Nat.reduceBeqDiff, Nat.reduceAdd]
      | 5, _ => simp (decide := true) only [put_at, envOf_var, sel_false, Nat.reduceBeqDiff, Nat.reduceAdd]

theorem call_sorted (B : Base P N) (F : Fns P N) (hI : ImplT P N) (hN : N.f_sorted ≠ 0) {w : World} {G : Nat → Prop} {v : Value} {u : List (Nat × List UInt8)} (h : RepU w G v u) (hu : u.length < 4611686018427387904) (hs : (u.map Prod.fst).Pairwise (· < ·)) :
    Call P N.f_sorted #[v] w fun _ w' => Mod w w' none' := by
  have hu1 : (v = .slice none 0 0 ∧ u.length = 0) ∨ ∃ b c, v = .slice (some ⟨b, 0, none⟩) u.length c := h.imp (fun h => ⟨h.1, by rw [h.2]; rfl⟩) fun ⟨b, c, _, h, _⟩ => ⟨b, c, h⟩
  refine (F.sorted hN).call rfl fun loc N' hlo => ?_
  unfold c_sorted
  refine W_seq' fun K hK => W_ops fun τ => ?_
  simp (decide := true) only [runR, step_move, step_len, stepV_ok, ev_tmp, ev_const, put_at, envOf_var, sel_true, BEq.rfl, Nat.reduceAdd, Nat.zero_add, argEnv1_0, len_of hI.lg hu1]
  refine hK _ _ (gen_locs fun σ hσ => ?_)
  have f0 := hσ 0
  have f1 := hσ 1
  have f2 := hσ 2
  simp (decide := true) only [put_at, envOf_var, sel_true, sel_false, Nat.reduceBeqDiff, BEq.rfl, Nat.reduceAdd, Nat.zero_add] at f0 f1 f2
  clear hσ hK K
  refine W_cRange (i := 2) (l := 1) (c := 3) (k := 0) hlo hu (fun j σ w' => σ 0 = v ∧ σ 1 = .int .i64 u.length ∧ σ 2 = .int .i64 j ∧ j ≤ u.length ∧ Mod w w' none') (fun j σ w h => ⟨h.2.2.1, h.2.1, h.2.2.2.1⟩) (fun j σ w b h => ?_) ⟨f0, f1, f2, Nat.zero_le _, .refl _ _⟩ (fun σ' w' h => ⟨.inl rfl, .tuple #[], rfl, h.2.2.2.2⟩) (fun j σ' w' hj h => ?_)
  · obtain ⟨a, b, c, d, e⟩ := h
    exact ⟨by rw [upd_ne (by decide)]; exact a, by rw [upd_ne (by decide)]; exact b, by rw [upd_ne (by decide)]; exact c, d, e⟩
  · obtain ⟨a, b, c, d, e⟩ := h
    rcases h with ⟨_, h0⟩ | ⟨bl, cp, cs, hv, _, _, hus, hrg⟩
    · rw [h0] at hj; simp at hj
    rw [hv] at a
    refine W_seq' fun K hK => W_ops fun τ => ?_
    simp (decide := true) only [runR, step_move, step_assign, ev_tmp, put_at, envOf_var, sel_true, BEq.rfl, Nat.reduceAdd, c]
    refine hK _ _ (gen_locs fun σ4 hσ => ?_)
    have g0 := hσ 0
    have g1 := hσ 1
    have g2 := hσ 2
    have g4 := hσ 4
    simp (decide := true) only [put_at, envOf_var, sel_true, sel_false, Nat.reduceBeqDiff, BEq.rfl, Nat.reduceAdd, Nat.zero_add, a, b, c] at g0 g1 g2 g4
    clear hσ hK K
    refine W_seq' fun K hK => W_ops fun τ => ?_
    simp (decide := true) only [runR, step_move, step_assign, ev_tmp, put_at, envOf_var, sel_true, BEq.rfl, Nat.reduceAdd, g4]
    refine hK _ _ (gen_locs fun σ5 hσ => ?_)
    have p0 := hσ 0
    have p1 := hσ 1
    have p2 := hσ 2
    have p5 := hσ 5
    simp (decide := true) only [put_at, envOf_var, sel_true, sel_false, Nat.reduceBeqDiff, BEq.rfl, Nat.reduceAdd, Nat.zero_add, g0, g1, g2] at p0 p1 p2 p5
    clear hσ hK K
    refine W_block (W_loop (fun _ σ w1 => σ = σ5 ∧ w1 = w') (n := 0) ⟨rfl, rfl⟩ ?_)
    rintro n σ6 w6 ⟨rfl, rfl⟩
    have md : Mod w w6.drew none' := e.trans' (Mod.drew _ _)
    refine W_seq' fun K hK => W_seq' fun K1 hK1 => W_less B hI p0 p5 hj hu (fun i x hx => ?_) hs fun σ7 h6 hag => hK1 _ _ (W_if hlo h6 ?_)
    · obtain ⟨v', q1, _, _⟩ := hus.get5 hx
      have := rangeAt_stay md hrg _ _ q1
      rwa [Nat.zero_add] at this
    · rw [if_neg (by simp)]
      refine W_exit ?_
      simp only [thenQ, inB, if_true]
      have k0 := hag 0 (by decide)
      have k1 := hag 1 (by decide)
      have k2 := hag 2 (by decide)
      rw [p0] at k0; rw [p1] at k1; rw [p2] at k2
      exact ⟨k2, by rw [upd_ne (by decide), k0, hv], by rw [upd_ne (by decide)]; exact k1, upd_same _ _ _, by omega, md⟩
end
end Go.Kf

/- Keys of tags are held against each other. -/
namespace Go.Kf
open Go Go.RowKit

section
variable {P : Program} {N : Nums}

theorem call_less (B : Base P N) (F : Fns P N) (hN : N.f_PTags_Each_1 ≠ 0) {st : TI P N.t_Luint32 (.slice N.t_uint32) 1 24 (.slice none 0 0)} {w : World} {bv blk n c : Nat} (hv : w.cell? ⟨bv, 0, none⟩ = some (.slice (some ⟨blk, 0, none⟩) n c)) {g : Nat → Int}
    (hc : ∀ t, t < n → w.cell? ⟨blk, t, none⟩ = some (.int .u32 (g t))) {i j : Nat} (hi : i < n) (hj : j < n) :
    Call P N.f_PTags_Each_1 #[.int .i64 i, .int .i64 j, .pointer (some ⟨bv, 0, none⟩)] w fun v w' => v = .bool (decide (g i < g j)) ∧ w' = w.drew := by
  refine (F.PTags_Each_1 hN).call rfl fun loc N' hlo => ?_
  unfold c_PTags_Each_1
  refine W_seq' fun K hK => W_const (hK _ _ ?_)
  clear hK K
  obtain ⟨σ, hσ⟩ : ∃ σ, σ = upd (argEnv #[.int .i64 i, .int .i64 j, .pointer (some ⟨bv, 0, none⟩)]) 3 (.bool false) := ⟨_, rfl⟩
  have f0 : σ 0 = .int .i64 i := by rw [hσ, upd_ne (by decide)]; rfl
  have f1 : σ 1 = .int .i64 j := by rw [hσ, upd_ne (by decide)]; rfl
  have f2 : σ 2 = .pointer (some ⟨bv, 0, none⟩) := by rw [hσ, upd_ne (by decide)]; rfl
  rw [← hσ]
  clear hσ
  have hv' : w.drew.cell? ⟨bv, 0, none⟩ = some (.slice (some ⟨blk, 0, none⟩) n c) := hv
  have ci : w.drew.cell? ⟨blk, i, none⟩ = some (.int .u32 (g i)) := hc i hi
  have cj : w.drew.cell? ⟨blk, j, none⟩ = some (.int .u32 (g j)) := hc j hj
  refine W_seq' fun K hK => W_drawS B.mixed (by kernel_rfl) fun τ => ?_
  simp (decide := true) only [stillL, step_move, step_assign, step_load, step_binOp, step_indexAddr, run_lss, stepV_ok, ev_tmp, put_at, envOf_var, sel_true, sel_false, Nat.reduceBeqDiff, BEq.rfl, ldc_some, Nat.reduceAdd, Nat.zero_add, Nat.mul_one, true_and, f0, f1, f2, st.run_load1 rfl, hv', run_indexAt st B.uint32 hi, run_indexAt st B.uint32 hj, B.uint32.run_load1 rfl, ci, cj]
  refine hK _ _ (gen_locs fun σ4 hσ => W_ret ⟨.inr rfl, _, rfl, ?_, rfl⟩)
  have := hσ 3
  simp (decide := true) only [put_at, sel_true, BEq.rfl, Nat.reduceAdd] at this
  exact this
end
end Go.Kf

/- Tags are gone through: their keys are gathered. -/
namespace Go.Kf
open Go Go.RowKit
open Go.ChangeMaps (setBlock)

theorem nodup_le : ∀ (l m : List Nat), l.Nodup → (∀ x ∈ l, x ∈ m) → l.length ≤ m.length
  | [], _, _, _ => Nat.zero_le _
  | x :: l, m, hn, hs => by
    have hx := hs x (by simp)
    have hn2 := List.nodup_cons.1 hn
    have h1 := nodup_le l (m.erase x) hn2.2 fun y hy => (List.mem_erase_of_ne fun e => by subst e; exact hn2.1 hy).2 (hs y (by simp [hy]))
    rw [List.length_erase_of_mem hx] at h1
    have := List.length_pos_of_mem hx
    simp only [List.length_cons]
    omega
theorem born_nodup {l : List MapEntry} (h : (l.map MapEntry.born).Nodup) : l.Nodup := List.Pairwise.of_map MapEntry.born (fun _ _ h e => h (by rw [e])) h

section
variable {P : Program} {N : Nums}

theorem run_lenMap0 {t a b : TypeId} (h : P.underlying t = some (.map a b)) {ty : TypeId} {w : World} : (Builtin.len_ #[t] ty #[.map none]).run P w = .ok (.int .i64 0) w := by
  simp [Builtin.len_, run_underlying h, goInt]
theorem run_lenMap {t a b : TypeId} (h : P.underlying t = some (.map a b)) {ty : TypeId} {w : World} {m : Nat} {es : Array MapEntry} {ck : Nat} (hm : w.heap[m]? = some (.map es ck)) : (Builtin.len_ #[t] ty #[.map (some m)]).run P w = .ok (.int .i64 es.size) w := by
  simp [Builtin.len_, run_underlying h, MapKept.run_getObj_map hm, goInt]

theorem Mod.setIter {w : World} {r : Nat} {m m' : Option Nat} {a a' c c' : Nat} {s s' : Array Nat} (h : w.heap[r]? = some (.mapIter m a s c)) : Mod w (setBlock w r (.mapIter m' a' s' c')) (blk r) ∧ (setBlock w r (.mapIter m' a' s' c')).heap[r]? = some (.mapIter m' a' s' c') ∧ (setBlock w r (.mapIter m' a' s' c')).heap.size = w.heap.size := by
  have hlt : r < w.heap.size := (Array.getElem?_eq_some_iff.1 h).1
  have h1 : (setBlock w r (.mapIter m' a' s' c')).heap[r]? = some (.mapIter m' a' s' c') := by simp [setBlock, hlt]
  have h2 : ∀ k, k ≠ r → (setBlock w r (.mapIter m' a' s' c')).heap[k]? = w.heap[k]? := fun k hk => by
    simp only [setBlock]
    rw [Array.getElem?_setIfInBounds_ne (fun e => hk e.symm)]
  refine ⟨⟨rfl, rfl, rfl, by simp [setBlock], fun k hk hn => h2 k fun e => hn 0 e, fun k o hk hn => ?_, fun k o hk => ?_, fun k o hk => ?_, fun k hk => ?_⟩, h1, by simp [setBlock]⟩
  · exact World.cell?_of_block (h2 k fun e => hn e)
  · by_cases e : k = r
    · subst e; simp only [World.cell?, h1, h]
    · rw [World.cell?_of_block (h2 k e)]
  · by_cases e : k = r
    · subst e; simp only [World.frozen?, h1, h]
    · rw [World.frozen?_of_block (h2 k e)]
  · by_cases e : k = r
    · subst e; simp only [World.shape?, h1, h]
    · simp only [World.shape?, h2 k e]

/-- A list with room, nothing in it yet. -/
theorem run_makeRoom {st et : TypeId} {a b sz by' : Nat} {z z' : Value} {d : TypeDesc} (hS : TI P st (.slice et) a b z') (ht : TI P et d sz by' z) (hz : z.cells.size = sz) {w : World} {n : Nat} (hn : by' * n ≤ 281474976710656) (hn2 : n < 4611686018427387904) :
    ∃ w', (Instr.makeSlice st (.int .i64 0) (.int .i64 n)).run P w = .ok (.slice (some ⟨w.heap.size, 0, none⟩) 0 n) w' ∧ Own w' w.heap.size sz (.slice (some ⟨w.heap.size, 0, none⟩) 0 n) 0 [] ∧ Mod w w' none' ∧ w'.heap.size = w.heap.size + 1 := by
  obtain ⟨i, hi, hsz, hbytes, hzero⟩ := ht.info
  have hb : (i.bytes : Int) * (n : Int) ≤ 281474976710656 := by
    have : ((i.bytes * n : Nat) : Int) ≤ 281474976710656 := by rw [hbytes]; omega
    rwa [Int.natCast_mul] at this
  have hr := run_make (P := P) w st et i z hS.und hi hzero .i64 .i64 0 n (Int.le_refl _) (by omega) hb (by omega)
  simp only [Int.toNat_zero, Int.toNat_natCast] at hr
  refine ⟨_, hr, .inr ⟨w.heap.size, n, rfl, Nat.le_refl _, by rw [alloc_size]; exact Nat.lt_succ_self _, Nat.zero_le _, ?_, fun j v hj => by simp at hj, by simp⟩, Mod.alloc _ _ _, alloc_size _ _⟩
  have := there_alloc w (madeCells z.cells (n * i.size)) et
  rw [size_madeCells, hsz] at this
  rw [hsz]
  exact this

structure LU (P : Program) (N : Nums) : Prop where
  lu : TI P N.t_Luint32 (.slice N.t_uint32) 1 24 (.slice none 0 0)

/-- What holds while the keys are gathered. -/
structure EC (es : List MapEntry) (ck mr : Nat) (w0 : World) (lo b3 rI : Nat) (v0 v1 : Value) (picked : List MapEntry) (σ : Env) (w : World) : Prop where
  f0 : σ 0 = v0
  f1 : σ 1 = v1
  f3 : σ 3 = .pointer (some ⟨b3, 0, none⟩)
  f4 : σ 4 = .pointer (some ⟨rI, 0, none⟩)
  mod : Mod w0 w none'
  map : w.heap[mr]? = some (.map es.toArray ck)
  iter : ∃ seen, w.heap[rI]? = some (.mapIter (some mr) ck seen ck) ∧ seen.toList = picked.map MapEntry.born
  mem : ∀ e ∈ picked, e ∈ es
  nd : (picked.map MapEntry.born).Nodup
  row : ∃ v, w.cell? ⟨b3, 0, none⟩ = some v ∧ w.there b3 0 1 ∧ Own w lo 1 v picked.length (picked.map MapEntry.key) ∧ notBlk v b3 ∧ notBlk v rI
  lt : b3 < w.heap.size ∧ rI < w.heap.size ∧ w0.heap.size ≤ b3 ∧ w0.heap.size ≤ rI ∧ mr < w0.heap.size ∧ w0.heap.size ≤ lo ∧ lo ≤ w.heap.size ∧ b3 ≠ rI

def cCollect (N : Nums) : C :=
  .seq (.ops [⟨(some 0), .next (V 4) false, N.t_, none, []⟩, ⟨(some (5 + 100)), .extract (T 0) 0, 0, none, []⟩])
    (.seq (.cond 5 .skip (.exit 0))
      (.block 1 (.seq (.ops [⟨(some 0), .entry (V 4), 0, none, []⟩, ⟨(some 1), .extract (T 0) 0, 0, none, []⟩, ⟨(some (6 + 100)), .assign (T 1), 0, none, []⟩])
        (.ops [⟨(some 0), .load N.t_Luint32 (V 3), 0, none, []⟩, ⟨(some 1), .move (V 6), 0, none, []⟩, ⟨(some 2), .buildSlice N.t_Luint32 1 #[(0, (T 1))], 0, none, []⟩,
          ⟨(some 3), .call ⟨(.builtin .append), #[(T 0), (T 2)], #[N.t_Luint32, N.t_Luint32]⟩, N.t_Luint32, none, []⟩, ⟨none, .store N.t_Luint32 (V 3) (T 3), 0, none, []⟩]))))

theorem run_extract0' {a b c : Value} {w : World} : (Instr.extract (.tuple #[a, b, c]) 0).run P w = .ok a w := rfl
theorem run_extract0'' {a : Value} {w : World} : (Instr.extract (.tuple #[a]) 0).run P w = .ok a w := rfl

theorem collect_round (B : Base P N) (hL : LU P N) {loc : List Nat} {N' : Nat} (hlo : LocOk loc N') {Q : Exit → Env → World → Prop} {es : List MapEntry} {ck mr : Nat} {w0 w : World} {lo b3 rI : Nat} {v0 v1 : Value} {picked : List MapEntry} {σ : Env}
    (hes : ∀ e ∈ es, e.born < ck) (hnd : (es.map MapEntry.born).Nodup) (hkey : ∀ e ∈ es, e.key.oneCell' = true) (hsz : es.length < 1099511627776)
    (h : EC es ck mr w0 lo b3 rI v0 v1 picked σ w)
    (hend : ∀ σ' w', EC es ck mr w0 lo b3 rI v0 v1 picked σ' w' → picked.Perm es → Q (.exit 0) σ' w')
    (hstep : ∀ σ' w' e, picked.length < es.length → EC es ck mr w0 lo b3 rI v0 v1 (picked ++ [e]) σ' w' → Q .normal σ' w') : W P loc N' (cCollect N) Q σ w := by
  obtain ⟨f0, f1, f3, f4, mod, map, ⟨seen, iter, hseen⟩, mem, nd, ⟨v, hc, ht, ho, nb3, nbI⟩, l1, l2, l3, l4, l5, l6, l7, l8⟩ := h
  have hnx := run_next_at (P := P) w N.t_ rI mr ck ck seen es.toArray ck iter map (by simpa using hes) (Nat.le_refl _)
  unfold cCollect
  rcases hnx with ⟨h0, hrun⟩ | ⟨e, he, w1, hw1, hrun⟩
  · -- the end
    refine W_seq' fun K hK => W_ops fun τ => ?_
    simp (decide := true) only [runR, step_extract, stepV_ok, ev_tmp, put_at, envOf_var, sel_true, BEq.rfl, Nat.reduceAdd, f4, step_next, hrun, run_extract0'']
    refine hK _ _ (gen_locs fun σ' hσ => ?_)
    have g0 := hσ 0
    have g1 := hσ 1
    have g3 := hσ 3
    have g4 := hσ 4
    have g5 := hσ 5
    simp (decide := true) only [put_at, envOf_var, sel_true, sel_false, Nat.reduceBeqDiff, BEq.rfl, Nat.reduceAdd, Nat.zero_add, f0, f1, f3, f4] at g0 g1 g3 g4 g5
    clear hσ hK K
    refine W_seq' fun K hK => W_if hlo g5 ?_
    rw [if_neg (by simp)]
    refine W_exit ?_
    refine hend _ _ ⟨g0, g1, g3, g4, mod, map, ⟨seen, iter, hseen⟩, mem, nd, ⟨v, hc, ht, ho, nb3, nbI⟩, l1, l2, l3, l4, l5, l6, l7, l8⟩ ?_
    have hall := all_seen es.toArray seen h0
    have ndp : picked.Nodup := born_nodup nd
    have nde : es.Nodup := born_nodup hnd
    rw [List.perm_ext_iff_of_nodup ndp nde]
    intro x
    refine ⟨mem x, fun hx => ?_⟩
    have hb := hall x (by simpa using hx)
    have hb2 : x.born ∈ picked.map MapEntry.born := by
      rw [← hseen]; simpa using hb
    obtain ⟨y, hy, hyb⟩ := List.mem_map.1 hb2
    have := born_inj hnd (mem y hy) hx hyb
    rw [← this]; exact hy
  · -- one more
    obtain ⟨hem, hns⟩ := mem_left he
    have hem' : e ∈ es := by simpa using hem
    have iter1 : w1.heap[rI]? = some (.mapIter (some mr) ck seen ck) := by rcases hw1 with rfl | rfl <;> exact iter
    have m1 : Mod w w1 none' := by
      rcases hw1 with rfl | rfl
      · exact .refl _ _
      · exact Mod.drew _ _
    have s1 : w1.heap.size = w.heap.size := by rcases hw1 with rfl | rfl <;> rfl
    obtain ⟨m2, it2, s2⟩ := Mod.setIter (m' := some mr) (a' := ck) (s' := seen.push e.born) (c' := ck) iter1
    obtain ⟨w2, hw2⟩ : ∃ w2, w2 = setBlock w1 rI (.mapIter (some mr) ck (seen.push e.born) ck) := ⟨_, rfl⟩
    rw [← hw2] at hrun m2 it2 s2
    clear hw2
    have m02 : Mod w w2 (blk rI) := (m1.mono fun _ _ _ h => h.elim).trans' m2
    have map2 : w2.heap[mr]? = some (.map es.toArray ck) := by rw [m02.block _ (by omega) (fun o h => by have : mr = rI := h; omega)]; exact map
    have hent := run_entry_at (P := P) w2 rI mr ck seen es.toArray ck e it2 map2 hem (by simpa using hnd)
    refine W_seq' fun K hK => W_ops fun τ => ?_
    simp (decide := true) only [runR, step_extract, stepV_ok, ev_tmp, put_at, envOf_var, sel_true, BEq.rfl, Nat.reduceAdd, f4, step_next, hrun, run_extract0']
    refine hK _ _ (gen_locs fun σ2 hσ => ?_)
    have g0 := hσ 0
    have g1 := hσ 1
    have g3 := hσ 3
    have g4 := hσ 4
    have g5 := hσ 5
    simp (decide := true) only [put_at, envOf_var, sel_true, sel_false, Nat.reduceBeqDiff, BEq.rfl, Nat.reduceAdd, Nat.zero_add, f0, f1, f3, f4] at g0 g1 g3 g4 g5
    clear hσ hK K
    refine W_seq' fun K hK => W_if hlo g5 ?_
    rw [if_pos rfl]
    refine W_skip (hK _ _ (W_block ?_))
    clear hK K
    refine W_seq' fun K hK => W_ops fun τ => ?_
    simp (decide := true) only [runR, step_assign, step_extract, run_extract0, stepV_ok, ev_tmp, put_at, envOf_var, sel_true, BEq.rfl, Nat.reduceAdd, g4, step_entry, hent]
    refine hK _ _ (gen_locs fun σ3 hσ => ?_)
    have p0 := hσ 0
    have p1 := hσ 1
    have p3 := hσ 3
    have p4 := hσ 4
    have p6 := hσ 6
    simp (decide := true) only [put_at, envOf_var, sel_true, sel_false, Nat.reduceBeqDiff, BEq.rfl, Nat.reduceAdd, Nat.zero_add, g0, g1, g3, g4] at p0 p1 p3 p4 p6
    clear hσ hK K
    have hcw2 : w2.cell? ⟨b3, 0, none⟩ = some v := by rw [m02.cell _ _ (by omega) (fun h => by have : b3 = rI := h; omega)]; exact hc
    have hbs := run_bs1 (w := w2) (v := e.key) (cs := [e.key]) hL.lu B.uint32 (cells_one (hkey e hem')) rfl (by decide) (by decide)
    have e9 : ∀ ρ : Env, (#[(0, T 1)] : Array (Nat × Operand)).map (fun p => (p.1, ev ρ p.2)) = #[(0, ρ 1)] := fun ρ => by simp
    refine W_ops fun τ => ?_
    simp (decide := true) only [runR, step_move, step_buildSlice, step_load, step_store, step_append, stepV_ok, ev_tmp, put_at, envOf_var, sel_true, sel_false, Nat.reduceBeqDiff, BEq.rfl, ldc_some, Nat.reduceAdd, p3, p6, hL.lu.run_load1 rfl, hcw2, e9, hbs]
    obtain ⟨w7, hw7⟩ : ∃ w7, w7 = w2.alloc (.cells [e.key].toArray N.t_uint32) := ⟨_, rfl⟩
    have m7 : Mod w2 w7 none' := by rw [hw7]; exact Mod.alloc _ _ _
    have s7 : w7.heap.size = w2.heap.size + 1 := by rw [hw7]; exact alloc_size _ _
    have r7 : w7.rangeAt w2.heap.size 0 [e.key] := by rw [hw7]; exact rangeAt_alloc w2 _ _ _
    rw [← hw7]
    clear hw7 hbs
    have m07 : Mod w w7 (blk rI) := m02.trans' (m7.mono fun _ _ _ h => h.elim)
    have ho7 : Own w7 lo 1 v picked.length (picked.map MapEntry.key) := ho.stay m07 fun k o hk e => hk (by have e : k = rI := e; rw [e]; exact nbI)
    have ndE : ((picked ++ [e]).map MapEntry.born).Nodup := by
      rw [List.map_append, List.nodup_append]
      refine ⟨nd, by simp, fun a ha b hb => ?_⟩
      simp at hb
      subst hb
      intro hab
      subst hab
      rw [← hseen] at ha
      have : seen.contains e.born = true := by simpa using ha
      rw [this] at hns; cases hns
    have hple : picked.length < es.length := by
      have := nodup_le ((picked ++ [e]).map MapEntry.born) (es.map MapEntry.born) ndE fun x hx => by
        obtain ⟨y, hy, rfl⟩ := List.mem_map.1 hx
        refine List.mem_map.2 ⟨y, ?_, rfl⟩
        rcases List.mem_append.1 hy with hy | hy
        · exact mem y hy
        · simp at hy; subst hy; exact hem'
      simp at this
      omega
    obtain ⟨v', w8, happ, ho8, m8, hone', hnb⟩ := run_append1 (P := P) (ty := N.t_Luint32) (m := 1) (cb := 1) hL.lu B.uint32 ho7 r7 rfl (fun c hc => by simp at hc; subst hc; exact hkey e hem') (by omega) rfl (fun c hc => by
      obtain ⟨x, hx, rfl⟩ := List.mem_map.1 hc; exact hkey x (mem x hx)) (by omega) (by decide) (by decide)
    have s8 := m8.size
    have t8 : w8.there b3 0 1 := m8.there (by omega) (m07.there (by omega) ht)
    have hsto := hL.lu.run_store1 (w := w8) (b := b3) (o := 0) (v := v') hone' t8
    simp (decide := true) only [stepV_ok, stepU_ok, happ, hsto]
    clear happ
    obtain ⟨w9, hw9⟩ : ∃ w9, w9 = w8.setCell ⟨b3, 0, none⟩ v' := ⟨_, rfl⟩
    have m9 : Mod w8 w9 (blk b3) := by rw [hw9]; exact Mod.setCell fun _ => rfl
    have s9 : w9.heap.size = w8.heap.size := by rw [hw9]; simp [World.setCell]
    have c8 : w8.cell? ⟨b3, 0, none⟩ = some v := by
      rw [m8.cell _ _ (by omega) (fun h => h nb3), m7.cell _ _ (by omega) (fun h => h)]; exact hcw2
    have c9 : w9.cell? ⟨b3, 0, none⟩ = some v' := by rw [hw9]; exact World.cell?_setCell_same _ _ _ c8
    rw [← hw9]
    clear hw9 hsto
    have hb3' : notBlk v' b3 := hnb b3 (by omega) nb3
    have hI' : notBlk v' rI := hnb rI (by omega) nbI
    have nbm : notBlk v mr := Classical.byContradiction fun h => by have := (ho.blk h).1; omega
    have m09 : Mod w w9 (fun k _ => k = rI ∨ ¬ notBlk v k ∨ k = b3) := ((m07.mono fun _ _ _ h => .inl h).trans' (m8.mono fun _ _ _ h => .inr (.inl h))).trans' (m9.mono fun _ _ _ h => .inr (.inr h))
    refine gen_locs (K := fun σ' w' => inB 1 Q .normal σ' w') fun σ9 hσ => hstep _ _ e hple ?_
    have q0 := hσ 0
    have q1 := hσ 1
    have q3 := hσ 3
    have q4 := hσ 4
    simp (decide := true) only [put_at, envOf_var, sel_false, Nat.reduceBeqDiff, Nat.reduceAdd, Nat.zero_add, p0, p1, p3, p4] at q0 q1 q3 q4
    refine ⟨q0, q1, q3, q4, mod.trans m09 fun k o hk h => ?_, ?_, ⟨seen.push e.born, ?_, by simp [hseen]⟩, fun x hx => ?_, ?_, ⟨v', c9, m9.there (by omega) t8, ?_, hb3', hI'⟩, by omega, by omega, l3, l4, l5, l6, by omega, l8⟩
    · rcases h with h | h | h | h
      · exact h
      · omega
      · have := (ho.blk h).1; omega
      · omega
    · rw [m09.block mr (by omega) (fun o h => by
        rcases h with h | h | h
        · omega
        · exact h nbm
        · omega)]
      exact map
    · rw [m9.block rI (by omega) (fun o h => by have : rI = b3 := h; omega), m8.block rI (by omega) (fun o h => h nbI), m7.block rI (by omega) (fun o h => h)]; exact it2
    · rcases List.mem_append.1 hx with hx | hx
      · exact mem x hx
      · simp at hx; subst hx; exact hem'
    · exact ndE
    · have := ho8.stay m9 (fun k o h e => h (by have e : k = b3 := e; rw [e]; exact hb3'))
      simpa using this
end
end Go.Kf

/- Tags are gone through: each is told, by rising key. -/
namespace Go.Kf
open Go Go.RowKit

def sortTags (l : List (Nat × List UInt8)) : List (Nat × List UInt8) := l.mergeSort fun x y => decide (x.1 ≤ y.1)

theorem sortTags_perm (l : List (Nat × List UInt8)) : (sortTags l).Perm l := List.mergeSort_perm l _
theorem sortTags_le (l : List (Nat × List UInt8)) : ((sortTags l).map Prod.fst).Pairwise (· ≤ ·) := by
  have := List.pairwise_mergeSort (le := fun x y : Nat × List UInt8 => decide (x.1 ≤ y.1)) (fun a b c h1 h2 => by simp at *; omega) (fun a b => by simp; omega) l
  rw [List.pairwise_map]
  exact this.imp fun h => by simpa using h
theorem sortTags_lt {l : List (Nat × List UInt8)} (hn : (l.map Prod.fst).Nodup) : ((sortTags l).map Prod.fst).Pairwise (· < ·) := by
  have h1 := sortTags_le l
  have h2 : ((sortTags l).map Prod.fst).Nodup := ((sortTags_perm l).map Prod.fst).nodup_iff.2 hn
  exact (h1.and h2).imp fun ⟨a, b⟩ => by omega
theorem sorted_eq : ∀ {l m : List Nat}, l.Perm m → l.Pairwise (· ≤ ·) → m.Pairwise (· ≤ ·) → l = m
  | [], m, h, _, _ => by rw [List.nil_perm.1 h]
  | x :: l, [], h, _, _ => by simp at h
  | x :: l, y :: m, h, h1, h2 => by
    have a := List.pairwise_cons.1 h1
    have b := List.pairwise_cons.1 h2
    have hxy : x = y := by
      have hx : x ∈ y :: m := h.mem_iff.1 (by simp)
      have hy : y ∈ x :: l := h.mem_iff.2 (by simp)
      rcases List.mem_cons.1 hx with e | hx
      · exact e
      · rcases List.mem_cons.1 hy with e | hy
        · exact e.symm
        · have := a.1 y hy; have := b.1 x hx; omega
    subst hxy
    rw [sorted_eq (List.perm_cons x |>.1 h) a.2 b.2]

def keyV (k : Nat) : Value := .int .u32 (k : Int)

/-- sort.Slice over keys. -/
structure SortOk (P : Program) (N : Nums) : Prop where
  has : hasBody P N.f_sort_Slice
  ok : ∀ (w : World) (bv bs c : Nat) (ks : List Nat), w.cell? ⟨bv, 0, none⟩ = some (.slice (some ⟨bs, 0, none⟩) ks.length c) → bv ≠ bs → bs < w.heap.size → ks ≠ [] → ks.length < 4611686018427387904 → w.rangeAt bs 0 (ks.map keyV) → w.there bs 0 ks.length →
    Call P N.f_sort_Slice #[.iface N.t_Luint32 (.slice (some ⟨bs, 0, none⟩) ks.length c), .func (.func N.f_PTags_Each_1) #[] #[.pointer (some ⟨bv, 0, none⟩)]] w fun _ w' =>
      ∃ ks' : List Nat, ks'.Perm ks ∧ ks'.Pairwise (· ≤ ·) ∧ w'.rangeAt bs 0 (ks'.map keyV) ∧ Mod w w' (blk bs)

section
variable {P : Program} {N : Nums}

theorem find_val {w : World} {G : Nat → Prop} {k : Nat} {vl : List UInt8} : ∀ (l : List (Nat × List UInt8)) (es : List MapEntry) (i0 : Nat), EntriesG w G l es → (l.map Prod.fst).Nodup → (k, vl) ∈ l →
    ∃ i val, Instr.findNow (.int .u32) (.int .u32 k) es i0 = some (some (i, val)) ∧ tagV w G val vl
  | [], es, i0, he, _, hm => by simp at hm
  | (k', l') :: l, es, i0, he, hnd, hm => by
    obtain ⟨v', b, rest, rfl, h2, h3⟩ := he
    simp only [List.map_cons, List.nodup_cons] at hnd
    by_cases hk : k' = k
    · subst hk
      have e : l' = vl := by
        rcases List.mem_cons.1 hm with e | hm
        · injection e with _ e; exact e.symm
        · exact absurd (List.mem_map.2 ⟨_, hm, rfl⟩) hnd.1
      subst e
      exact ⟨i0, v', by simp [Instr.findNow, Instr.sameNow], h2⟩
    · have hk2 : ((k : Int) == (k' : Int)) = false := by
        have : (k : Int) ≠ (k' : Int) := by omega
        simpa using this
      have hm' : (k, vl) ∈ l := by
        rcases List.mem_cons.1 hm with e | hm
        · injection e with e _; exact absurd e.symm hk
        · exact hm
      obtain ⟨i, val, g1, g2⟩ := find_val l rest (i0 + 1) h3 hnd.2 hm'
      exact ⟨i, val, by simp only [Instr.findNow, Instr.sameNow, if_true, hk2, g1], g2⟩

theorem run_lookupTag (B : Base P N) (hT : N.t_Tags ≠ 0) {w : World} {G : Nat → Prop} {mr k : Nat} {l : List (Nat × List UInt8)} {es : Array MapEntry} {ck : Nat} {vl : List UInt8} (hb : w.heap[mr]? = some (.map es ck)) (h6 : EntriesG w G l es.toList) (h7 : (l.map Prod.fst).Nodup) (hm : (k, vl) ∈ l) :
    ∃ val, (Instr.lookup N.t_map_uint32_Luint8 (.map (some mr)) (.int .u32 k) false).run P w = .ok val w ∧ tagV w G val vl := by
  obtain ⟨_, _, hmap⟩ := B.tags hT
  obtain ⟨i, val, g1, g2⟩ := find_val (k := k) l es.toList 0 h6 h7 hm
  have hck := MapKept.run_checkKey (P := P) (w := w) (k := .int .u32 k) B.uint32.und rfl es.isEmpty 9999
  have hgo := MapKept.run_getObj_map (P := P) hb
  have hfk := MapKept.run_findKey (P := P) (w := w) (k := .int .u32 k) B.uint32.und g1
  refine ⟨val, ?_, g2⟩
  simp only [Instr.lookup, Sem.run_bind, hmap.run_und, Result.andThen_ok, hgo, Sem.run_pure, hck, hfk]
  rfl

theorem run_mkIface (hL : LU P N) {w : World} {v : Value} : (Instr.makeInterface N.t_Luint32 v).run P w = .ok (.iface N.t_Luint32 v) w := by
  simp only [Instr.makeInterface, Sem.run_bind, hL.lu.run_und, Result.andThen_ok]
  rfl
theorem run_mkFunc {fn : Fn} {a b : Array Value} {w : World} : (Instr.makeFunc fn a b).run P w = .ok (.func fn a b) w := rfl

/-- What holds while the tags are told. -/
structure ET (S : List (Nat × List UInt8)) (wS : World) (lo : Nat) (Mo : Nat → Nat → Prop) (I : Nat → List (Nat × List UInt8) → World → Prop) (v0 v1 vr : Value) (j : Nat) (σ : Env) (w : World) : Prop where
  f0 : σ 0 = v0
  f1 : σ 1 = v1
  f7 : σ 7 = vr
  f8 : σ 8 = .int .i64 S.length
  f9 : σ 9 = .int .i64 j
  le : j ≤ S.length
  mod : Mod wS w fun k o => Mo k o ∨ lo ≤ k
  inv : I lo (S.take j) w

def cTellTag (N : Nums) : C :=
  .seq (.ops [⟨(some 0), .indexAddr N.t_Luint32 (V 7) (V 9), 0, none, []⟩, ⟨(some 1), .load N.t_uint32 (T 0), 0, none, []⟩, ⟨(some (11 + 100)), .assign (T 1), 0, none, []⟩])
    (.ops [⟨(some 0), .move (V 1), 0, none, []⟩, ⟨(some 1), .move (V 11), 0, none, []⟩, ⟨(some 2), .move (V 0), 0, none, []⟩, ⟨(some 3), .nilCheck (T 2), 0, none, []⟩, ⟨(some 4), .fieldAddr N.t_Tags (T 3) 0, 0, none, []⟩,
      ⟨(some 5), .load N.t_map_uint32_Luint8 (T 4), 0, none, []⟩, ⟨(some 6), .move (V 11), 0, none, []⟩, ⟨(some 7), .lookup N.t_map_uint32_Luint8 (T 5) (T 6) false, 0, none, []⟩, ⟨(some 8), .call ⟨(.value (T 0)), #[(T 1), (T 7)], #[N.t_uint32, N.t_Luint8]⟩, N.t_, none, []⟩])

/-- What a callback does. -/
def CbOk (P : Program) (f : FuncId) (cap : Value) (lo : Nat) (G : Nat → Prop) (Mo : Nat → Nat → Prop) (I : Nat → List (Nat × List UInt8) → World → Prop) (S : List (Nat × List UInt8)) : Prop :=
  ∀ (j : Nat) (x : Nat × List UInt8) (w1 : World) (v : Value), S[j]? = some x → I lo (S.take j) w1 → lo ≤ w1.heap.size → tagV w1 G v x.2 → Call P f #[.int .u32 x.1, v, cap] w1 fun _ w2 => I lo (S.take (j + 1)) w2 ∧ Mod w1 w2 fun k o => Mo k o ∨ lo ≤ k

theorem tell_round (B : Base P N) (hT : N.t_Tags ≠ 0) (hL : LU P N) {loc : List Nat} {N' : Nat} {Q : Exit → Env → World → Prop} {S l : List (Nat × List UInt8)} {wS w : World} {lo : Nat} {Mo : Nat → Nat → Prop} {I : Nat → List (Nat × List UInt8) → World → Prop} {G : Nat → Prop}
    {b o bs c mr f j : Nat} {es : Array MapEntry} {ck : Nat} {cap : Value} {σ : Env}
    (hS : ∀ x ∈ S, x ∈ l) (hf : hasBody P f) (hcb : CbOk P f cap lo G Mo I S) (hloS : lo ≤ wS.heap.size) (hbs : bs < lo) (hMbs : ∀ o, ¬ Mo bs o) (hblt : b < lo) (hMb : ¬ Mo b o) (hmr : mr < lo) (hMm : ∀ o, ¬ Mo mr o) (hMG : ∀ k, G k → k < lo ∧ ∀ o, ¬ Mo k o)
    (hrow : wS.rangeAt bs 0 (S.map fun x => keyV x.1)) (hcell : wS.cell? ⟨b, o, none⟩ = some (.map (some mr))) (hmap : wS.heap[mr]? = some (.map es ck)) (hent : EntriesG wS G l es.toList) (hnd : (l.map Prod.fst).Nodup)
    (hj : j < S.length) (h : ET S wS lo Mo I (.pointer (some ⟨b, o, none⟩)) (.func (.func f) #[] #[cap]) (.slice (some ⟨bs, 0, none⟩) S.length c) j σ w)
    (hQ : ∀ σ' w', σ' 9 = .int .i64 j → ET S wS lo Mo I (.pointer (some ⟨b, o, none⟩)) (.func (.func f) #[] #[cap]) (.slice (some ⟨bs, 0, none⟩) S.length c) (j + 1) (upd σ' 9 (.int .i64 ((j + 1 : Nat) : Int))) w' → Q .normal σ' w') :
    W P loc N' (cTellTag N) Q σ w := by
  obtain ⟨f0, f1, f7, f8, f9, _, mod, inv⟩ := h
  obtain ⟨_, hHF, hmt⟩ := B.tags hT
  have hs := mod.size
  have no : ∀ {k o : Nat}, k < lo → ¬ Mo k o → ¬ (Mo k o ∨ lo ≤ k) := fun h1 h2 h => h.elim h2 fun h => by omega
  have hx : S[j]? = some S[j] := List.getElem?_eq_getElem hj
  have hrow' : w.rangeAt bs 0 (S.map fun x => keyV x.1) := mod.rangeAt (by omega) (fun i _ _ => no hbs (hMbs i)) hrow
  have hk : w.cell? ⟨bs, j, none⟩ = some (.int .u32 ((S[j]).1 : Int)) := by
    have := hrow' j _ (by rw [List.getElem?_map, hx]; rfl)
    simpa [keyV] using this
  have hcell' : w.cell? ⟨b, o, none⟩ = some (.map (some mr)) := by rw [mod.cell _ _ (by omega) (no hblt hMb)]; exact hcell
  have hmap' : w.heap[mr]? = some (.map es ck) := by rw [mod.block _ (by omega) (fun o => no hmr (hMm o))]; exact hmap
  have hent' : EntriesG w G l es.toList := hent.mod mod fun k hk => ⟨by have := (hMG k hk).1; omega, fun o => no (hMG k hk).1 ((hMG k hk).2 o), hk⟩
  obtain ⟨val, hlk, htv⟩ := run_lookupTag B hT hmap' hent' hnd (show ((S[j]).1, (S[j]).2) ∈ l from hS _ (List.getElem_mem hj))
  unfold cTellTag
  refine W_seq' fun K hK => W_ops fun τ => ?_
  simp (decide := true) only [runR, step_assign, step_load, step_indexAddr, stepV_ok, ev_tmp, put_at, envOf_var, sel_true, BEq.rfl, ldc_some, Nat.reduceAdd, Nat.zero_add, Nat.mul_one, f7, f9, run_indexAt hL.lu B.uint32 hj, B.uint32.run_load1 rfl, hk]
  refine hK _ _ (gen_locs fun σ2 hσ => ?_)
  have g0 := hσ 0
  have g1 := hσ 1
  have g7 := hσ 7
  have g8 := hσ 8
  have g9 := hσ 9
  have g11 := hσ 11
  simp (decide := true) only [put_at, envOf_var, sel_true, sel_false, Nat.reduceBeqDiff, BEq.rfl, Nat.reduceAdd, Nat.zero_add, f0, f1, f7, f8, f9] at g0 g1 g7 g8 g9 g11
  clear hσ hK K
  refine W_ops fun τ => ?_
  simp (decide := true) only [runR, step_move, step_load, step_fieldAddr, ev_tmp, put_at, envOf_var, sel_true, sel_false, Nat.reduceBeqDiff, BEq.rfl, Nat.reduceAdd, Nat.zero_add, g0, g1, g11]
  rw [step_nilCheck rfl]
  simp (decide := true) only [stepV_ok, ev_tmp, put_at, envOf_var, sel_true, sel_false, Nat.reduceBeqDiff, BEq.rfl, ldc_some, Nat.add_zero, hHF.run, hmt.run_load1 rfl, hcell', g11, step_lookup, hlk]
  rw [step_callV (f := f) (cap := #[cap]) (by simp (decide := true) only [put_at, sel_true, sel_false, Nat.reduceBeqDiff, BEq.rfl, ev_tmp]) hf]
  have e2 : ∀ ρ : Env, (#[T 1, T 7] : Array Operand).map (ev ρ) ++ #[cap] = #[ρ 1, ρ 7, cap] := fun ρ => by simp
  rw [e2]
  simp (decide := true) only [put_at, sel_true, sel_false, Nat.reduceBeqDiff, BEq.rfl]
  have := hcb j S[j] w val hx inv (by omega) htv
  refine Call.mono (Rt' := _) this ?_
  rintro v w2 ⟨hi2, hm2⟩
  refine gen_locs (K := fun σ' w' => Q .normal σ' w') fun σ3 hσ => hQ _ _ ?_ ?_
  · have := hσ 9
    simp (decide := true) only [put_at, envOf_var, sel_false, Nat.reduceBeqDiff, Nat.reduceAdd, g9] at this
    exact this
  · have p0 := hσ 0
    have p1 := hσ 1
    have p7 := hσ 7
    have p8 := hσ 8
    simp (decide := true) only [put_at, envOf_var, sel_false, Nat.reduceBeqDiff, Nat.reduceAdd, Nat.zero_add, g0, g1, g7, g8] at p0 p1 p7 p8
    exact ⟨by rw [upd_ne (by decide)]; exact p0, by rw [upd_ne (by decide)]; exact p1, by rw [upd_ne (by decide)]; exact p7, by rw [upd_ne (by decide)]; exact p8, upd_same _ _ _, by omega, mod.trans' hm2, hi2⟩
end
end Go.Kf

/- Tags are gone through: the whole. -/
namespace Go.Kf
open Go Go.RowKit

section
variable {P : Program} {N : Nums}

theorem EntriesG.keys {w : World} {G : Nat → Prop} : ∀ {l : List (Nat × List UInt8)} {es : List MapEntry}, EntriesG w G l es → es.map MapEntry.key = l.map (fun x => keyV x.1)
  | [], es, h => by simp only [EntriesG] at h; subst h; rfl
  | (k, x) :: l, es, ⟨v, b, rest, h1, h2, h3⟩ => by subst h1; simp only [List.map_cons, keyV]; rw [EntriesG.keys h3]; rfl

theorem call_Each (B : Base P N) (F : Fns P N) (hN : N.f_PTags_Each ≠ 0) (hT : N.t_Tags ≠ 0) (hL : LU P N) (hS : SortOk P N) {w : World} {b o f : Nat} {v cap : Value} {G : Nat → Prop} {l : List (Nat × List UInt8)}
    (hc : w.cell? ⟨b, o, none⟩ = some v) (hG : ∀ k, G k → k < w.heap.size) (ht : TagsG w G v l) (hf : hasBody P f) (hsz : l.length < 1099511627776) (I : Nat → List (Nat × List UInt8) → World → Prop) (Mo : Nat → Nat → Prop)
    (hMo : ∀ k o, Mo k o → k < w.heap.size) (hMb : ¬ Mo b o) (hMG : ∀ k, G k → ∀ o, ¬ Mo k o) (hI0 : ∀ w', Mod w w' none' → I w'.heap.size [] w') (hcb : ∀ lo, w.heap.size ≤ lo → CbOk P f cap lo G Mo I (sortTags l)) :
    Call P N.f_PTags_Each #[.pointer (some ⟨b, o, none⟩), .func (.func f) #[] #[cap]] w fun _ w' => ∃ lo, w.heap.size ≤ lo ∧ lo ≤ w'.heap.size ∧ I lo (sortTags l) w' ∧ Mod w w' Mo := by
  obtain ⟨_, hHF, hmt⟩ := B.tags hT
  have hb : b < w.heap.size := cell_lt (by rw [hc]; rfl)
  refine (F.PTags_Each hN).1.call rfl fun loc N' hlo => ?_
  unfold c_PTags_Each
  obtain ⟨σ, hσ⟩ : ∃ σ, σ = argEnv #[.pointer (some ⟨b, o, none⟩), .func (.func f) #[] #[cap]] := ⟨_, rfl⟩
  have f0 : σ 0 = .pointer (some ⟨b, o, none⟩) := by rw [hσ]; rfl
  have f1 : σ 1 = .func (.func f) #[] #[cap] := by rw [hσ]; rfl
  rw [← hσ]
  clear hσ
  have emptyS : ∀ σ' : Env, l = [] → retQ P [] (fun _ w' => ∃ lo, w.heap.size ≤ lo ∧ lo ≤ w'.heap.size ∧ I lo (sortTags l) w' ∧ Mod w w' Mo) .ret σ' w := by
    intro σ' e
    subst e
    exact ⟨.inr rfl, .tuple #[], rfl, w.heap.size, Nat.le_refl _, Nat.le_refl _, by simpa [sortTags] using hI0 w (.refl _ _), .refl _ _⟩
  rcases ht with ⟨rfl, hl⟩ | ⟨mr, es, ck, rfl, hGm, hmap, hborn, hbnd, hent, hknd, hkb⟩
  · refine W_seq' fun K hK => W_seq' fun K1 hK1 => W_ops fun τ => ?_
    simp (decide := true) only [runR, step_move, step_load, step_binOp, step_fieldAddr, step_len, ev_tmp, ev_const, put_at, envOf_var, sel_true, BEq.rfl, Nat.reduceAdd, Nat.zero_add, f0]
    rw [step_nilCheck rfl]
    simp (decide := true) only [run_ieql, stepV_ok, put_at, sel_true, BEq.rfl, ldc_some, Nat.add_zero, hHF.run, hmt.run_load1 rfl, hc, run_lenMap0 hmt.und]
    refine hK1 _ _ (gen_locs fun σ1 hσ => ?_)
    have g2 := hσ 2
    simp (decide := true) only [put_at, sel_true, BEq.rfl, Nat.reduceAdd] at g2
    refine W_if hlo g2 ?_
    rw [if_pos rfl]
    exact W_ret (emptyS _ hl)
  have hlen : es.size = l.length := by
    have := congrArg List.length hent.keys
    simpa using this
  refine W_seq' fun K hK => W_seq' fun K1 hK1 => W_ops fun τ => ?_
  simp (decide := true) only [runR, step_move, step_load, step_binOp, step_fieldAddr, step_len, ev_tmp, ev_const, put_at, envOf_var, sel_true, BEq.rfl, Nat.reduceAdd, Nat.zero_add, f0]
  rw [step_nilCheck rfl]
  simp (decide := true) only [run_ieql, stepV_ok, put_at, sel_true, BEq.rfl, ldc_some, Nat.add_zero, hHF.run, hmt.run_load1 rfl, hc, run_lenMap hmt.und hmap]
  refine hK1 _ _ (gen_locs fun σ1 hσ => ?_)
  have g0 := hσ 0
  have g1 := hσ 1
  have g2 := hσ 2
  simp (decide := true) only [put_at, envOf_var, sel_true, sel_false, Nat.reduceBeqDiff, BEq.rfl, Nat.reduceAdd, Nat.zero_add, f0, f1] at g0 g1 g2
  clear hσ hK1 K1
  refine W_if hlo g2 ?_
  by_cases h0 : l = []
  · have : (((es.size : Nat) : Int) == 0) = true := by rw [hlen, h0]; rfl
    rw [if_pos this]
    exact W_ret (emptyS _ h0)
  have hpos : 0 < l.length := List.length_pos_iff.2 h0
  have : (((es.size : Nat) : Int) == 0) = false := by rw [hlen]; simp; omega
  rw [if_neg (by rw [this]; simp)]
  refine W_skip (hK _ _ ?_)
  clear hK K emptyS
  -- a list for the keys
  obtain ⟨w1, hmk, ho1, m1, s1⟩ := run_makeRoom (w := w) (n := es.size) hL.lu B.uint32 rfl (by omega) (by omega)
  obtain ⟨w2, hw2⟩ : ∃ w2, w2 = w1.alloc (.cells (Value.cells (.slice none 0 0)) N.t_Luint32) := ⟨_, rfl⟩
  have m2 : Mod w1 w2 none' := by rw [hw2]; exact Mod.alloc _ _ _
  have s2 : w2.heap.size = w1.heap.size + 1 := by rw [hw2]; exact alloc_size _ _
  have r2 : w2.rangeAt w1.heap.size 0 [.slice none 0 0] := by rw [hw2]; exact rangeAt_alloc w1 _ _ _
  have t2 : w2.there w1.heap.size 0 1 := by rw [hw2]; exact there_alloc w1 _ _
  have hst := hL.lu.run_store1 (w := w2) (b := w1.heap.size) (o := 0) (v := .slice (some ⟨w.heap.size, 0, none⟩) 0 es.size) rfl t2
  obtain ⟨w3, hw3⟩ : ∃ w3, w3 = w2.setCell ⟨w1.heap.size, 0, none⟩ (.slice (some ⟨w.heap.size, 0, none⟩) 0 es.size) := ⟨_, rfl⟩
  have m3 : Mod w2 w3 (blk w1.heap.size) := by rw [hw3]; exact Mod.setCell fun _ => rfl
  have s3 : w3.heap.size = w2.heap.size := by rw [hw3]; simp [World.setCell]
  have c3 : w3.cell? ⟨w1.heap.size, 0, none⟩ = some (.slice (some ⟨w.heap.size, 0, none⟩) 0 es.size) := by rw [hw3]; exact World.cell?_setCell_same _ _ _ (r2 0 _ rfl)
  have hal := hL.lu.run_alloc (w := w1) (.tuple #[])
  refine W_seq' fun K hK => W_ops fun τ => ?_
  simp (decide := true) only [runR, step_move, step_alloc, step_load, step_store, step_fieldAddr, step_len, ev_tmp, put_at, envOf_var, sel_true, sel_false, Nat.reduceBeqDiff, BEq.rfl, Nat.reduceAdd, Nat.zero_add, g0]
  rw [step_nilCheck rfl]
  simp (decide := true) only [stepV_ok, stepU_ok, ev_tmp, ev_const, put_at, sel_true, BEq.rfl, ldc_some, Nat.add_zero, hHF.run, hmt.run_load1 rfl, hc, run_lenMap hmt.und hmap, step_makeSlice, hmk, hal, ← hw2, hst, ← hw3]
  obtain ⟨b3, hb3⟩ : ∃ b3, b3 = w1.heap.size := ⟨_, rfl⟩
  rw [← hb3] at c3 m3 t2 ⊢
  refine hK _ _ (gen_locs fun σ2 hσ => ?_)
  have p0 := hσ 0
  have p1 := hσ 1
  have p3 := hσ 3
  simp (decide := true) only [put_at, envOf_var, sel_true, sel_false, Nat.reduceBeqDiff, BEq.rfl, Nat.reduceAdd, Nat.zero_add, g0, g1] at p0 p1 p3
  clear hσ hK K hmk hal hst hw3 hw2 r2
  have m03 : Mod w w3 none' := (m1.trans' m2).fresh m3 fun k o e => by have : k = b3 := e; omega
  have hc3 : w3.cell? ⟨b, o, none⟩ = some (.map (some mr)) := by rw [m03.cell _ _ hb (fun h => h)]; exact hc
  have hmrlt := hG mr hGm
  have hmap3 : w3.heap[mr]? = some (.map es ck) := by rw [m03.block _ hmrlt (fun o h => h)]; exact hmap
  -- the map is ranged over
  refine W_seq' fun K hK => W_seq' fun K1 hK1 => W_ops fun τ => ?_
  simp (decide := true) only [runR, step_move, step_load, step_fieldAddr, ev_tmp, put_at, envOf_var, sel_true, BEq.rfl, Nat.reduceAdd, Nat.zero_add, p0]
  rw [step_nilCheck rfl]
  simp (decide := true) only [stepV_ok, ev_tmp, put_at, sel_true, BEq.rfl, ldc_some, Nat.add_zero, hHF.run, hmt.run_load1 rfl, hc3, step_range, run_range_map w3 _ _ _ mr es ck hmt.und hmap3]
  obtain ⟨w4, hw4⟩ : ∃ w4, w4 = w3.alloc (.mapIter (some mr) ck #[] ck) := ⟨_, rfl⟩
  have m4 : Mod w3 w4 none' := by rw [hw4]; exact Mod.alloc _ _ _
  have s4 : w4.heap.size = w3.heap.size + 1 := by rw [hw4]; exact alloc_size _ _
  have i4 : w4.heap[w3.heap.size]? = some (.mapIter (some mr) ck #[] ck) := by rw [hw4]; exact alloc_new _ _
  rw [← hw4]
  clear hw4
  refine hK1 _ _ (gen_locs fun σ4 hσ => ?_)
  have q0 := hσ 0
  have q1 := hσ 1
  have q3 := hσ 3
  have q4 := hσ 4
  simp (decide := true) only [put_at, envOf_var, sel_true, sel_false, Nat.reduceBeqDiff, BEq.rfl, Nat.reduceAdd, Nat.zero_add, p0, p1, p3] at q0 q1 q3 q4
  clear hσ hK1 K1
  have m04 : Mod w w4 none' := m03.trans' m4
  have m14 : Mod w1 w4 none' := (m2.fresh m3 fun k o e => by have : k = b3 := e; omega).trans' m4
  have hEC : EC es.toList ck mr w w.heap.size b3 w3.heap.size (.pointer (some ⟨b, o, none⟩)) (.func (.func f) #[] #[cap]) [] σ4 w4 := by
    refine ⟨q0, q1, q3, q4, m04, by rw [m04.block _ hmrlt (fun o h => h)]; simpa using hmap, ⟨#[], i4, rfl⟩, fun e he => by simp at he, by simp, ⟨.slice (some ⟨w.heap.size, 0, none⟩) 0 es.size, ?_, m4.there (by omega) (m3.there (by omega) t2), ho1.stay m14 fun _ _ _ h => h, ?_, ?_⟩, by omega, by omega, by omega, by omega, by omega, by omega, by omega, by omega⟩
    · rw [m4.cell _ _ (by omega) (fun h => h)]; exact c3
    · intro b' o' s' n' c' e; injection e with e1 _ _; injection e1 with e2; injection e2 with e3; omega
    · intro b' o' s' n' c' e; injection e with e1 _ _; injection e1 with e2; injection e2 with e3; omega
  have hkey1 : ∀ e ∈ es.toList, e.key.oneCell' = true := fun e he => by
    have : e.key ∈ es.toList.map MapEntry.key := List.mem_map.2 ⟨e, he, rfl⟩
    rw [hent.keys] at this
    obtain ⟨x, _, hx⟩ := List.mem_map.1 this
    rw [← hx]; rfl
  refine W_block (W_loop (fun n σ w' => ∃ picked, n = es.toList.length - picked.length ∧ EC es.toList ck mr w w.heap.size b3 w3.heap.size (.pointer (some ⟨b, o, none⟩)) (.func (.func f) #[] #[cap]) picked σ w') (n := es.toList.length - [].length) ⟨[], rfl, hEC⟩ ?_)
  rintro n σ5 w5 ⟨picked, rfl, h5⟩
  refine collect_round B hL hlo hborn hbnd hkey1 (by simp; omega) h5 (fun σ6 w6 h6 hperm => ?_) fun σ6 w6 e hlt h6 => ⟨_, by simp at hlt ⊢; omega, picked ++ [e], rfl, h6⟩
  simp only [thenQ, inB, if_true]
  refine hK _ _ ?_
  clear hK K h5 hEC i4 ho1
  obtain ⟨r0, r1, r3, _, m06, map6, _, _, _, ⟨v6, hc6, ht6, ho6, nb3, _⟩, _, _, _, _, _, _, _, _⟩ := h6
  -- the keys, as a list
  obtain ⟨ks, hks, hkp⟩ : ∃ ks : List Nat, picked.map MapEntry.key = ks.map keyV ∧ ks.Perm (l.map Prod.fst) := by
    have hp2 : (picked.map MapEntry.key).Perm ((l.map Prod.fst).map keyV) := by
      have := hperm.map MapEntry.key
      rw [hent.keys] at this
      simpa [Function.comp_def] using this
    refine ⟨picked.map fun e => match e.key with | .int _ k => k.toNat | _ => 0, ?_, ?_⟩
    · rw [List.map_map]
      refine List.map_congr_left fun e he => ?_
      have : e.key ∈ (l.map Prod.fst).map keyV := hp2.mem_iff.1 (List.mem_map.2 ⟨e, he, rfl⟩)
      obtain ⟨k, _, hk⟩ := List.mem_map.1 this
      simp only [Function.comp, ← hk, keyV]
      simp
    · have := hp2.map fun v : Value => match v with | .int _ k => k.toNat | _ => 0
      simpa [Function.comp_def, keyV] using this
  have hpl : picked.length = l.length := by have := hperm.length_eq; simpa [hlen] using this
  have hkl : ks.length = l.length := by have := hkp.length_eq; simpa using this
  rw [hks, hpl] at ho6
  obtain ⟨bs, cs, rfl, hb1, hb2, hnc, hth, hrg, _⟩ : ∃ bs c, v6 = .slice (some ⟨bs, 0, none⟩) l.length c ∧ w.heap.size ≤ bs ∧ bs < w6.heap.size ∧ l.length ≤ c ∧ w6.there bs 0 (c * 1) ∧ w6.rangeAt bs 0 (ks.map keyV) ∧ (ks.map keyV).length = l.length * 1 := by
    rcases ho6 with ⟨_, h, _⟩ | h
    · omega
    · exact h
  have hb3s : b3 ≠ bs := nb3 bs 0 none _ _ rfl
  have s6 := m06.size
  have hso := hS.ok w6 b3 bs cs ks (by rw [hkl]; exact hc6) hb3s hb2 (fun e => by rw [e] at hkl; simp at hkl; omega) (by omega) hrg (fun i hi => hth i (by omega))
  rw [hkl] at hso
  refine W_seq' fun K hK => W_ops fun τ => ?_
  simp (decide := true) only [runR, step_load, stepV_ok, ev_tmp, put_at, envOf_var, sel_true, BEq.rfl, ldc_some, Nat.reduceAdd, r3, hL.lu.run_load1 rfl, hc6, step_makeInterface, run_mkIface hL, step_makeFunc, run_mkFunc]
  have e3 : ∀ ρ : Env, ρ 103 = .pointer (some ⟨b3, 0, none⟩) → (#[V 3] : Array Operand).map (ev ρ) = #[.pointer (some ⟨b3, 0, none⟩)] := fun ρ h => by simp [h]
  have e4 : ∀ ρ : Env, (#[] : Array Operand).map (ev ρ) = #[] := fun ρ => by simp
  rw [step_call2 hS.has]
  simp (decide := true) only [ev_tmp, put_at, sel_true, sel_false, Nat.reduceBeqDiff, BEq.rfl, e4]
  rw [e3 _ (by simp (decide := true) only [put_at, envOf_var, sel_false, Nat.reduceBeqDiff, r3])]
  refine Call.mono (Rt' := _) hso ?_
  rintro _ w7 ⟨ks', hkp', hks', hrg7, m7⟩
  refine gen_locs (K := fun σ' w' => thenQ K _ .normal σ' w') fun σ7 hσ => hK _ _ ?_
  have u0 := hσ 0
  have u1 := hσ 1
  have u3 := hσ 3
  simp (decide := true) only [put_at, envOf_var, sel_false, Nat.reduceBeqDiff, Nat.reduceAdd, Nat.zero_add, r0, r1, r3] at u0 u1 u3
  clear hσ hK K hso
  have s7 := m7.size
  have m07 : Mod w w7 none' := m06.fresh m7 fun k o e => by have : k = bs := e; omega
  have hc7 : w7.cell? ⟨b3, 0, none⟩ = some (.slice (some ⟨bs, 0, none⟩) l.length cs) := by
    rw [m7.cell _ _ (cell_lt (by rw [hc6]; rfl)) (fun h => hb3s h)]; exact hc6
  have hkeq : ks' = (sortTags l).map Prod.fst := sorted_eq (hkp'.trans (hkp.trans ((sortTags_perm l).map Prod.fst).symm)) hks' (sortTags_le l)
  have hSl : (sortTags l).length = l.length := (sortTags_perm l).length_eq
  -- each is told
  refine W_seq' fun K hK => W_ops fun τ => ?_
  simp (decide := true) only [runR, step_move, step_load, step_len, stepV_ok, ev_tmp, ev_const, put_at, envOf_var, sel_true, BEq.rfl, ldc_some, Nat.reduceAdd, u3, hL.lu.run_load1 rfl, hc7, hL.lu.run_len]
  refine hK _ _ (gen_locs fun σ8 hσ => ?_)
  have k0 := hσ 0
  have k1 := hσ 1
  have k7 := hσ 7
  have k8 := hσ 8
  have k9 := hσ 9
  simp (decide := true) only [put_at, envOf_var, sel_true, sel_false, Nat.reduceBeqDiff, BEq.rfl, Nat.reduceAdd, Nat.zero_add, u0, u1] at k0 k1 k7 k8 k9
  clear hσ hK K
  have no : ∀ {k : Nat} {o : Nat}, Mo k o → w.heap.size ≤ k → False := fun h1 h2 => by have := hMo _ _ h1; omega
  rw [← hSl] at k7 k8
  refine W_cRange (i := 9) (l := 8) (c := 10) (k := 2) hlo (L := (sortTags l).length) (by omega) (ET (sortTags l) w7 w7.heap.size Mo I (.pointer (some ⟨b, o, none⟩)) (.func (.func f) #[] #[cap]) (.slice (some ⟨bs, 0, none⟩) (sortTags l).length cs)) (fun j σ w h => ⟨h.f9, h.f8, h.le⟩) (fun j σ w b h => ?_) ?_ (fun σ9 w9 h => ?_) (fun j σ' w' hj h => ?_)
  · exact ⟨by rw [upd_ne (by decide)]; exact h.f0, by rw [upd_ne (by decide)]; exact h.f1, by rw [upd_ne (by decide)]; exact h.f7, by rw [upd_ne (by decide)]; exact h.f8, by rw [upd_ne (by decide)]; exact h.f9, h.le, h.mod, h.inv⟩
  · exact ⟨k0, k1, k7, k8, k9, Nat.zero_le _, .refl _ _, hI0 w7 m07⟩
  · have hinv := h.inv
    rw [List.take_length] at hinv
    exact ⟨.inl rfl, .tuple #[], rfl, w7.heap.size, m07.size, h.mod.size, hinv, m07.trans h.mod fun k o hk h => h.elim False.elim fun h => h.elim id fun h => by have := m07.size; omega⟩
  · refine tell_round B hT hL (l := l) (G := G) (mr := mr) (es := es) (ck := ck) (fun x hx => (sortTags_perm l).mem_iff.1 hx) hf (hcb w7.heap.size m07.size) (Nat.le_refl _) (by omega) (fun o h => no h (by omega)) (by omega) hMb (by omega) (hMG mr hGm) (fun k hk => ⟨by have := hG k hk; omega, hMG k hk⟩) ?_ ?_ ?_ ?_ hknd hj h fun σ' w' h1 h2 => ⟨h1, h2⟩
    · rw [hkeq] at hrg7
      simpa [Function.comp_def] using hrg7
    · rw [m07.cell _ _ hb (fun h => h)]; exact hc
    · rw [m07.block _ hmrlt (fun o h => h)]; exact hmap
    · exact hent.mod m07 fun k hk => ⟨hG k hk, fun _ h => h, hk⟩
end
end Go.Kf

/- sort.Slice over the keys of tags, by the library's contract. -/
namespace Go.Kf
open Go Go.RowKit

/-- What the program must bear for that. -/
structure SortT (P : Program) (N : Nums) : Prop where
  has : hasBody P N.f_sort_Slice
  out : ∃ (ρ : Go.Shelf.Ren) (i ie : TypeInfo) (f6 f2 : Nat), Go.Proofs.LaysGg.n6 P ρ ∧ ρ.f 6 = N.f_sort_Slice ∧ P.info? N.t_Luint32 = some i ∧ i.desc = .slice N.t_uint32 ∧ P.packed N.t_Luint32 = false ∧ P.info? N.t_uint32 = some ie ∧
    (∀ w, (Extern.Rtype.kind N.t_uint32).run P w = .ok 10 w) ∧ ie.hasPointers = false ∧ ie.bytes = 4 ∧ ie.size = 1 ∧
    P.funcs.findIdx? (·.name == "internal/reflectlite" ++ ".Swapper$" ++ toString 6) = some f6 ∧ P.funcs.findIdx? (·.name == "internal/reflectlite" ++ ".Swapper$" ++ toString 2) = some f2 ∧
    ∀ args W, (callFunc f6 args).run P W = ((Extern.ReflectliteSwapper.swap true args).run P W).andThen fun v w' => .ok (.value v) w'

section
variable {P : Program} {N : Nums}

theorem Mod.grow (w : World) (os : Array Obj) (M : Nat → Nat → Prop) : Mod w (Go.Sort.grow w os) M :=
  .of_blocks rfl rfl rfl (by rw [Go.Sort.size_grow]; omega) fun k hk => Go.Sort.heap_grow_old w os hk

theorem Mod.ahead (w : World) (n : Nat) (M : Nat → Nat → Prop) : Mod w (Go.Sort.ahead w n) M := .of_blocks rfl rfl rfl (Nat.le_refl _) fun _ _ => rfl

theorem heap_putRow (enc : Int → Value) (w : World) (bs : Nat) (d : Array Int) (k : Nat) : (Go.Sort.putRow enc w bs 0 d).heap[k]? = if bs = k then (w.heap[k]?).map (Go.Sort.onCells (Go.Sort.putCells enc 0 d)) else w.heap[k]? := by
  simp only [Go.Sort.putRow, Go.Sort.mapBlock, Array.getElem?_modify]

theorem Mod.putRow (enc : Int → Value) (w : World) (bs : Nat) (d : Array Int) : Mod w (Go.Sort.putRow enc w bs 0 d) (blk bs) := by
  have hne : ∀ k, k ≠ bs → (Go.Sort.putRow enc w bs 0 d).heap[k]? = w.heap[k]? := fun k hk => by rw [heap_putRow, if_neg (fun e => hk e.symm)]
  have hsame : (Go.Sort.putRow enc w bs 0 d).heap[bs]? = (w.heap[bs]?).map (Go.Sort.onCells (Go.Sort.putCells enc 0 d)) := by rw [heap_putRow, if_pos rfl]
  refine ⟨rfl, rfl, rfl, by rw [Go.Sort.size_putRow]; exact Nat.le_refl _, fun k hk hn => hne k fun e => hn 0 e, fun k o hk hn => World.cell?_of_block (hne k fun e => hn e), fun k o hk => ?_, fun k o hk => Go.Sort.frozen?_putRow enc w bs 0 d _, fun k hk => ?_⟩
  · by_cases e : k = bs
    · subst e
      simp only [World.cell?, hsame]
      cases w.heap[k]? with
      | none => rfl
      | some ob =>
        cases ob <;> simp [Go.Sort.onCells, Go.Sort.putCells]
    · rw [World.cell?_of_block (hne k e)]
  · by_cases e : k = bs
    · subst e
      simp only [World.shape?, hsame]
      cases w.heap[k]? with
      | none => rfl
      | some ob =>
        cases ob <;> simp [Go.Sort.onCells, Go.Sort.putCells]
    · simp only [World.shape?, hne k e]

theorem sortOk (B : Base P N) (F : Fns P N) (hN : N.f_PTags_Each_1 ≠ 0) (hL : LU P N) (hT : SortT P N) : SortOk P N := by
  refine ⟨hT.has, fun w bv bs c ks hv hne hbs hks0 hkl hrg hth => ?_⟩
  obtain ⟨ρ, i, ie, f6, f2, L, hρ, hi, hd, hpk, hie, hke, hp, hby, hs1, hf6, hf2, hx⟩ := hT.out
  have hless1 := (F.PTags_Each_1 hN).has
  obtain ⟨ks0, hks⟩ : ∃ d : Array Int, d = (ks.map fun k : Nat => (k : Int)).toArray := ⟨_, rfl⟩
  have hsz : ks0.size = ks.length := by rw [hks]; simp
  have hget : ∀ t, t < ks.length → ks0[t]! = ((ks.getD t 0 : Nat) : Int) := fun t ht => by
    rw [hks, getElem!_pos _ t (by simpa using ht)]
    simp [List.getD, ht]
  unfold Call
  rw [← hρ]
  by_cases h2 : 2 ≤ ks.length
  · have hH : Go.Sort.Holds (Value.int .u32) w bs 0 ks0 := by
      intro j hj
      rw [hsz] at hj
      refine ⟨?_, by have := (hth j hj).2; simpa using this⟩
      have := hrg j (keyV (ks.getD j 0)) (by rw [List.getElem?_map, List.getElem?_eq_getElem hj]; simp [List.getD, hj])
      rw [hget j hj]
      exact this
    have hless : Go.Proofs.LessReads P N.f_PTags_Each_1 #[.pointer (some ⟨bv, 0, none⟩)] (Value.int .u32) Go.Sort.ltInt bs 0 ks0.size w := by
      intro m os dk hdk a b ha hb
      have e : Go.Proofs.sortWorld (Value.int .u32) w bs 0 m dk os = Go.Sort.putRow (Value.int .u32) (Go.Sort.grow (Go.Sort.ahead w m) os) bs 0 dk := by
        unfold Go.Proofs.sortWorld; rw [Go.Sort.putRow_grow _ (Go.Sort.ahead w m) _ bs 0 _ hbs]
      have hHg : Go.Sort.Holds (Value.int .u32) (Go.Sort.grow (Go.Sort.ahead w m) os) bs 0 ks0 := Go.Sort.holds_grow _ _ _ bs 0 ks0 hbs (Go.Sort.holds_ahead _ _ _ _ _ _ hH)
      have hvl : bv < w.heap.size := cell_lt (by rw [hv]; rfl)
      have hc := call_less (st := hL.lu) (w := Go.Proofs.sortWorld (Value.int .u32) w bs 0 m dk os) (bv := bv) (blk := bs) (n := ks.length) (c := c) B F hN (by
        rw [e, Go.Sort.cell?_putRow_other _ _ bs 0 dk _ (.inl hne), Go.Sort.cell?_grow _ _ _ hvl]; exact hv) (g := fun t => dk[t]!) (fun t ht => by
        rw [e]
        have := Go.Sort.cell?_putRow (Value.int .u32) _ bs 0 ks0 dk hHg hdk t (by rw [hdk, hsz]; exact ht)
        simpa using this) (show a < ks.length by rw [← hsz]; exact ha) (show b < ks.length by rw [← hsz]; exact hb)
      refine Calls.mono hc ?_
      rintro ex w' ⟨v, rfl, rfl, rfl⟩
      exact ⟨rfl, 1, rfl⟩
    have hsw : Go.Lib.swapperK ks0.size ie 10 = 6 := by
      have a : (ks0.size == 0) = false := beq_eq_false_iff_ne.2 (by omega)
      have b : (ks0.size == 1) = false := beq_eq_false_iff_ne.2 (by omega)
      simp [Go.Lib.swapperK, hp, hby, a, b]
    have hS := Go.Proofs.Any.sort_Slice_sorted L N.t_Luint32 N.t_uint32 i ie hi hd hpk hie 10 hke hs1 (fun w => B.uint32.run_isAgg) (Value.int .u32) (fun _ => rfl) Go.Sort.ltInt Go.Sort.swo_ltInt N.f_PTags_Each_1 #[.pointer (some ⟨bv, 0, none⟩)]
      (fun args w => run_callFunc hless1) bs 0 c ks0 (by omega) (by omega) f6 (by rw [hsw]; exact hf6) true hx w hless hH hbs
    rw [hsz] at hS
    refine Calls.mono hS ?_
    rintro e w' ⟨rfl, d', n, os, hperm, hso, rfl⟩
    obtain ⟨hd's, _, hpm⟩ := hperm
    rw [show d'.extract 0 ks.length = d' by rw [← hsz, ← hd's]; simp, show ks0.extract 0 ks.length = ks0 by rw [← hsz]; simp] at hpm
    refine ⟨_, rfl, d'.toList.map Int.toNat, ?_, ?_, ?_, ?_⟩
    · have := hpm.map Int.toNat
      rw [hks] at this
      simpa [Function.comp_def] using this
    · have hnn : ∀ x ∈ d'.toList, 0 ≤ x := fun x hx => by
        have := hpm.mem_iff.1 hx
        rw [hks] at this
        simp at this
        obtain ⟨k, _, rfl⟩ := this
        omega
      rw [List.pairwise_map, List.pairwise_iff_getElem]
      intro a b ha hb hab
      have h3 := hso a b (Nat.zero_le _) hab (by rw [← hsz, ← hd's]; simpa using hb)
      rw [getElem!_pos d' a (by simpa using ha), getElem!_pos d' b (by simpa using hb)] at h3
      simp only [Go.Sort.ltInt, decide_eq_false_iff_not] at h3
      simp only [Array.getElem_toList]
      omega
    · have hds : d'.size = ks.length := by omega
      intro j v hj
      have hjl : j < d'.size := by
        have := (List.getElem?_eq_some_iff.1 hj).1
        simpa using this
      have hH2 : Go.Sort.Holds (Value.int .u32) (Go.Sort.ahead w n) bs 0 ks0 := Go.Sort.holds_ahead _ _ _ _ _ _ hH
      have hc := Go.Sort.cell?_putRow (Value.int .u32) (Go.Sort.ahead w n) bs 0 ks0 d' hH2 hd's j hjl
      rw [Go.Sort.cell?_grow _ _ _ (by rw [Go.Sort.size_putRow]; exact hbs), hc]
      rw [List.getElem?_map, List.getElem?_map] at hj
      have hnn : 0 ≤ d'[j] := by
        have := hpm.mem_iff.1 (show d'[j] ∈ d'.toList by simp)
        rw [hks] at this
        simp at this
        obtain ⟨k, _, h⟩ := this
        omega
      rw [getElem!_pos d' j hjl]
      have : d'.toList[j]? = some d'[j] := by simp [hjl]
      rw [this] at hj
      simp [keyV] at hj
      rw [← hj, Int.max_eq_left hnn]
    · exact (((Mod.ahead w n _).trans' (Mod.putRow _ _ bs d')).trans' (Mod.grow _ os _))
  · obtain ⟨k, rfl⟩ : ∃ k, ks = [k] := by
      match ks, hks0, h2 with
      | [k], _, _ => exact ⟨k, rfl⟩
      | a :: b :: l, _, h => simp at h
    have hS := Go.Proofs.Any.sort_Slice_tiny L N.t_Luint32 N.t_uint32 i ie hi hd hpk hie 10 hke (some ⟨bs, 0, none⟩) 1 c (Nat.le_refl _) f2 (by simpa [Go.Lib.swapperK] using hf2) (.func N.f_PTags_Each_1) #[] #[.pointer (some ⟨bv, 0, none⟩)] w
    refine Calls.mono hS ?_
    rintro e w' ⟨rfl, os, rfl⟩
    exact ⟨_, rfl, [k], List.Perm.refl _, by simp, (Mod.grow w os none').rangeAt hbs (fun _ _ _ h => h) hrg, Mod.grow _ _ _⟩
end
end Go.Kf

/- A tag is told: the closure. -/
namespace Go.Kf
open Go Go.RowKit

section
variable {P : Program} {N : Nums}

def cTagFn (N : Nums) : C := .draw [
  ⟨some 0, .fieldAddr N.t_Tree (V 2) 4, 0, none, []⟩, ⟨some 1, .load N.t_LTag (T 0), 0, none, [0]⟩, ⟨some 2, .move (V 0), 0, none, []⟩, ⟨some 3, .move (V 1), 0, none, []⟩,
  ⟨some 4, .call ⟨.builtin .append, #[.const (.slice none 0 0), T 3], #[N.t_Luint8, N.t_Luint8]⟩, N.t_Luint8, none, [3]⟩,
  ⟨some 5, .build N.t_Tag #[(0, T 2), (1, T 4)], 0, none, [2, 4]⟩, ⟨some 6, .buildSlice N.t_LTag 1 #[(0, T 5)], 0, none, [5]⟩,
  ⟨some 7, .call ⟨.builtin .append, #[T 1, T 6], #[N.t_LTag, N.t_LTag]⟩, N.t_LTag, none, [1, 6, 4]⟩,
  ⟨some 8, .fieldAddr N.t_Tree (V 2) 4, 0, none, [0, 1, 2, 3, 4, 5, 6, 7]⟩, ⟨none, .store N.t_LTag (T 8) (T 7), 0, none, [8, 7, 7, 0, 1, 2, 3, 4, 5, 6, 7]⟩]

/-- What holds while tags are told: the tree's cell of tags. -/
def UI (bT lo : Nat) (l : List (Nat × List UInt8)) (w : World) : Prop :=
  ∃ v cs, w.cell? ⟨bT, 4, none⟩ = some v ∧ w.there bT 4 1 ∧ Own w lo 2 v l.length cs ∧ UsG w (GX (fun _ => False) lo w v) l cs

theorem tag_cb (B : Base P N) (hI : ImplT P N) {f : FuncId} (hF : FOk P f 3 (cTagFn N) []) {bT lo : Nat} {G : Nat → Prop} {S : List (Nat × List UInt8)} (hb : bT < lo) (hS : S.length < 1099511627776) (hSl : ∀ x ∈ S, x.2.length < 1099511627776) :
    CbOk P f (.pointer (some ⟨bT, 0, none⟩)) lo G (fun k o => k = bT ∧ o = 4) (UI bT) S := by
  intro j x w v hx hui hlo htv
  obtain ⟨vu, cs, hc, ht, ho, hus⟩ := hui
  obtain ⟨fs', hI1⟩ := hI.tu
  have hjS := (List.getElem?_eq_some_iff.1 hx).1
  have htl : (S.take j).length = j := by rw [List.length_take]; omega
  rw [htl] at ho
  have hxl := hSl x (List.mem_of_getElem? hx)
  have hv : ∀ k, ¬ notBlk vu k → lo ≤ k ∧ k < w.heap.size := fun k hk => ho.blk hk
  refine hF.call rfl fun loc N' hloc => ?_
  unfold cTagFn
  obtain ⟨σ, hσ⟩ : ∃ σ, σ = argEnv #[.int .u32 x.1, v, .pointer (some ⟨bT, 0, none⟩)] := ⟨_, rfl⟩
  have f0 : σ 0 = .int .u32 x.1 := by rw [hσ]; rfl
  have f1 : σ 1 = v := by rw [hσ]; rfl
  have f2 : σ 2 = .pointer (some ⟨bT, 0, none⟩) := by rw [hσ]; rfl
  rw [← hσ]
  clear hσ
  refine W_drawM B.mixed [true, true, true, true, false, false, false, false, false, false] (by kernel_rfl) (fun w' => w'.cell? ⟨bT, 4, none⟩ = some vu) hc fun τ => ?_
  have e0 : envOf σ τ 100 = .int .u32 x.1 := by rw [← f0]; exact envOf_var σ τ 0
  have e1 : envOf σ τ 101 = v := by rw [← f1]; exact envOf_var σ τ 1
  have e2 : envOf σ τ 102 = .pointer (some ⟨bT, 0, none⟩) := by rw [← f2]; exact envOf_var σ τ 2
  refine readsZ_cons (.pointer (some ⟨bT, 4, none⟩)) (fun w' _ => exec_val (by
    simp (decide := true) only [ev_tmp, e2, hI.h4.run])) rfl ?_
  refine readsZ_cons vu (fun w' hw => exec_val (by
    simp (decide := true) only [put_at, sel_true, BEq.rfl, ev_tmp, hI.lg.run_load1 rfl, hw, ldc_some])) rfl ?_
  refine readsZ_cons (.int .u32 x.1) (fun w' hw => by
    rw [exec_move, ev_tmp]
    simp (decide := true) only [put_at, envOf_var, sel_false, Nat.reduceBeqDiff, Nat.zero_add, f0]) rfl ?_
  refine readsZ_cons v (fun w' hw => by
    rw [exec_move, ev_tmp]
    simp (decide := true) only [put_at, envOf_var, sel_false, Nat.reduceBeqDiff, Nat.reduceAdd, f1]) rfl ?_
  simp only [readsZ, chainOps, List.zip_cons_cons, List.zip_nil_right, List.zipWith_cons_cons, List.zipWith_nil_right, List.filter, Bool.not_true, Bool.not_false, List.map, chainZ]
  have htvd : tagV w.drew G v x.2 := htv
  obtain ⟨v4, w6, hcp, htv6, m6d⟩ := run_copyOct (ty := N.t_Luint8) B htvd hxl
  have m6 : Mod w w6 none' := (Mod.drew w none').trans' m6d
  have s6 := m6.size
  simp (decide := true) only [step_build, step_buildSlice, step_store, step_fieldAddr, step_append, stepV_ok, ev_tmp, ev_const, put_at, envOf_var, sel_true, sel_false, Nat.reduceBeqDiff, BEq.rfl, Nat.reduceAdd, hcp]
  have c6 : w6.cell? ⟨bT, 4, none⟩ = some vu := by rw [m6.cell _ _ (by omega) (fun h => h)]; exact hc
  refine ⟨c6, ?_⟩
  have hone2 : ∀ c ∈ [Value.int .u32 x.1, v4], c.oneCell' = true := fun c hc => by
    simp at hc; rcases hc with rfl | rfl
    · rfl
    · exact htv6.one
  have hbu := tagBuild hI w6 x.1 htv6.one
  have e6 : ∀ ρ : Env, (#[(0, T 2), (1, T 4)] : Array (Nat × Operand)).map (fun p => (p.1, ev ρ p.2)) = #[(0, ρ 2), (1, ρ 4)] := fun ρ => by simp
  have e7 : ∀ ρ : Env, (#[(0, T 5)] : Array (Nat × Operand)).map (fun p => (p.1, ev ρ p.2)) = #[(0, ρ 5)] := fun ρ => by simp
  simp (decide := true) only [stepV_ok, put_at, sel_true, sel_false, Nat.reduceBeqDiff, BEq.rfl, e6, hbu]
  refine ⟨c6, ?_⟩
  have hbs := run_bs1 (w := w6) (v := .agg #[.int .u32 x.1, v4]) (cs := [.int .u32 x.1, v4]) hI.lg hI1 rfl rfl (by decide) (by decide)
  simp (decide := true) only [stepV_ok, put_at, sel_true, BEq.rfl, e7, hbs]
  obtain ⟨w7, hw7⟩ : ∃ w7, w7 = w6.alloc (.cells [Value.int .u32 x.1, v4].toArray N.t_Tag) := ⟨_, rfl⟩
  have m7 : Mod w6 w7 none' := by rw [hw7]; exact Mod.alloc _ _ _
  have s7 : w7.heap.size = w6.heap.size + 1 := by rw [hw7]; exact alloc_size _ _
  have r7 : w7.rangeAt w6.heap.size 0 [.int .u32 x.1, v4] := by rw [hw7]; exact rangeAt_alloc w6 _ _ _
  rw [← hw7]
  clear hw7 hbs
  have m07 : Mod w w7 none' := m6.trans' m7
  have c7 : w7.cell? ⟨bT, 4, none⟩ = some vu := by rw [m07.cell _ _ (by omega) (fun h => h)]; exact hc
  refine ⟨c7, ?_⟩
  have ho7 : Own w7 lo 2 vu j cs := ho.stay m07 fun _ _ _ h => h
  obtain ⟨v', w8, happ, ho8, m8, hone', hnb⟩ := run_append1 (P := P) (ty := N.t_LTag) (m := 1) (cb := 1) hI.lg hI1 ho7 r7 rfl hone2 (by omega) rfl hus.ones (by omega) (by decide) (by decide)
  simp (decide := true) only [stepV_ok, happ]
  clear happ
  have s8 := m8.size
  have nb3 : ¬ ¬ notBlk vu bT := fun h => by have := (hv bT h).1; omega
  have c8 : w8.cell? ⟨bT, 4, none⟩ = some vu := by rw [m8.cell _ _ (by omega) nb3]; exact c7
  refine ⟨c8, ?_⟩
  simp (decide := true) only [stepV_ok, Nat.zero_add, f2, hI.h4.run]
  refine ⟨c8, ?_⟩
  have t8 : w8.there bT 4 1 := m8.there (by omega) (m07.there (by omega) ht)
  have hsto := hI.lg.run_store1 (w := w8) (b := bT) (o := 4) (v := v') hone' t8
  simp (decide := true) only [stepU_ok, hsto]
  obtain ⟨w9, hw9⟩ : ∃ w9, w9 = w8.setCell ⟨bT, 4, none⟩ v' := ⟨_, rfl⟩
  have m9' : Mod w8 w9 fun k o => k = bT ∧ o = 4 := by rw [hw9]; exact Mod.setCell fun _ => ⟨rfl, rfl⟩
  have m9 : Mod w8 w9 fun k _ => k = bT := m9'.mono fun _ _ _ h => h.1
  have s9 : w9.heap.size = w8.heap.size := by rw [hw9]; simp [World.setCell]
  have c9 : w9.cell? ⟨bT, 4, none⟩ = some v' := by rw [hw9]; exact World.cell?_setCell_same _ _ _ c8
  rw [← hw9]
  clear hw9 hsto
  obtain ⟨q1, q2, q3, q4⟩ := own_step (w := w) (w6 := w6) (w7 := w7) (w8 := w8) (w9 := w9) (G := fun _ => False) (lo := lo) (v := vu) (v' := v') (b3 := bT) (a := w.heap.size) (fun _ h => h.elim) hb hlo m6 (Nat.le_refl _) m7 m8 m9 hv hnb
  have hfin : UI bT lo (S.take (j + 1)) w9 := by
    refine ⟨v', cs ++ [.int .u32 x.1, v4], c9, m9.there (by omega) t8, ?_, ?_⟩
    · have htl2 : (S.take (j + 1)).length = j + 1 := by rw [List.length_take]; omega
      rw [htl2]
      exact ho8.stay m9 (fun k o h e => by have : k = bT := e; have := ho8.blk h; omega)
    · rw [List.take_add_one, hx]
      have htv6' : tagV w6 (GN (fun _ => False) w.heap.size w6.heap.size) v4 x.2 := htv6.imp (fun h => ⟨h.1, h.2.mono fun k hk => .inr hk⟩) fun h => h.mono fun k hk => .inr hk
      exact (UsG.mod q1 q2 hus).append ⟨v4, [], rfl, htv6'.mod q3 q4, rfl⟩
  refine ⟨.inl rfl, .tuple #[], rfl, hfin, ?_⟩
  refine ((m07.mono fun _ _ _ h => h.elim).trans' (m8.mono fun k o hk h => ?_)).trans' (m9'.mono fun k o _ h => .inl h)
  exact .inr (hv k h).1
end
end Go.Kf

/- What is told of a message's fields. -/
namespace Go.Kf
open Go Go.RowKit

/-- The octets of an array's value. -/
def octsOf : Value → List UInt8
  | .agg a => a.toList.map fun v => match v with
    | .int _ n => UInt8.ofNat n.toNat
    | _ => 0
  | .string s => s.data.toList
  | _ => []

def PK.tr : PK → Value → Tr
  | .bool, v => leafT (match v with | .bool true => 1 | _ => 0) [] false
  | .uuid, v => leafT 0 (octsOf v) false
  | _, v => leafT (match v with | .int _ n => n | _ => 0) [] false

mutual
def Ty.tr : Ty → Val → Tr
  | .pr k _, .num v => k.tr v
  | .txt _, .num v => leafT 0 (octsOf v) false
  | .txt _, .nstr o => leafT 0 (o.getD []) o.isNone
  | .txt _, .oct o => leafT 0 (o.getD []) o.isNone
  | .arr .., .nilA => .mk 0 [] true [] []
  | .arr _ _ e, .arr _ l => .mk 0 [] false (l.map e.tr) []
  | .row _ _ _ fs, .row l => .mk 0 [] false (fs.trs l) (fs.tgs l)
  | _, _ => leafT 0 [] false
def El.tr : El → Val → Tr
  | .pr k, .num v => k.tr v
  | .txt _, .num v => leafT 0 (octsOf v) false
  | .txt _, .nstr o => leafT 0 (o.getD []) o.isNone
  | .txt _, .oct o => leafT 0 (o.getD []) o.isNone
  | .row _ _ _ fs, .row l => .mk 0 [] false (fs.trs l) (fs.tgs l)
  | _, _ => leafT 0 [] false
def Fds.trs : Fds → List Val → List Tr
  | .cons _ ty r, v :: l => ty.tr v :: r.trs l
  | _, _ => []
def Fds.tgs : Fds → List Val → List (Nat × List UInt8)
  | .tags, [.tags l] => sortTags l
  | .cons _ _ r, _ :: l => r.tgs l
  | _, _ => []
end
def Fds.tr (fs : Fds) (l : List Val) : Tr := .mk 0 [] false (fs.trs l) (fs.tgs l)

/-- The bound on lengths. -/
def big : Nat := 1099511627776

def PK.okV : PK → Value → Prop
  | .bool, v => ∃ b, v = .bool b
  | .i8, v => ∃ n, v = .int .i8 n ∧ IntKind.i64.wrap n = n
  | .i16, v => ∃ n, v = .int .i16 n ∧ IntKind.i64.wrap n = n
  | .i32, v => ∃ n, v = .int .i32 n ∧ IntKind.i64.wrap n = n
  | .i64, v => ∃ n, v = .int .i64 n ∧ IntKind.i64.wrap n = n
  | .uuid, v => ∃ l : List UInt8, v = .agg (l.map byteV).toArray ∧ l.length = 16
def Txt.okV : Txt → Val → Prop
  | .str, .num v => ∃ l, v = strV l ∧ l.length < big
  | .nstr, .nstr o => (o.getD []).length < big
  | .byt, .oct o => (o.getD []).length < big
  | .nbyt, .oct o => (o.getD []).length < big
  | _, _ => False

mutual
def Ty.okV : Ty → Val → Prop
  | .pr k _, .num v => k.okV v
  | .txt k, v => k.okV v
  | .arr .., .nilA => True
  | .arr _ _ e, .arr sz l => sz = e.sz ∧ l.length < big ∧ ∀ v ∈ l, e.okV v
  | .row _ _ _ fs, .row l => fs.okV l
  | _, _ => False
def El.okV : El → Val → Prop
  | .pr k, .num v => k.okV v
  | .txt k, v => k.okV v
  | .row _ _ _ fs, .row l => fs.okV l
  | _, _ => False
def Fds.okV : Fds → List Val → Prop
  | .nil, l => l = []
  | .tags, [.tags l] => l.length < big ∧ ∀ x ∈ l, x.2.length < big
  | .cons _ ty r, v :: l => ty.okV v ∧ r.okV l
  | _, _ => False
end

theorem uuid_octs (l : List UInt8) : octsOf (.agg (l.map byteV).toArray) = l := by
  simp only [octsOf, List.map_map]
  conv => rhs; rw [← List.map_id l]
  refine List.map_congr_left fun x _ => ?_
  simp [byteV]
theorem str_octs (l : List UInt8) : octsOf (strV l) = l := by simp [octsOf, strV]
end Go.Kf

/- A message is told: its tree, field by field. -/
namespace Go.Kf
open Go Go.RowKit

section
variable {P : Program} {N : Nums}

/-- Blocks that are new, but not the tree's own. -/
def NBx (a b bT bL bR : Nat) : Nat → Prop := fun k => NB a b k ∧ k ≠ bT ∧ k ≠ bL ∧ k ≠ bR

/-- What holds while a message is told: so many fields are done. -/
structure TF (w0 : World) (src : Value) (bT bL bR n i : Nat) (trs : List Tr) (σ : Env) (w : World) : Prop where
  f0 : σ 0 = src
  f1 : σ 1 = .pointer (some ⟨bR, 0, none⟩)
  f2 : σ 2 = .pointer (some ⟨bT, 0, none⟩)
  mod : Mod w0 w none'
  tc : w.rangeAt bT 0 [.int .i64 0, .slice none 0 0, .bool false, .slice (some ⟨bL, 0, none⟩) n n, .slice none 0 0]
  tt : w.there bT 0 5
  tl : w.there bL 0 (n * 5)
  res : ResAt w bR
  len : trs.length = i
  le : i ≤ n
  ex : ∃ css, w.rangeAt bL 0 (css.flatten ++ zs zT (n - i)) ∧ RepTs w (NBx w0.heap.size w.heap.size bT bL bR) trs css
  lt : (w0.heap.size ≤ bT ∧ bT < w.heap.size) ∧ (w0.heap.size ≤ bL ∧ bL < w.heap.size) ∧ (w0.heap.size ≤ bR ∧ bR < w.heap.size) ∧ bT ≠ bL ∧ bT ≠ bR ∧ bL ≠ bR

theorem TF.env {w0 w : World} {src : Value} {bT bL bR n i : Nat} {trs : List Tr} {σ σ' : Env} (h : TF w0 src bT bL bR n i trs σ w) (e0 : σ' 0 = σ 0) (e1 : σ' 1 = σ 1) (e2 : σ' 2 = σ 2) : TF w0 src bT bL bR n i trs σ' w :=
  ⟨by rw [e0]; exact h.f0, by rw [e1]; exact h.f1, by rw [e2]; exact h.f2, h.mod, h.tc, h.tt, h.tl, h.res, h.len, h.le, h.ex, h.lt⟩

/-- New blocks do not matter. -/
theorem TF.stay {w0 w w' : World} {src : Value} {bT bL bR n i : Nat} {trs : List Tr} {σ : Env} (h : TF w0 src bT bL bR n i trs σ w) (m : Mod w w' none') : TF w0 src bT bL bR n i trs σ w' := by
  obtain ⟨f0, f1, f2, mod, tc, tt, tl, res, len, le, ⟨css, hr, hrep⟩, l1, l2, l3, l4⟩ := h
  have := m.size
  exact ⟨f0, f1, f2, mod.trans' m, rangeAt_stay m tc, m.there (by omega) tt, m.there (by omega) tl, ⟨rangeAt_stay m res.r, m.there (by omega) res.t⟩, len, le,
    ⟨css, rangeAt_stay m hr, RepTs.mod m (fun k hk => ⟨hk.1.2, fun _ h => h, ⟨hk.1.1, by have := hk.1.2; omega⟩, hk.2⟩) trs hrep⟩, ⟨l1.1, by omega⟩, ⟨l2.1, by omega⟩, ⟨l3.1, by omega⟩, l4⟩

theorem zs_pos (z : List Value) (n : Nat) (h : 0 < n) : zs z n = z ++ zs z (n - 1) := by
  obtain ⟨m, rfl⟩ : ∃ m, n = m + 1 := ⟨n - 1, by omega⟩
  exact zs_succ z m

theorem flatten_n {l : List (List Value)} {n : Nat} (h : ∀ x ∈ l, x.length = n) : l.flatten.length = l.length * n := by
  induction l with
  | nil => simp
  | cons x l ih =>
    rw [List.flatten_cons, List.length_append, h x (by simp), ih fun y hy => h y (by simp [hy]), List.length_cons, Nat.add_mul]
    omega

/-- A field's tree is stored. -/
theorem tf_store (hI : ImplT P N) {w0 w w7 : World} {src : Value} {bT bL bR n i : Nat} {trs : List Tr} {σ σ' : Env} {t : Tr} {cs : List Value} (h : TF w0 src bT bL bR n i trs σ w) (hi : i < n) (m : Mod w w7 none') (hrep : RepT w7 (NB w.heap.size w7.heap.size) t cs)
    (e0 : σ' 0 = σ 0) (e1 : σ' 1 = σ 1) (e2 : σ' 2 = σ 2) :
    ∃ w8, (Instr.storeAt N.t_Tree (.pointer (some ⟨bL, i * 5, none⟩)) (.agg cs.toArray)).run P w7 = .ok () w8 ∧ TF w0 src bT bL bR n (i + 1) (trs ++ [t]) σ' w8 := by
  obtain ⟨fs, hI1⟩ := hI.ti
  have hcl := hrep.len
  have h7 := (h.stay m).env e0 e1 e2
  obtain ⟨f0, f1, f2, mod, tc, tt, tl, res, len, le, ⟨css, hr, hreps⟩, l1, l2, l3, l4, l5, l6⟩ := h7
  have lw := h.lt
  have hcss : css.flatten.length = i * 5 := by rw [flatten_n hreps.len5, hreps.length, len]
  have h5 : w7.there bL (i * 5) 5 := fun j hj => by
    have := tl (i * 5 + j) (by have : (i + 1) * 5 ≤ n * 5 := Nat.mul_le_mul_right _ hi; omega)
    rwa [Nat.zero_add] at this
  have m8 : Mod w7 (w7.setCells bL (i * 5) cs) (rng bL (i * 5) 5) := Mod.setCells cs _ w7 fun _ k h1 h2 => ⟨rfl, h1, by omega⟩
  have s8 : (w7.setCells bL (i * 5) cs).heap.size = w7.heap.size := setCells_size _ _ _
  have s7 := m.size
  obtain ⟨w8, hw8⟩ : ∃ w8, w8 = w7.setCells bL (i * 5) cs := ⟨_, rfl⟩
  refine ⟨w8, by rw [hw8]; exact hI1.run_store (w := w7) (b := bL) (o := i * 5) (v := .agg cs.toArray) (cs := cs) rfl hcl h5 hrep.one, ?_⟩
  have q := rangeAt_append.1 hr
  rw [hcss, Nat.zero_add, zs_pos _ _ (by omega)] at q
  have q2 := rangeAt_setCells cs (i * 5) w7 _ q.2 (by simp [zT, hcl])
  rw [← hw8] at m8 s8 q2
  have hd : (zT ++ zs zT (n - i - 1)).drop cs.length = zs zT (n - (i + 1)) := by
    rw [hcl]
    show (zT ++ zs zT (n - i - 1)).drop zT.length = _
    rw [List.drop_left]; congr 1
  rw [hd] at q2
  refine ⟨f0, f1, f2, mod.fresh m8 fun k o e => by have := e.1; omega, m8.rangeAt (by omega) (fun i _ _ e => l4 e.1) tc, m8.there (by omega) tt, m8.there (by omega) tl, ⟨m8.rangeAt (by omega) (fun i _ _ e => l6 e.1.symm) res.r, m8.there (by omega) res.t⟩,
    by rw [List.length_append, len]; rfl, hi, ⟨css ++ [cs], ?_, ?_⟩, ⟨by omega, by omega⟩, ⟨by omega, by omega⟩, ⟨by omega, by omega⟩, l4, l5, l6⟩
  · rw [List.flatten_append, List.append_assoc, rangeAt_append]
    refine ⟨m8.rangeAt (by omega) (fun j h1 h2 e => by have := e.2.1; omega) q.1, ?_⟩
    rw [hcss, Nat.zero_add]
    simpa using q2
  · refine (RepTs.mod m8 (fun k hk => ⟨hk.1.2, fun o e => hk.2.2.1 e.1, ⟨hk.1.1, by have := hk.1.2; omega⟩, hk.2⟩) trs hreps).append ⟨cs, [], rfl, RepT.mod m8 (fun k hk => ⟨hk.2, fun o e => by have := e.1; have := hk.1; omega, ⟨by have := hk.1; omega, by have := hk.2; omega⟩, ?_⟩) t hrep, rfl⟩
    have := hk.1
    omega
end
end Go.Kf

/- A message is told: its fields, kind by kind. Printed by gen_tf.py. -/
namespace Go.Kf
open Go Go.RowKit

section
variable {P : Program} {N : Nums}

def cTNum (N : Nums) (Tt idx ft i : Nat) : C := .draw [
  ⟨some 0, .fieldAddr N.t_Tree (V 2) 3, 0, none, []⟩, ⟨some 1, .load N.t_LTree (T 0), 0, none, [0]⟩, ⟨some 2, .move (V 0), 0, none, []⟩, ⟨some 3, .nilCheck (T 2), 0, none, [2]⟩, ⟨some 4, .fieldAddr Tt (T 3) idx, 0, none, [3]⟩, ⟨some 5, .load ft (T 4), 0, none, [4]⟩,
  ⟨some 6, .convert ft N.t_int64 (T 5), 0, none, [5]⟩, ⟨some 7, .build N.t_Tree #[(0, T 6)], 0, none, [6]⟩,
  ⟨some 8, .indexAddr N.t_LTree (T 1) (.const (.int .i64 i)), 0, none, [1, 0, 1, 2, 3, 4, 5, 6, 7]⟩, ⟨none, .store N.t_Tree (T 8) (T 7), 0, none, [8, 7, 0, 1, 2, 3, 4, 5, 6, 7]⟩]

theorem W_tNum (B : Base P N) (F : Fns P N) (hI : ImplT P N) {loc : List Nat} {N' : Nat} {Q : Exit → Env → World → Prop} {w0 w : World} {b oo off Tt idx bT bL bR n i : Nat} {trs : List Tr} {σ : Env} {ft : TypeId} {k : IntKind} {by' : Nat} {z : Value} {x : Int} (hft : TI P ft (.int k) 1 by' z) (hx : IntKind.i64.wrap x = x)
    (h : TF w0 (.pointer (some ⟨b, oo, none⟩)) bT bL bR n i trs σ w) (hi : i < n) (hT : HF P Tt idx off) (hc : w0.cell? ⟨b, oo + off, none⟩ = some (.int k x))
    (hQ : ∀ σ' w', TF w0 (.pointer (some ⟨b, oo, none⟩)) bT bL bR n (i + 1) (trs ++ [leafT x [] false]) σ' w' → Q .normal σ' w') : W P loc N' (cTNum N Tt idx ft i) Q σ w := by
  obtain ⟨fs, hI1⟩ := hI.ti
  have f0 := h.f0
  have f1 := h.f1
  have f2 := h.f2
  have cT : w.cell? ⟨bT, 3, none⟩ = some (.slice (some ⟨bL, 0, none⟩) n n) := h.tc 3 _ rfl
  have cF : w.cell? ⟨b, oo + off, none⟩ = some (.int k x) := by rw [h.mod.cell _ _ (cell_lt (by rw [hc]; rfl)) (fun h => h)]; exact hc
  have st : ∀ {w' : World} {k o : Nat} {v : Value}, Mod w w' none' → w.cell? ⟨k, o, none⟩ = some v → w'.cell? ⟨k, o, none⟩ = some v := fun m hc => by rw [m.cell _ _ (cell_lt (by rw [hc]; rfl)) (fun h => h)]; exact hc
  have md : Mod w w.drew none' := Mod.drew _ _
  refine W_drawM B.mixed [true, true, true, true, true, true, false, false, false, false] (by kernel_rfl) (fun w' => Mod w w' none') md fun τ => ?_
  have e2 : envOf σ τ 102 = .pointer (some ⟨bT, 0, none⟩) := by rw [← f2]; exact envOf_var σ τ 2
  refine readsZ_cons (.pointer (some ⟨bT, 3, none⟩)) (fun w' _ => exec_val (by
    simp (decide := true) only [ev_tmp, e2, hI.h3.run])) rfl ?_
  refine readsZ_cons (.slice (some ⟨bL, 0, none⟩) n n) (fun w' hw => exec_val (by
    simp (decide := true) only [put_at, sel_true, BEq.rfl, ev_tmp, hI.lt.run_load1 rfl, st hw cT, ldc_some])) rfl ?_
  refine readsZ_cons (.pointer (some ⟨b, oo, none⟩)) (fun w' hw => by
    rw [exec_move, ev_tmp]
    simp (decide := true) only [put_at, envOf_var, sel_false, Nat.reduceBeqDiff, Nat.zero_add, f0]) rfl ?_
  refine readsZ_cons (.pointer (some ⟨b, oo, none⟩)) (fun w' hw => rfl) rfl ?_
  refine readsZ_cons (.pointer (some ⟨b, oo + off, none⟩)) (fun w' hw => exec_val (by
    simp (decide := true) only [put_at, sel_true, BEq.rfl, ev_tmp, hT.run])) rfl ?_
  refine readsZ_cons (.int k x) (fun w' hw => exec_val (by
    simp (decide := true) only [put_at, sel_true, BEq.rfl, ev_tmp, hft.run_load1 rfl, st hw cF, ldc_some])) rfl ?_
  simp only [readsZ, chainOps, List.zip_cons_cons, List.zip_nil_right, List.zipWith_cons_cons, List.zipWith_nil_right, List.filter, Bool.not_true, Bool.not_false, List.map, chainZ]
  simp (decide := true) only [step_build, step_store, step_convert, step_indexAddr, stepV_ok, ev_tmp, ev_const, put_at, sel_true, sel_false, Nat.reduceBeqDiff, BEq.rfl, run_conv hft B.int64 ⟨_, rfl⟩, hx]
  refine ⟨md, ?_⟩
  have e6 : ∀ ρ : Env, (#[(0, T 6)] : Array (Nat × Operand)).map (fun p => (p.1, ev ρ p.2)) = #[(0, ρ 6)] := fun ρ => by simp
  simp (decide := true) only [stepV_ok, put_at, sel_true, BEq.rfl, e6, buildN hI]
  refine ⟨md, ?_⟩
  simp (decide := true) only [stepV_ok, Nat.zero_add, run_indexAt hI.lt hI1 hi]
  refine ⟨md, ?_⟩
  obtain ⟨w8, hst, htf⟩ := tf_store hI (w7 := w.drew) (σ' := σ) h hi md (leaf_rep (n := x) (s := []) (nl := false) tagV_nil) rfl rfl rfl
  simp (decide := true) only [stepU_ok, hst]
  refine gen_locs (K := fun σ' w' => Q .normal σ' w') fun σ9 hσ => hQ _ _ (htf.env ?_ ?_ ?_)
  · rw [hσ 0]; simp (decide := true) only [put_at, envOf_var, sel_false, Nat.reduceBeqDiff, Nat.zero_add]
  · rw [hσ 1]; simp (decide := true) only [put_at, envOf_var, sel_false, Nat.reduceBeqDiff, Nat.reduceAdd]
  · rw [hσ 2]; simp (decide := true) only [put_at, envOf_var, sel_false, Nat.reduceBeqDiff, Nat.reduceAdd]

def cTNum64 (N : Nums) (Tt idx ft i : Nat) : C := .draw [
  ⟨some 0, .fieldAddr N.t_Tree (V 2) 3, 0, none, []⟩, ⟨some 1, .load N.t_LTree (T 0), 0, none, [0]⟩, ⟨some 2, .move (V 0), 0, none, []⟩, ⟨some 3, .nilCheck (T 2), 0, none, [2]⟩, ⟨some 4, .fieldAddr Tt (T 3) idx, 0, none, [3]⟩, ⟨some 5, .load ft (T 4), 0, none, [4]⟩,
  ⟨some 6, .build N.t_Tree #[(0, T 5)], 0, none, [5]⟩,
  ⟨some 7, .indexAddr N.t_LTree (T 1) (.const (.int .i64 i)), 0, none, [1, 0, 1, 2, 3, 4, 5, 6]⟩, ⟨none, .store N.t_Tree (T 7) (T 6), 0, none, [7, 6, 0, 1, 2, 3, 4, 5, 6]⟩]

theorem W_tNum64 (B : Base P N) (F : Fns P N) (hI : ImplT P N) {loc : List Nat} {N' : Nat} {Q : Exit → Env → World → Prop} {w0 w : World} {b oo off Tt idx bT bL bR n i : Nat} {trs : List Tr} {σ : Env} {ft : TypeId} {by' : Nat} {z : Value} {x : Int} (hft : TI P ft (.int .i64) 1 by' z)
    (h : TF w0 (.pointer (some ⟨b, oo, none⟩)) bT bL bR n i trs σ w) (hi : i < n) (hT : HF P Tt idx off) (hc : w0.cell? ⟨b, oo + off, none⟩ = some (.int .i64 x))
    (hQ : ∀ σ' w', TF w0 (.pointer (some ⟨b, oo, none⟩)) bT bL bR n (i + 1) (trs ++ [leafT x [] false]) σ' w' → Q .normal σ' w') : W P loc N' (cTNum64 N Tt idx ft i) Q σ w := by
  obtain ⟨fs, hI1⟩ := hI.ti
  have f0 := h.f0
  have f1 := h.f1
  have f2 := h.f2
  have cT : w.cell? ⟨bT, 3, none⟩ = some (.slice (some ⟨bL, 0, none⟩) n n) := h.tc 3 _ rfl
  have cF : w.cell? ⟨b, oo + off, none⟩ = some (.int .i64 x) := by rw [h.mod.cell _ _ (cell_lt (by rw [hc]; rfl)) (fun h => h)]; exact hc
  have st : ∀ {w' : World} {k o : Nat} {v : Value}, Mod w w' none' → w.cell? ⟨k, o, none⟩ = some v → w'.cell? ⟨k, o, none⟩ = some v := fun m hc => by rw [m.cell _ _ (cell_lt (by rw [hc]; rfl)) (fun h => h)]; exact hc
  have md : Mod w w.drew none' := Mod.drew _ _
  refine W_drawM B.mixed [true, true, true, true, true, true, false, false, false] (by kernel_rfl) (fun w' => Mod w w' none') md fun τ => ?_
  have e2 : envOf σ τ 102 = .pointer (some ⟨bT, 0, none⟩) := by rw [← f2]; exact envOf_var σ τ 2
  refine readsZ_cons (.pointer (some ⟨bT, 3, none⟩)) (fun w' _ => exec_val (by
    simp (decide := true) only [ev_tmp, e2, hI.h3.run])) rfl ?_
  refine readsZ_cons (.slice (some ⟨bL, 0, none⟩) n n) (fun w' hw => exec_val (by
    simp (decide := true) only [put_at, sel_true, BEq.rfl, ev_tmp, hI.lt.run_load1 rfl, st hw cT, ldc_some])) rfl ?_
  refine readsZ_cons (.pointer (some ⟨b, oo, none⟩)) (fun w' hw => by
    rw [exec_move, ev_tmp]
    simp (decide := true) only [put_at, envOf_var, sel_false, Nat.reduceBeqDiff, Nat.zero_add, f0]) rfl ?_
  refine readsZ_cons (.pointer (some ⟨b, oo, none⟩)) (fun w' hw => rfl) rfl ?_
  refine readsZ_cons (.pointer (some ⟨b, oo + off, none⟩)) (fun w' hw => exec_val (by
    simp (decide := true) only [put_at, sel_true, BEq.rfl, ev_tmp, hT.run])) rfl ?_
  refine readsZ_cons (.int .i64 x) (fun w' hw => exec_val (by
    simp (decide := true) only [put_at, sel_true, BEq.rfl, ev_tmp, hft.run_load1 rfl, st hw cF, ldc_some])) rfl ?_
  simp only [readsZ, chainOps, List.zip_cons_cons, List.zip_nil_right, List.zipWith_cons_cons, List.zipWith_nil_right, List.filter, Bool.not_true, Bool.not_false, List.map, chainZ]
  have e6 : ∀ ρ : Env, (#[(0, T 5)] : Array (Nat × Operand)).map (fun p => (p.1, ev ρ p.2)) = #[(0, ρ 5)] := fun ρ => by simp
  simp (decide := true) only [step_build, step_store, step_indexAddr, stepV_ok, ev_tmp, ev_const, put_at, sel_true, sel_false, Nat.reduceBeqDiff, BEq.rfl, e6, buildN hI]
  refine ⟨md, ?_⟩
  simp (decide := true) only [stepV_ok, Nat.zero_add, run_indexAt hI.lt hI1 hi]
  refine ⟨md, ?_⟩
  obtain ⟨w8, hst, htf⟩ := tf_store hI (w7 := w.drew) (σ' := σ) h hi md (leaf_rep (n := x) (s := []) (nl := false) tagV_nil) rfl rfl rfl
  simp (decide := true) only [stepU_ok, hst]
  refine gen_locs (K := fun σ' w' => Q .normal σ' w') fun σ9 hσ => hQ _ _ (htf.env ?_ ?_ ?_)
  · rw [hσ 0]; simp (decide := true) only [put_at, envOf_var, sel_false, Nat.reduceBeqDiff, Nat.zero_add]
  · rw [hσ 1]; simp (decide := true) only [put_at, envOf_var, sel_false, Nat.reduceBeqDiff, Nat.reduceAdd]
  · rw [hσ 2]; simp (decide := true) only [put_at, envOf_var, sel_false, Nat.reduceBeqDiff, Nat.reduceAdd]

def cTStr (N : Nums) (Tt idx i : Nat) : C := .draw [
  ⟨some 0, .fieldAddr N.t_Tree (V 2) 3, 0, none, []⟩, ⟨some 1, .load N.t_LTree (T 0), 0, none, [0]⟩, ⟨some 2, .move (V 0), 0, none, []⟩, ⟨some 3, .nilCheck (T 2), 0, none, [2]⟩, ⟨some 4, .fieldAddr Tt (T 3) idx, 0, none, [3]⟩, ⟨some 5, .load N.t_string (T 4), 0, none, [4]⟩,
  ⟨some 6, .convert N.t_string N.t_Luint8 (T 5), 0, none, [5]⟩, ⟨some 7, .build N.t_Tree #[(1, T 6)], 0, none, [6]⟩,
  ⟨some 8, .indexAddr N.t_LTree (T 1) (.const (.int .i64 i)), 0, none, [1, 0, 1, 2, 3, 4, 5, 6, 7]⟩, ⟨none, .store N.t_Tree (T 8) (T 7), 0, none, [8, 7, 0, 1, 2, 3, 4, 5, 6, 7]⟩]

theorem W_tStr (B : Base P N) (F : Fns P N) (hI : ImplT P N) {loc : List Nat} {N' : Nat} {Q : Exit → Env → World → Prop} {w0 w : World} {b oo off Tt idx bT bL bR n i : Nat} {trs : List Tr} {σ : Env} {s : List UInt8}
    (h : TF w0 (.pointer (some ⟨b, oo, none⟩)) bT bL bR n i trs σ w) (hi : i < n) (hT : HF P Tt idx off) (hc : w0.cell? ⟨b, oo + off, none⟩ = some (strV s))
    (hQ : ∀ σ' w', TF w0 (.pointer (some ⟨b, oo, none⟩)) bT bL bR n (i + 1) (trs ++ [leafT 0 s false]) σ' w' → Q .normal σ' w') : W P loc N' (cTStr N Tt idx i) Q σ w := by
  obtain ⟨fs, hI1⟩ := hI.ti
  have f0 := h.f0
  have f1 := h.f1
  have f2 := h.f2
  have cT : w.cell? ⟨bT, 3, none⟩ = some (.slice (some ⟨bL, 0, none⟩) n n) := h.tc 3 _ rfl
  have cF : w.cell? ⟨b, oo + off, none⟩ = some (strV s) := by rw [h.mod.cell _ _ (cell_lt (by rw [hc]; rfl)) (fun h => h)]; exact hc
  have st : ∀ {w' : World} {k o : Nat} {v : Value}, Mod w w' none' → w.cell? ⟨k, o, none⟩ = some v → w'.cell? ⟨k, o, none⟩ = some v := fun m hc => by rw [m.cell _ _ (cell_lt (by rw [hc]; rfl)) (fun h => h)]; exact hc
  have md : Mod w w.drew none' := Mod.drew _ _
  refine W_drawM B.mixed [true, true, true, true, true, true, false, false, false, false] (by kernel_rfl) (fun w' => Mod w w' none') md fun τ => ?_
  have e2 : envOf σ τ 102 = .pointer (some ⟨bT, 0, none⟩) := by rw [← f2]; exact envOf_var σ τ 2
  refine readsZ_cons (.pointer (some ⟨bT, 3, none⟩)) (fun w' _ => exec_val (by
    simp (decide := true) only [ev_tmp, e2, hI.h3.run])) rfl ?_
  refine readsZ_cons (.slice (some ⟨bL, 0, none⟩) n n) (fun w' hw => exec_val (by
    simp (decide := true) only [put_at, sel_true, BEq.rfl, ev_tmp, hI.lt.run_load1 rfl, st hw cT, ldc_some])) rfl ?_
  refine readsZ_cons (.pointer (some ⟨b, oo, none⟩)) (fun w' hw => by
    rw [exec_move, ev_tmp]
    simp (decide := true) only [put_at, envOf_var, sel_false, Nat.reduceBeqDiff, Nat.zero_add, f0]) rfl ?_
  refine readsZ_cons (.pointer (some ⟨b, oo, none⟩)) (fun w' hw => rfl) rfl ?_
  refine readsZ_cons (.pointer (some ⟨b, oo + off, none⟩)) (fun w' hw => exec_val (by
    simp (decide := true) only [put_at, sel_true, BEq.rfl, ev_tmp, hT.run])) rfl ?_
  refine readsZ_cons (strV s) (fun w' hw => exec_val (by
    simp (decide := true) only [put_at, sel_true, BEq.rfl, ev_tmp, B.string.run_load1 rfl, st hw cF, ldc_some])) rfl ?_
  simp only [readsZ, chainOps, List.zip_cons_cons, List.zip_nil_right, List.zipWith_cons_cons, List.zipWith_nil_right, List.filter, Bool.not_true, Bool.not_false, List.map, chainZ]
  obtain ⟨v', w6, hconv, htv, m6⟩ := run_strOct B w.drew s
  have mw := md.trans' m6
  have nbw : ∀ k, NB w.drew.heap.size w6.heap.size k → NB w.heap.size w6.heap.size k := fun k h => h
  simp (decide := true) only [step_build, step_store, step_convert, step_indexAddr, stepV_ok, ev_tmp, ev_const, put_at, sel_true, sel_false, Nat.reduceBeqDiff, BEq.rfl, hconv]
  refine ⟨mw, ?_⟩
  have e6 : ∀ ρ : Env, (#[(1, T 6)] : Array (Nat × Operand)).map (fun p => (p.1, ev ρ p.2)) = #[(1, ρ 6)] := fun ρ => by simp
  simp (decide := true) only [stepV_ok, put_at, sel_true, BEq.rfl, e6, buildS hI _ htv.one]
  refine ⟨mw, ?_⟩
  simp (decide := true) only [stepV_ok, Nat.zero_add, run_indexAt hI.lt hI1 hi]
  refine ⟨mw, ?_⟩
  obtain ⟨w8, hst, htf⟩ := tf_store hI (w7 := w6) (σ' := σ) h hi mw (leaf_rep (n := 0) (nl := false) (htv.imp (fun h => ⟨h.1, h.2.mono nbw⟩) fun h => h.mono nbw)) rfl rfl rfl
  simp (decide := true) only [stepU_ok, hst]
  refine gen_locs (K := fun σ' w' => Q .normal σ' w') fun σ9 hσ => hQ _ _ (htf.env ?_ ?_ ?_)
  · rw [hσ 0]; simp (decide := true) only [put_at, envOf_var, sel_false, Nat.reduceBeqDiff, Nat.zero_add]
  · rw [hσ 1]; simp (decide := true) only [put_at, envOf_var, sel_false, Nat.reduceBeqDiff, Nat.reduceAdd]
  · rw [hσ 2]; simp (decide := true) only [put_at, envOf_var, sel_false, Nat.reduceBeqDiff, Nat.reduceAdd]

def cTBool (N : Nums) (Tt idx i : Nat) : C := .draw [
  ⟨some 0, .fieldAddr N.t_Tree (V 2) 3, 0, none, []⟩, ⟨some 1, .load N.t_LTree (T 0), 0, none, [0]⟩, ⟨some 2, .move (V 0), 0, none, []⟩, ⟨some 3, .nilCheck (T 2), 0, none, [2]⟩, ⟨some 4, .fieldAddr Tt (T 3) idx, 0, none, [3]⟩, ⟨some 5, .load N.t_bool (T 4), 0, none, [4]⟩,
  ⟨some 6, .call ⟨.value (.func N.f_boolTree), #[T 5], #[N.t_bool]⟩, N.t_Tree, none, [5]⟩,
  ⟨some 7, .indexAddr N.t_LTree (T 1) (.const (.int .i64 i)), 0, none, [1, 0, 1, 2, 3, 4, 5, 6]⟩, ⟨none, .store N.t_Tree (T 7) (T 6), 0, none, [7, 6, 6, 0, 1, 2, 3, 4, 5, 6]⟩]

theorem W_tBool (B : Base P N) (F : Fns P N) (hI : ImplT P N) {loc : List Nat} {N' : Nat} {Q : Exit → Env → World → Prop} {w0 w : World} {b oo off Tt idx bT bL bR n i : Nat} {trs : List Tr} {σ : Env} {x : Bool} (hN : N.f_boolTree ≠ 0)
    (h : TF w0 (.pointer (some ⟨b, oo, none⟩)) bT bL bR n i trs σ w) (hi : i < n) (hT : HF P Tt idx off) (hc : w0.cell? ⟨b, oo + off, none⟩ = some (.bool x))
    (hQ : ∀ σ' w', TF w0 (.pointer (some ⟨b, oo, none⟩)) bT bL bR n (i + 1) (trs ++ [leafT (if x then 1 else 0) [] false]) σ' w' → Q .normal σ' w') : W P loc N' (cTBool N Tt idx i) Q σ w := by
  obtain ⟨fs, hI1⟩ := hI.ti
  have f0 := h.f0
  have f1 := h.f1
  have f2 := h.f2
  have cT : w.cell? ⟨bT, 3, none⟩ = some (.slice (some ⟨bL, 0, none⟩) n n) := h.tc 3 _ rfl
  have cF : w.cell? ⟨b, oo + off, none⟩ = some (.bool x) := by rw [h.mod.cell _ _ (cell_lt (by rw [hc]; rfl)) (fun h => h)]; exact hc
  have st : ∀ {w' : World} {k o : Nat} {v : Value}, Mod w w' none' → w.cell? ⟨k, o, none⟩ = some v → w'.cell? ⟨k, o, none⟩ = some v := fun m hc => by rw [m.cell _ _ (cell_lt (by rw [hc]; rfl)) (fun h => h)]; exact hc
  have md : Mod w w.drew none' := Mod.drew _ _
  refine W_drawM B.mixed [true, true, true, true, true, true, false, false, false] (by kernel_rfl) (fun w' => Mod w w' none') md fun τ => ?_
  have e2 : envOf σ τ 102 = .pointer (some ⟨bT, 0, none⟩) := by rw [← f2]; exact envOf_var σ τ 2
  refine readsZ_cons (.pointer (some ⟨bT, 3, none⟩)) (fun w' _ => exec_val (by
    simp (decide := true) only [ev_tmp, e2, hI.h3.run])) rfl ?_
  refine readsZ_cons (.slice (some ⟨bL, 0, none⟩) n n) (fun w' hw => exec_val (by
    simp (decide := true) only [put_at, sel_true, BEq.rfl, ev_tmp, hI.lt.run_load1 rfl, st hw cT, ldc_some])) rfl ?_
  refine readsZ_cons (.pointer (some ⟨b, oo, none⟩)) (fun w' hw => by
    rw [exec_move, ev_tmp]
    simp (decide := true) only [put_at, envOf_var, sel_false, Nat.reduceBeqDiff, Nat.zero_add, f0]) rfl ?_
  refine readsZ_cons (.pointer (some ⟨b, oo, none⟩)) (fun w' hw => rfl) rfl ?_
  refine readsZ_cons (.pointer (some ⟨b, oo + off, none⟩)) (fun w' hw => exec_val (by
    simp (decide := true) only [put_at, sel_true, BEq.rfl, ev_tmp, hT.run])) rfl ?_
  refine readsZ_cons (.bool x) (fun w' hw => exec_val (by
    simp (decide := true) only [put_at, sel_true, BEq.rfl, ev_tmp, B.bool.run_load1 rfl, st hw cF, ldc_some])) rfl ?_
  simp only [readsZ, chainOps, List.zip_cons_cons, List.zip_nil_right, List.zipWith_cons_cons, List.zipWith_nil_right, List.filter, Bool.not_true, Bool.not_false, List.map, chainZ]
  rw [step_call1 (F.boolTree hN).has]
  simp (decide := true) only [step_store, step_indexAddr, ev_tmp, ev_const, put_at, sel_true, sel_false, Nat.reduceBeqDiff, BEq.rfl]
  refine Call.mono (call_boolTree B F hI hN w.drew x) ?_
  rintro _ w6 ⟨cs, rfl, hrep, m6⟩
  have mw := md.trans' m6
  refine ⟨mw, ?_⟩
  simp (decide := true) only [stepV_ok, Nat.zero_add, run_indexAt hI.lt hI1 hi]
  refine ⟨mw, ?_⟩
  obtain ⟨w8, hst, htf⟩ := tf_store hI (w7 := w6) (σ' := σ) h hi mw hrep rfl rfl rfl
  simp (decide := true) only [stepU_ok, hst]
  refine gen_locs (K := fun σ' w' => Q .normal σ' w') fun σ9 hσ => hQ _ _ (htf.env ?_ ?_ ?_)
  · rw [hσ 0]; simp (decide := true) only [put_at, envOf_var, sel_false, Nat.reduceBeqDiff, Nat.zero_add]
  · rw [hσ 1]; simp (decide := true) only [put_at, envOf_var, sel_false, Nat.reduceBeqDiff, Nat.reduceAdd]
  · rw [hσ 2]; simp (decide := true) only [put_at, envOf_var, sel_false, Nat.reduceBeqDiff, Nat.reduceAdd]

def cTOct (N : Nums) (Tt idx i : Nat) : C := .draw [
  ⟨some 0, .fieldAddr N.t_Tree (V 2) 3, 0, none, []⟩, ⟨some 1, .load N.t_LTree (T 0), 0, none, [0]⟩, ⟨some 2, .move (V 0), 0, none, []⟩, ⟨some 3, .nilCheck (T 2), 0, none, [2]⟩, ⟨some 4, .fieldAddr Tt (T 3) idx, 0, none, [3]⟩, ⟨some 5, .load N.t_Luint8 (T 4), 0, none, [4]⟩,
  ⟨some 6, .call ⟨.value (.func N.f_octetsTree), #[T 5], #[N.t_Luint8]⟩, N.t_Tree, none, [5]⟩,
  ⟨some 7, .indexAddr N.t_LTree (T 1) (.const (.int .i64 i)), 0, none, [1, 0, 1, 2, 3, 4, 5, 6]⟩, ⟨none, .store N.t_Tree (T 7) (T 6), 0, none, [7, 6, 6, 0, 1, 2, 3, 4, 5, 6]⟩]

theorem W_tOct (B : Base P N) (F : Fns P N) (hI : ImplT P N) {loc : List Nat} {N' : Nat} {Q : Exit → Env → World → Prop} {w0 w : World} {b oo off Tt idx bT bL bR n i : Nat} {trs : List Tr} {σ : Env} {x : Option (List UInt8)} {v : Value} {G : Nat → Prop} (hN : N.f_octetsTree ≠ 0) (hG : ∀ k, G k → k < w0.heap.size) (hx : OctG w0 G v x) (hl : (x.getD []).length < 1099511627776)
    (h : TF w0 (.pointer (some ⟨b, oo, none⟩)) bT bL bR n i trs σ w) (hi : i < n) (hT : HF P Tt idx off) (hc : w0.cell? ⟨b, oo + off, none⟩ = some (v))
    (hQ : ∀ σ' w', TF w0 (.pointer (some ⟨b, oo, none⟩)) bT bL bR n (i + 1) (trs ++ [leafT 0 (x.getD []) x.isNone]) σ' w' → Q .normal σ' w') : W P loc N' (cTOct N Tt idx i) Q σ w := by
  obtain ⟨fs, hI1⟩ := hI.ti
  have f0 := h.f0
  have f1 := h.f1
  have f2 := h.f2
  have cT : w.cell? ⟨bT, 3, none⟩ = some (.slice (some ⟨bL, 0, none⟩) n n) := h.tc 3 _ rfl
  have cF : w.cell? ⟨b, oo + off, none⟩ = some (v) := by rw [h.mod.cell _ _ (cell_lt (by rw [hc]; rfl)) (fun h => h)]; exact hc
  have st : ∀ {w' : World} {k o : Nat} {v : Value}, Mod w w' none' → w.cell? ⟨k, o, none⟩ = some v → w'.cell? ⟨k, o, none⟩ = some v := fun m hc => by rw [m.cell _ _ (cell_lt (by rw [hc]; rfl)) (fun h => h)]; exact hc
  have md : Mod w w.drew none' := Mod.drew _ _
  refine W_drawM B.mixed [true, true, true, true, true, true, false, false, false] (by kernel_rfl) (fun w' => Mod w w' none') md fun τ => ?_
  have e2 : envOf σ τ 102 = .pointer (some ⟨bT, 0, none⟩) := by rw [← f2]; exact envOf_var σ τ 2
  refine readsZ_cons (.pointer (some ⟨bT, 3, none⟩)) (fun w' _ => exec_val (by
    simp (decide := true) only [ev_tmp, e2, hI.h3.run])) rfl ?_
  refine readsZ_cons (.slice (some ⟨bL, 0, none⟩) n n) (fun w' hw => exec_val (by
    simp (decide := true) only [put_at, sel_true, BEq.rfl, ev_tmp, hI.lt.run_load1 rfl, st hw cT, ldc_some])) rfl ?_
  refine readsZ_cons (.pointer (some ⟨b, oo, none⟩)) (fun w' hw => by
    rw [exec_move, ev_tmp]
    simp (decide := true) only [put_at, envOf_var, sel_false, Nat.reduceBeqDiff, Nat.zero_add, f0]) rfl ?_
  refine readsZ_cons (.pointer (some ⟨b, oo, none⟩)) (fun w' hw => rfl) rfl ?_
  refine readsZ_cons (.pointer (some ⟨b, oo + off, none⟩)) (fun w' hw => exec_val (by
    simp (decide := true) only [put_at, sel_true, BEq.rfl, ev_tmp, hT.run])) rfl ?_
  refine readsZ_cons (v) (fun w' hw => exec_val (by
    simp (decide := true) only [put_at, sel_true, BEq.rfl, ev_tmp, B.Lu8.run_load1 rfl, st hw cF, ldc_some])) rfl ?_
  simp only [readsZ, chainOps, List.zip_cons_cons, List.zip_nil_right, List.zipWith_cons_cons, List.zipWith_nil_right, List.filter, Bool.not_true, Bool.not_false, List.map, chainZ]
  rw [step_call1 (F.octetsTree hN).has]
  simp (decide := true) only [step_store, step_indexAddr, ev_tmp, ev_const, put_at, sel_true, sel_false, Nat.reduceBeqDiff, BEq.rfl]
  have m0 : Mod w0 w.drew none' := h.mod.trans' md
  have hG' : ∀ k, G k → k < w.drew.heap.size := fun k hk => by have := hG k hk; have := m0.size; omega
  refine Call.mono (call_octetsTree B F hI hN hG' (hx.stay m0) hl) ?_
  rintro _ w6 ⟨cs, rfl, hrep, m6⟩
  have mw := md.trans' m6
  refine ⟨mw, ?_⟩
  simp (decide := true) only [stepV_ok, Nat.zero_add, run_indexAt hI.lt hI1 hi]
  refine ⟨mw, ?_⟩
  obtain ⟨w8, hst, htf⟩ := tf_store hI (w7 := w6) (σ' := σ) h hi mw hrep rfl rfl rfl
  simp (decide := true) only [stepU_ok, hst]
  refine gen_locs (K := fun σ' w' => Q .normal σ' w') fun σ9 hσ => hQ _ _ (htf.env ?_ ?_ ?_)
  · rw [hσ 0]; simp (decide := true) only [put_at, envOf_var, sel_false, Nat.reduceBeqDiff, Nat.zero_add]
  · rw [hσ 1]; simp (decide := true) only [put_at, envOf_var, sel_false, Nat.reduceBeqDiff, Nat.reduceAdd]
  · rw [hσ 2]; simp (decide := true) only [put_at, envOf_var, sel_false, Nat.reduceBeqDiff, Nat.reduceAdd]

def cTNstr (N : Nums) (Tt idx i : Nat) : C := .draw [
  ⟨some 0, .fieldAddr N.t_Tree (V 2) 3, 0, none, []⟩, ⟨some 1, .load N.t_LTree (T 0), 0, none, [0]⟩, ⟨some 2, .move (V 0), 0, none, []⟩, ⟨some 3, .nilCheck (T 2), 0, none, [2]⟩, ⟨some 4, .fieldAddr Tt (T 3) idx, 0, none, [3]⟩, ⟨some 5, .load N.t_Pstring (T 4), 0, none, [4]⟩,
  ⟨some 6, .call ⟨.value (.func N.f_textTree), #[T 5], #[N.t_Pstring]⟩, N.t_Tree, none, [5]⟩,
  ⟨some 7, .indexAddr N.t_LTree (T 1) (.const (.int .i64 i)), 0, none, [1, 0, 1, 2, 3, 4, 5, 6]⟩, ⟨none, .store N.t_Tree (T 7) (T 6), 0, none, [7, 6, 6, 0, 1, 2, 3, 4, 5, 6]⟩]

theorem W_tNstr (B : Base P N) (F : Fns P N) (hI : ImplT P N) {loc : List Nat} {N' : Nat} {Q : Exit → Env → World → Prop} {w0 w : World} {b oo off Tt idx bT bL bR n i : Nat} {trs : List Tr} {σ : Env} {x : Option (List UInt8)} {v : Value} {G : Nat → Prop} (hN : N.f_textTree ≠ 0) (hp : N.t_Pstring ≠ 0) (hG : ∀ k, G k → k < w0.heap.size) (hx : Rep w0 G (.nstr x) [v])
    (h : TF w0 (.pointer (some ⟨b, oo, none⟩)) bT bL bR n i trs σ w) (hi : i < n) (hT : HF P Tt idx off) (hc : w0.cell? ⟨b, oo + off, none⟩ = some (v))
    (hQ : ∀ σ' w', TF w0 (.pointer (some ⟨b, oo, none⟩)) bT bL bR n (i + 1) (trs ++ [leafT 0 (x.getD []) x.isNone]) σ' w' → Q .normal σ' w') : W P loc N' (cTNstr N Tt idx i) Q σ w := by
  obtain ⟨fs, hI1⟩ := hI.ti
  have f0 := h.f0
  have f1 := h.f1
  have f2 := h.f2
  have cT : w.cell? ⟨bT, 3, none⟩ = some (.slice (some ⟨bL, 0, none⟩) n n) := h.tc 3 _ rfl
  have cF : w.cell? ⟨b, oo + off, none⟩ = some (v) := by rw [h.mod.cell _ _ (cell_lt (by rw [hc]; rfl)) (fun h => h)]; exact hc
  have st : ∀ {w' : World} {k o : Nat} {v : Value}, Mod w w' none' → w.cell? ⟨k, o, none⟩ = some v → w'.cell? ⟨k, o, none⟩ = some v := fun m hc => by rw [m.cell _ _ (cell_lt (by rw [hc]; rfl)) (fun h => h)]; exact hc
  have md : Mod w w.drew none' := Mod.drew _ _
  refine W_drawM B.mixed [true, true, true, true, true, true, false, false, false] (by kernel_rfl) (fun w' => Mod w w' none') md fun τ => ?_
  have e2 : envOf σ τ 102 = .pointer (some ⟨bT, 0, none⟩) := by rw [← f2]; exact envOf_var σ τ 2
  refine readsZ_cons (.pointer (some ⟨bT, 3, none⟩)) (fun w' _ => exec_val (by
    simp (decide := true) only [ev_tmp, e2, hI.h3.run])) rfl ?_
  refine readsZ_cons (.slice (some ⟨bL, 0, none⟩) n n) (fun w' hw => exec_val (by
    simp (decide := true) only [put_at, sel_true, BEq.rfl, ev_tmp, hI.lt.run_load1 rfl, st hw cT, ldc_some])) rfl ?_
  refine readsZ_cons (.pointer (some ⟨b, oo, none⟩)) (fun w' hw => by
    rw [exec_move, ev_tmp]
    simp (decide := true) only [put_at, envOf_var, sel_false, Nat.reduceBeqDiff, Nat.zero_add, f0]) rfl ?_
  refine readsZ_cons (.pointer (some ⟨b, oo, none⟩)) (fun w' hw => rfl) rfl ?_
  refine readsZ_cons (.pointer (some ⟨b, oo + off, none⟩)) (fun w' hw => exec_val (by
    simp (decide := true) only [put_at, sel_true, BEq.rfl, ev_tmp, hT.run])) rfl ?_
  refine readsZ_cons (v) (fun w' hw => exec_val (by
    simp (decide := true) only [put_at, sel_true, BEq.rfl, ev_tmp, (B.pstring hp).run_load1 rfl, st hw cF, ldc_some])) rfl ?_
  simp only [readsZ, chainOps, List.zip_cons_cons, List.zip_nil_right, List.zipWith_cons_cons, List.zipWith_nil_right, List.filter, Bool.not_true, Bool.not_false, List.map, chainZ]
  rw [step_call1 (F.textTree hN).has]
  simp (decide := true) only [step_store, step_indexAddr, ev_tmp, ev_const, put_at, sel_true, sel_false, Nat.reduceBeqDiff, BEq.rfl]
  have m0 : Mod w0 w.drew none' := h.mod.trans' md
  have hG' : ∀ k, G k → k < w.drew.heap.size := fun k hk => by have := hG k hk; have := m0.size; omega
  obtain ⟨v', hv', hcall⟩ := call_textTree B F hI hN hp hG' (Rep.mod m0 (fun k hk => ⟨hG k hk, fun _ h => h, hk⟩) _ hx)
  have hvv : v' = v := by injection hv' with e _; exact e.symm
  subst hvv
  refine Call.mono hcall ?_
  rintro _ w6 ⟨cs, rfl, hrep, m6⟩
  have mw := md.trans' m6
  refine ⟨mw, ?_⟩
  simp (decide := true) only [stepV_ok, Nat.zero_add, run_indexAt hI.lt hI1 hi]
  refine ⟨mw, ?_⟩
  obtain ⟨w8, hst, htf⟩ := tf_store hI (w7 := w6) (σ' := σ) h hi mw hrep rfl rfl rfl
  simp (decide := true) only [stepU_ok, hst]
  refine gen_locs (K := fun σ' w' => Q .normal σ' w') fun σ9 hσ => hQ _ _ (htf.env ?_ ?_ ?_)
  · rw [hσ 0]; simp (decide := true) only [put_at, envOf_var, sel_false, Nat.reduceBeqDiff, Nat.zero_add]
  · rw [hσ 1]; simp (decide := true) only [put_at, envOf_var, sel_false, Nat.reduceBeqDiff, Nat.reduceAdd]
  · rw [hσ 2]; simp (decide := true) only [put_at, envOf_var, sel_false, Nat.reduceBeqDiff, Nat.reduceAdd]
end
end Go.Kf

/- A message is told: a list, thing by thing: what holds. -/
namespace Go.Kf
open Go Go.RowKit

section
variable {P : Program} {N : Nums}

/-- What holds while a list is told. -/
structure TL (w0 : World) (src : Value) (bT bL bR n i : Nat) (trs : List Tr) (lo : Nat) (nl : Bool) (v : Value) (ts : List Tr) (σ : Env) (w : World) : Prop where
  f0 : σ 0 = src
  f1 : σ 1 = .pointer (some ⟨bR, 0, none⟩)
  f2 : σ 2 = .pointer (some ⟨bT, 0, none⟩)
  mod : Mod w0 w none'
  tc : w.rangeAt bT 0 [.int .i64 0, .slice none 0 0, .bool false, .slice (some ⟨bL, 0, none⟩) n n, .slice none 0 0]
  tt : w.there bT 0 5
  tl : w.there bL 0 (n * 5)
  res : ResAt w bR
  len : trs.length = i
  le : i < n
  ex : ∃ css csl, w.rangeAt bL 0 (css.flatten ++ ([.int .i64 0, .slice none 0 0, .bool nl, v, .slice none 0 0] ++ zs zT (n - (i + 1)))) ∧ RepTs w (NBx w0.heap.size lo bT bL bR) trs css ∧
    Own w lo 5 v ts.length csl.flatten ∧ RepTs w (GX (fun _ => False) lo w v) ts csl
  lt : (w0.heap.size ≤ bT ∧ bT < lo) ∧ (w0.heap.size ≤ bL ∧ bL < lo) ∧ (w0.heap.size ≤ bR ∧ bR < lo) ∧ lo ≤ w.heap.size ∧ bT ≠ bL ∧ bT ≠ bR ∧ bL ≠ bR

theorem TL.env {w0 w : World} {src v : Value} {bT bL bR n i lo : Nat} {nl : Bool} {trs ts : List Tr} {σ σ' : Env} (h : TL w0 src bT bL bR n i trs lo nl v ts σ w) (e0 : σ' 0 = σ 0) (e1 : σ' 1 = σ 1) (e2 : σ' 2 = σ 2) : TL w0 src bT bL bR n i trs lo nl v ts σ' w :=
  ⟨by rw [e0]; exact h.f0, by rw [e1]; exact h.f1, by rw [e2]; exact h.f2, h.mod, h.tc, h.tt, h.tl, h.res, h.len, h.le, h.ex, h.lt⟩

theorem TL.blk {w0 w : World} {src v : Value} {bT bL bR n i lo : Nat} {nl : Bool} {trs ts : List Tr} {σ : Env} (h : TL w0 src bT bL bR n i trs lo nl v ts σ w) {k : Nat} (hk : ¬ notBlk v k) : lo ≤ k ∧ k < w.heap.size := by
  obtain ⟨css, csl, _, _, ho, _⟩ := h.ex
  exact ho.blk hk

theorem TL.cellT {w0 w : World} {src v : Value} {bT bL bR n i lo : Nat} {nl : Bool} {trs ts : List Tr} {σ : Env} (h : TL w0 src bT bL bR n i trs lo nl v ts σ w) : w.cell? ⟨bT, 3, none⟩ = some (.slice (some ⟨bL, 0, none⟩) n n) := h.tc 3 _ rfl
theorem TL.cellL {w0 w : World} {src v : Value} {bT bL bR n i lo : Nat} {nl : Bool} {trs ts : List Tr} {σ : Env} (h : TL w0 src bT bL bR n i trs lo nl v ts σ w) : w.cell? ⟨bL, i * 5 + 3, none⟩ = some v := by
  obtain ⟨css, csl, hr, hrep, _, _⟩ := h.ex
  have hl : css.flatten.length = i * 5 := by rw [flatten_len hrep.len5, hrep.length, h.len]
  have := (rangeAt_append.1 hr).2
  rw [hl, Nat.zero_add] at this
  exact this 3 v rfl

/-- Blocks of the tree's own may be left as they are; the list's block may have changed. -/
theorem TL.move {w0 w w' : World} {src v v' : Value} {bT bL bR n i lo : Nat} {nl : Bool} {trs ts ts' : List Tr} {σ : Env} (h : TL w0 src bT bL bR n i trs lo nl v ts σ w) (m : Mod w w' fun k o => lo ≤ k ∨ (k = bL ∧ o = i * 5 + 3)) (hc : w'.cell? ⟨bL, i * 5 + 3, none⟩ = some v')
    (hex : ∃ csl, Own w' lo 5 v' ts'.length csl.flatten ∧ RepTs w' (GX (fun _ => False) lo w' v') ts' csl) : TL w0 src bT bL bR n i trs lo nl v' ts' σ w' := by
  obtain ⟨f0, f1, f2, mod, tc, tt, tl, res, len, le, ⟨css, csl, hr, hrep, ho, hts⟩, l1, l2, l3, l4, l5, l6, l7⟩ := h
  have hs := m.size
  obtain ⟨csl', ho', hts'⟩ := hex
  have hl : css.flatten.length = i * 5 := by rw [flatten_len hrep.len5, hrep.length, len]
  have noT : ∀ o, ¬ (lo ≤ bT ∨ (bT = bL ∧ o = i * 5 + 3)) := fun o h => by omega
  have noR : ∀ o, ¬ (lo ≤ bR ∨ (bR = bL ∧ o = i * 5 + 3)) := fun o h => by omega
  refine ⟨f0, f1, f2, ?_, m.rangeAt (by omega) (fun _ _ _ => noT _) tc, m.there (by omega) tt, m.there (by omega) tl, ⟨m.rangeAt (by omega) (fun _ _ _ => noR _) res.r, m.there (by omega) res.t⟩, len, le, ⟨css, csl', ?_, ?_, ho', hts'⟩, l1, l2, l3, by omega, l5, l6, l7⟩
  · exact mod.trans m fun k o hk h => h.elim id fun h => h.elim (fun h => by omega) fun h => by omega
  · have q := rangeAt_append.1 hr
    rw [hl, Nat.zero_add] at q
    have q2 := (rangeAt_append (cs := [.int .i64 0, .slice none 0 0, .bool nl]) (ds := v :: .slice none 0 0 :: zs zT (n - (i + 1)))).1 q.2
    have q3 := (rangeAt_append (cs := [v]) (ds := .slice none 0 0 :: zs zT (n - (i + 1)))).1 q2.2
    rw [rangeAt_append, hl, Nat.zero_add]
    refine ⟨m.rangeAt (by omega) (fun j h1 h2 h => by rcases h with h | h <;> omega) q.1, ?_⟩
    refine (rangeAt_append (cs := [.int .i64 0, .slice none 0 0, .bool nl]) (ds := v' :: .slice none 0 0 :: zs zT (n - (i + 1)))).2 ⟨m.rangeAt (by omega) (fun j h1 h2 h => by simp at h2; rcases h with h | h <;> omega) q2.1, ?_⟩
    refine (rangeAt_append (cs := [v']) (ds := .slice none 0 0 :: zs zT (n - (i + 1)))).2 ⟨rangeAt_one.2 hc, m.rangeAt (by omega) (fun j h1 h2 h => by simp at h1; rcases h with h | h <;> omega) q3.2⟩
  · exact RepTs.mod m (fun k hk => ⟨by have := hk.1.2; omega, fun o e => by
      have a := hk.1.2
      have b := hk.2.2.1
      rcases e with e | e
      · omega
      · exact b e.1, hk⟩) trs hrep

/-- The list's null is told: the list begins. -/
theorem TF.list {w0 w : World} {src : Value} {bT bL bR n i : Nat} {trs : List Tr} {σ : Env} (h : TF w0 src bT bL bR n i trs σ w) (hi : i < n) (nl : Bool) :
    w.there bL (i * 5 + 2) 1 ∧ TL w0 src bT bL bR n i trs w.heap.size nl (.slice none 0 0) [] σ (w.setCell ⟨bL, i * 5 + 2, none⟩ (.bool nl)) := by
  obtain ⟨f0, f1, f2, mod, tc, tt, tl, res, len, le, ⟨css, hr, hrep⟩, l1, l2, l3, l4⟩ := h
  have m : Mod w (w.setCell ⟨bL, i * 5 + 2, none⟩ (.bool nl)) (rng bL (i * 5 + 2) 1) := Mod.setCell fun _ => ⟨rfl, Nat.le_refl _, by omega⟩
  have hs : (w.setCell ⟨bL, i * 5 + 2, none⟩ (.bool nl)).heap.size = w.heap.size := by simp [World.setCell]
  have hl : css.flatten.length = i * 5 := by rw [flatten_len hrep.len5, hrep.length, len]
  have q := rangeAt_append.1 hr
  rw [hl, Nat.zero_add, zs_pos _ _ (by omega)] at q
  have q2 := (rangeAt_append (cs := [.int .i64 0, .slice none 0 0]) (ds := .bool false :: .slice none 0 0 :: .slice none 0 0 :: zs zT (n - i - 1))).1 q.2
  have q3 := rangeAt_setCells [.bool nl] (i * 5 + 2) w _ q2.2 (by simp)
  refine ⟨fun j hj => ?_, f0, f1, f2, mod.fresh m fun k o e => by have := e.1; omega, m.rangeAt (by omega) (fun _ _ _ e => l4.1 e.1) tc, m.there (by omega) tt, m.there (by omega) tl, ⟨m.rangeAt (by omega) (fun _ _ _ e => l4.2.2 e.1.symm) res.r, m.there (by omega) res.t⟩, len, hi,
    ⟨css, [], ?_, ?_, .inl ⟨rfl, rfl, rfl⟩, by simp only [RepTs]⟩, l1, l2, l3, by rw [hs]; exact Nat.le_refl _, l4⟩
  · have := tl (i * 5 + 2 + j) (by have : (i + 1) * 5 ≤ n * 5 := Nat.mul_le_mul_right _ hi; omega)
    rwa [Nat.zero_add] at this
  · rw [rangeAt_append, hl, Nat.zero_add]
    refine ⟨m.rangeAt (by omega) (fun j h1 h2 e => by have := e.2.1; omega) q.1, ?_⟩
    have q4 : (w.setCell ⟨bL, i * 5 + 2, none⟩ (.bool nl)).rangeAt bL (i * 5 + 2) (.bool nl :: .slice none 0 0 :: .slice none 0 0 :: zs zT (n - (i + 1))) := by
      have e : n - i - 1 = n - (i + 1) := by omega
      rw [e] at q3
      exact q3
    refine (rangeAt_append (cs := [.int .i64 0, .slice none 0 0]) (ds := .bool nl :: .slice none 0 0 :: .slice none 0 0 :: zs zT (n - (i + 1)))).2 ⟨m.rangeAt (by omega) (fun j h1 h2 e => by have := e.2.1; simp at h2; omega) q2.1, ?_⟩
    exact q4
  · exact RepTs.mod m (fun k hk => ⟨hk.1.2, fun o e => hk.2.2.1 e.1, hk⟩) trs hrep

/-- The list is told. -/
theorem TL.done {w0 w : World} {src v : Value} {bT bL bR n i lo : Nat} {nl : Bool} {trs ts : List Tr} {σ : Env} (h : TL w0 src bT bL bR n i trs lo nl v ts σ w) : TF w0 src bT bL bR n (i + 1) (trs ++ [.mk 0 [] nl ts []]) σ w := by
  obtain ⟨f0, f1, f2, mod, tc, tt, tl, res, len, le, ⟨css, csl, hr, hrep, ho, hts⟩, l1, l2, l3, l4, l5⟩ := h
  have hms := mod.size
  refine ⟨f0, f1, f2, mod, tc, tt, tl, res, by rw [List.length_append, len]; rfl, le, ⟨css ++ [[.int .i64 0, .slice none 0 0, .bool nl, v, .slice none 0 0]], ?_, ?_⟩, ⟨l1.1, by omega⟩, ⟨l2.1, by omega⟩, ⟨l3.1, by omega⟩, l5⟩
  · rw [List.flatten_append, List.append_assoc]
    simpa using hr
  · refine (RepTs.mono (fun k hk => ⟨⟨hk.1.1, by have := hk.1.2; omega⟩, hk.2⟩) trs hrep).append ⟨_, [], rfl, ?_, rfl⟩
    have key : ∀ k, lo ≤ k → k < w.heap.size → NBx w0.heap.size w.heap.size bT bL bR k := fun k h1 h2 => ⟨⟨by omega, h2⟩, by omega, by omega, by omega⟩
    simp only [RepT]
    refine ⟨_, v, _, rfl, tagV_nil, ?_, .inl ⟨rfl, rfl⟩⟩
    rcases ho with ⟨e1, e2, _⟩ | ⟨b, c, e1, g1, g2, g3, _, g5, _⟩
    · exact .inl ⟨e1, List.length_eq_zero_iff.1 e2⟩
    · exact .inr ⟨b, c, csl, e1, g3, fun _ => key b g1 g2, RepTs.mono (fun k hk => hk.elim False.elim fun hk => key k hk.1 hk.2.1) ts hts, g5⟩
end
end Go.Kf

/- A message is told: a thing is put behind a list. -/
namespace Go.Kf
open Go Go.RowKit

section
variable {P : Program} {N : Nums}

theorem TL.cellStore (hI : ImplT P N) {w0 w w8 : World} {src v v' : Value} {bT bL bR n i lo : Nat} {nl : Bool} {trs ts : List Tr} {σ : Env} (h : TL w0 src bT bL bR n i trs lo nl v ts σ w) (m : Mod w w8 fun k _ => ¬ notBlk v k) (hone : v'.oneCell' = true) :
    ∃ w9, (Instr.storeAt N.t_LTree (.pointer (some ⟨bL, i * 5 + 3, none⟩)) v').run P w8 = .ok () w9 ∧ Mod w8 w9 (fun k o => k = bL ∧ o = i * 5 + 3) ∧ w9.cell? ⟨bL, i * 5 + 3, none⟩ = some v' ∧ w9.heap.size = w8.heap.size := by
  have lt := h.lt
  have hi := h.le
  have nb : ¬ ¬ notBlk v bL := fun hk => by have := (h.blk hk).1; omega
  have t8 : w8.there bL (i * 5 + 3) 1 := fun j hj => by
    have := (m.there (by omega) h.tl : w8.there bL 0 (n * 5)) (i * 5 + 3 + j) (by have : (i + 1) * 5 ≤ n * 5 := Nat.mul_le_mul_right _ hi; omega)
    rwa [Nat.zero_add] at this
  have c8 : w8.cell? ⟨bL, i * 5 + 3, none⟩ = some v := by rw [m.cell _ _ (by omega) nb]; exact h.cellL
  exact ⟨_, hI.lt.run_store1 (w := w8) (b := bL) (o := i * 5 + 3) (v := v') hone t8, Mod.setCell fun _ => ⟨rfl, rfl⟩, World.cell?_setCell_same _ _ _ c8, by simp [World.setCell]⟩

/-- What was there of the list, and a thing more. -/
theorem TL.push {w0 w w6 w7 w8 w9 : World} {src v v' : Value} {bT bL bR n i lo a : Nat} {nl : Bool} {trs ts : List Tr} {σ : Env} {t : Tr} {cs : List Value} (h : TL w0 src bT bL bR n i trs lo nl v ts σ w)
    (m6 : Mod w w6 none') (ha : w.heap.size ≤ a) (hrep : RepT w6 (NB a w6.heap.size) t cs) (m7 : Mod w6 w7 none') (m8 : Mod w7 w8 fun k _ => ¬ notBlk v k) (hnb : ∀ k, k < w7.heap.size → notBlk v k → notBlk v' k) (m9 : Mod w8 w9 fun k o => k = bL ∧ o = i * 5 + 3)
    (hc : w9.cell? ⟨bL, i * 5 + 3, none⟩ = some v') {csl : List (List Value)} (hts : RepTs w (GX (fun _ => False) lo w v) ts csl) (ho : Own w9 lo 5 v' (ts ++ [t]).length (csl ++ [cs]).flatten) :
    TL w0 src bT bL bR n i trs lo nl v' (ts ++ [t]) σ w9 := by
  have lt := h.lt
  have m9' : Mod w8 w9 fun k _ => k = bL := m9.mono fun _ _ _ h => h.1
  obtain ⟨q1, q2, q3, q4⟩ := own_step (w := w) (w6 := w6) (w7 := w7) (w8 := w8) (w9 := w9) (G := fun _ => False) (lo := lo) (v := v) (v' := v') (b3 := bL) (a := a) (fun _ h => h.elim) (by omega) (by omega) m6 ha m7 m8 m9' (fun k hk => h.blk hk) hnb
  refine h.move ?_ hc ?_
  · exact (((m6.mono fun _ _ _ h => h.elim).trans' (m7.mono fun _ _ _ h => h.elim)).trans' (m8.mono fun k o _ hk => .inl (h.blk hk).1)).trans' (m9.mono fun _ _ _ h => .inr h)
  · exact ⟨csl ++ [cs], ho, (RepTs.mod q1 q2 ts hts).append ⟨cs, [], rfl, RepT.mod q3 (fun k hk => q4 k (.inr hk)) t hrep, rfl⟩⟩

/-- One thing is told, then put behind. -/
theorem tl_append (hI : ImplT P N) {w0 w w6 : World} {src v : Value} {bT bL bR n i lo a : Nat} {nl : Bool} {trs ts : List Tr} {σ : Env} {t : Tr} {cs : List Value} (h : TL w0 src bT bL bR n i trs lo nl v ts σ w) (hlen : ts.length + 1 < 1099511627776)
    (m6 : Mod w w6 none') (ha : w.heap.size ≤ a) (hrep : RepT w6 (NB a w6.heap.size) t cs) :
    ∃ w7 v' w8 w9, (Instr.buildSlice N.t_LTree 1 #[(0, .agg cs.toArray)]).run P w6 = .ok (.slice (some ⟨w6.heap.size, 0, none⟩) 1 1) w7 ∧
      (Builtin.append_ #[N.t_LTree, N.t_LTree] N.t_LTree #[v, .slice (some ⟨w6.heap.size, 0, none⟩) 1 1]).run P w7 = .ok v' w8 ∧ (Instr.storeAt N.t_LTree (.pointer (some ⟨bL, i * 5 + 3, none⟩)) v').run P w8 = .ok () w9 ∧
      Mod w w7 (fun k _ => ¬ notBlk v k) ∧ Mod w w8 (fun k _ => ¬ notBlk v k) ∧ TL w0 src bT bL bR n i trs lo nl v' (ts ++ [t]) σ w9 := by
  obtain ⟨fs, hI1⟩ := hI.ti
  have hcl := hrep.len
  have lt := h.lt
  have s6 := m6.size
  have hbs := run_bs1 (w := w6) (v := .agg cs.toArray) (cs := cs) hI.lt hI1 rfl hcl (by decide) (by decide)
  obtain ⟨w7, hw7⟩ : ∃ w7, w7 = w6.alloc (.cells cs.toArray N.t_Tree) := ⟨_, rfl⟩
  have m7 : Mod w6 w7 none' := by rw [hw7]; exact Mod.alloc _ _ _
  have s7 : w7.heap.size = w6.heap.size + 1 := by rw [hw7]; exact alloc_size _ _
  have r7 : w7.rangeAt w6.heap.size 0 cs := by rw [hw7]; exact rangeAt_alloc w6 _ _ _
  rw [← hw7] at hbs
  clear hw7
  have m07 : Mod w w7 none' := m6.trans' m7
  obtain ⟨css, csl, _, _, hown, hts⟩ := h.ex
  have ho7 : Own w7 lo 5 v ts.length csl.flatten := hown.stay m07 fun _ _ _ h => h
  obtain ⟨v', w8, happ, ho8, m8, hone', hnb⟩ := run_append1 (P := P) (ty := N.t_LTree) (m := 1) (cb := 1) hI.lt hI1 ho7 r7 (by rw [hcl]) hrep.one (by omega) rfl (RepTs.ones hts) (by omega) (by decide) (by decide)
  have m08 : Mod w w8 (fun k _ => ¬ notBlk v k) := (m07.mono fun _ _ _ h => h.elim).trans' m8
  obtain ⟨w9, hst, m9, c9, s9⟩ := h.cellStore hI m08 hone'
  refine ⟨w7, v', w8, w9, hbs, happ, hst, m07.mono fun _ _ _ h => h.elim, m08, h.push m6 ha hrep m7 m8 hnb m9 c9 hts ?_⟩
  rw [List.flatten_append, List.length_append]
  have := ho8.stay m9 fun k o hk e => by have := (ho8.blk hk).1; have := e.1; omega
  simpa using this

/-- A nothing is put behind, then a thing is told into its place. -/
theorem tl_append0 (hI : ImplT P N) {w0 w w6 : World} {src v : Value} {bT bL bR n i lo a bz : Nat} {nl : Bool} {trs ts : List Tr} {σ : Env} {t : Tr} {cs : List Value} (h : TL w0 src bT bL bR n i trs lo nl v ts σ w) (hlen : ts.length + 1 < 1099511627776)
    (m6 : Mod w w6 none') (ha : w.heap.size ≤ a) (hrep : RepT w6 (NB a w6.heap.size) t cs) (hz : w6.rangeAt bz 0 zT) :
    ∃ bv c w8 w9 w10, (Builtin.append_ #[N.t_LTree, N.t_LTree] N.t_LTree #[v, .slice (some ⟨bz, 0, none⟩) 1 1]).run P w6 = .ok (.slice (some ⟨bv, 0, none⟩) (ts.length + 1) c) w8 ∧ (Instr.storeAt N.t_LTree (.pointer (some ⟨bL, i * 5 + 3, none⟩)) (.slice (some ⟨bv, 0, none⟩) (ts.length + 1) c)).run P w8 = .ok () w9 ∧
      Mod w w8 (fun k _ => ¬ notBlk v k) ∧ (Instr.storeAt N.t_Tree (.pointer (some ⟨bv, ts.length * 5, none⟩)) (.agg cs.toArray)).run P w9 = .ok () w10 ∧ TL w0 src bT bL bR n i trs lo nl (.slice (some ⟨bv, 0, none⟩) (ts.length + 1) c) (ts ++ [t]) σ w10 := by
  obtain ⟨fs, hI1⟩ := hI.ti
  have hcl := hrep.len
  have lt := h.lt
  have s6 := m6.size
  obtain ⟨css, csl, _, _, hown, hts⟩ := h.ex
  have ho7 : Own w6 lo 5 v ts.length csl.flatten := hown.stay m6 fun _ _ _ h => h
  obtain ⟨v', w8, happ, ho8, m8, hone', hnb⟩ := run_append1 (P := P) (ty := N.t_LTree) (m := 1) (cb := 1) hI.lt hI1 ho7 hz rfl (fun c hc => by
    simp [zT] at hc; rcases hc with rfl | rfl | rfl | rfl <;> rfl) (by omega) rfl (RepTs.ones hts) (by omega) (by decide) (by decide)
  have m08 : Mod w w8 (fun k _ => ¬ notBlk v k) := (m6.mono fun _ _ _ h => h.elim).trans' m8
  obtain ⟨w9, hst, m9, c9, s9⟩ := h.cellStore hI m08 hone'
  have ho9 : Own w9 lo 5 v' (ts.length + 1) (csl.flatten ++ zT) := ho8.stay m9 fun k o hk e => by have := (ho8.blk hk).1; have := e.1; omega
  obtain ⟨bv, c, rfl, g1, g2, g3, g4, g5, g6⟩ : ∃ bv c, v' = .slice (some ⟨bv, 0, none⟩) (ts.length + 1) c ∧ lo ≤ bv ∧ bv < w9.heap.size ∧ ts.length + 1 ≤ c ∧ w9.there bv 0 (c * 5) ∧ w9.rangeAt bv 0 (csl.flatten ++ zT) ∧ (csl.flatten ++ zT).length = (ts.length + 1) * 5 := by
    rcases ho9 with ⟨_, e, _⟩ | h
    · omega
    · exact h
  have hfl : csl.flatten.length = ts.length * 5 := by rw [flatten_len hts.len5, hts.length]
  have t5 : w9.there bv (ts.length * 5) 5 := fun j hj => by
    have := g4 (ts.length * 5 + j) (by have : (ts.length + 1) * 5 ≤ c * 5 := Nat.mul_le_mul_right _ g3; omega)
    rwa [Nat.zero_add] at this
  have m10 : Mod w9 (w9.setCells bv (ts.length * 5) cs) (rng bv (ts.length * 5) 5) := Mod.setCells cs _ w9 fun _ k h1 h2 => ⟨rfl, h1, by omega⟩
  have s10 : (w9.setCells bv (ts.length * 5) cs).heap.size = w9.heap.size := setCells_size _ _ _
  have hst10 := hI1.run_store (w := w9) (b := bv) (o := ts.length * 5) (v := .agg cs.toArray) (cs := cs) rfl hcl t5 hrep.one
  have q := rangeAt_append.1 g5
  rw [hfl, Nat.zero_add] at q
  have q2 := rangeAt_setCells cs (ts.length * 5) w9 _ q.2 (by rw [hcl]; exact Nat.le_refl _)
  rw [List.drop_of_length_le (by rw [hcl]; exact Nat.le_refl _), List.append_nil] at q2
  obtain ⟨w10, hw10⟩ : ∃ w10, w10 = w9.setCells bv (ts.length * 5) cs := ⟨_, rfl⟩
  rw [← hw10] at m10 s10 hst10 q2
  clear hw10
  refine ⟨bv, c, w8, w9, w10, happ, hst, m08, hst10, ?_⟩
  have s8 := m8.size
  have hbv : ∀ k, k = bv → ¬ notBlk (.slice (some ⟨bv, 0, none⟩) (ts.length + 1) c) k := fun k e hn => hn bv 0 none _ _ rfl e
  have m9' : Mod w8 w9 fun k _ => k = bL := m9.mono fun _ _ _ h => h.1
  obtain ⟨r1, r2, r3, r4⟩ := own_step (w := w) (w6 := w6) (w7 := w6) (w8 := w8) (w9 := w9) (G := fun _ => False) (lo := lo) (v := v) (v' := .slice (some ⟨bv, 0, none⟩) (ts.length + 1) c) (b3 := bL) (a := a) (fun _ h => h.elim) (by omega) (by omega) m6 ha (.refl _ _) m8 m9' (fun k hk => h.blk hk) hnb
  have fin : ∀ k, GX (fun _ => False) lo w9 (.slice (some ⟨bv, 0, none⟩) (ts.length + 1) c) k → k < w9.heap.size ∧ (∀ o, ¬ rng bv (ts.length * 5) 5 k o) ∧ GX (fun _ => False) lo w10 (.slice (some ⟨bv, 0, none⟩) (ts.length + 1) c) k := fun k hk => by
    rcases hk with hk | hk
    · exact hk.elim
    · exact ⟨hk.2.1, fun o e => hbv k e.1 hk.2.2, .inr ⟨hk.1, by have := hk.2.1; omega, hk.2.2⟩⟩
  refine h.move ?_ ?_ ⟨csl ++ [cs], ?_, (RepTs.mod m10 fin ts (RepTs.mod r1 r2 ts hts)).append ⟨cs, [], rfl, RepT.mod m10 fin t (RepT.mod r3 (fun k hk => r4 k (.inr hk)) t hrep), rfl⟩⟩
  · exact (((m6.mono fun _ _ _ h => h.elim).trans' (m8.mono fun k o _ hk => .inl (h.blk hk).1)).trans' (m9.mono fun _ _ _ h => .inr h)).trans' (m10.mono fun k o _ e => .inl (by have := e.1; omega))
  · rw [m10.cell _ _ (by omega) (fun e => by have := e.1; omega)]; exact c9
  · refine .inr ⟨bv, c, by simp, g1, by omega, by simpa using g3, m10.there g2 g4, ?_, by simp [hfl, hcl]; omega⟩
    rw [List.flatten_append, rangeAt_append, hfl, Nat.zero_add]
    exact ⟨m10.rangeAt g2 (fun j h1 h2 e => by have := e.2.1; omega) q.1, by simpa using q2⟩
end
end Go.Kf

/- The plan of a region looks at numbers of slots alone: slots may be renamed. -/
namespace Go.Kf
open Go Go.RowKit

structure Rw where
  dst : Option Nat
  tmps : List Nat
  after : List Nat
  sel : Bool
  deriving Inhabited

def rowOf (o : ROp) : Rw := ⟨o.dst, opTemps o, o.after, isSel o.op⟩
def Rw.ren (f : Nat → Nat) (r : Rw) : Rw := ⟨r.dst.map f, r.tmps.map f, r.after, r.sel⟩

def pairT (l : List Rw) (rd : Nat → Bool) (i j : Nat) : Bool :=
  match (l.getD i ⟨none, [], [], false⟩).dst with
  | none => true
  | some d =>
    if i == j then !(l.getD j ⟨none, [], [], false⟩).tmps.contains d
    else (match (l.getD j ⟨none, [], [], false⟩).dst with | some d' => !(Nat.beq d' d) | none => true) &&
      (!(l.getD j ⟨none, [], [], false⟩).tmps.contains d || ((l.getD j ⟨none, [], [], false⟩).after.contains i && (!rd j || rd i)))

def planT (l : List Rw) (rd : Nat → Bool) : Bool :=
  (l.zipIdx.all fun (r, i) => r.after.all fun e => Nat.blt e i) && l.all (fun r => !r.sel) && (List.range l.length).all fun i => (List.range l.length).all fun j => pairT l rd i j

theorem getD_row (l : List ROp) {i : Nat} (hi : i < l.length) : rowOf (l.getD i default) = (l.map rowOf).getD i ⟨none, [], [], false⟩ := by
  simp [List.getD, hi]

theorem plan2_of_T {l : List ROp} {rd : Nat → Bool} (h : planT (l.map rowOf) rd = true) : plan2 l rd = true := by
  unfold planT at h
  unfold plan2
  rw [Bool.and_eq_true, Bool.and_eq_true] at h ⊢
  obtain ⟨⟨h1, h2⟩, h3⟩ := h
  refine ⟨⟨?_, ?_⟩, ?_⟩
  · unfold backB
    rw [List.zipIdx_map, List.all_map] at h1
    exact h1
  · rw [List.all_map] at h2; exact h2
  · rw [List.all_eq_true] at h3 ⊢
    intro i hi
    have h4 := h3 i (by simpa using hi)
    rw [List.all_eq_true] at h4 ⊢
    intro j hj
    have h5 := h4 j (by simpa using hj)
    unfold pairT at h5
    rw [← getD_row l (by simpa using hi), ← getD_row l (by simpa using hj)] at h5
    exact h5

theorem contains_map {f : Nat → Nat} (hf : ∀ a b, f a = f b → a = b) (d : Nat) : ∀ (l : List Nat), (l.map f).contains (f d) = l.contains d
  | [] => rfl
  | x :: l => by
    rw [List.map_cons, List.contains_cons, List.contains_cons, contains_map hf d l]
    congr 1
    rw [Bool.eq_iff_iff, beq_iff_eq, beq_iff_eq]
    exact ⟨hf _ _, fun e => by rw [e]⟩

theorem planT_ren {f : Nat → Nat} (hf : ∀ a b, f a = f b → a = b) (t : List Rw) (rd : Nat → Bool) : planT (t.map (Rw.ren f)) rd = planT t rd := by
  have hg : ∀ i, (t.map (Rw.ren f)).getD i ⟨none, [], [], false⟩ = (t.getD i ⟨none, [], [], false⟩).ren f := fun i => by
    simp only [List.getD, List.getElem?_map]
    cases t[i]? <;> rfl
  have e3 : ∀ i j, pairT (t.map (Rw.ren f)) rd i j = pairT t rd i j := fun i j => by
    unfold pairT
    rw [hg, hg]
    cases hd : (t.getD i ⟨none, [], [], false⟩).dst with
    | none => simp only [Rw.ren, hd, Option.map_none]
    | some d =>
      simp only [Rw.ren, hd, Option.map_some, contains_map hf]
      cases hd' : (t.getD j ⟨none, [], [], false⟩).dst with
      | none => rfl
      | some d' =>
        simp only [Option.map_some]
        have : Nat.beq (f d') (f d) = Nat.beq d' d := by
          rw [Bool.eq_iff_iff]
          simp only [Nat.beq_eq]
          exact ⟨hf _ _, fun e => by rw [e]⟩
        rw [this]
  unfold planT
  rw [List.zipIdx_map, List.all_map, List.all_map, List.length_map]
  simp only [e3]
  rfl

/-- Variables from the sixth on are shifted. -/
def sh (q t : Nat) : Nat := if t < 106 then t else q + t
theorem sh_inj (q : Nat) : ∀ a b, sh q a = sh q b → a = b := fun a b h => by
  unfold sh at h
  split at h <;> split at h <;> omega

theorem plan2_sh {l0 l : List ROp} {rd : Nat → Bool} (q : Nat) (h0 : planT (l0.map rowOf) rd = true) (he : l.map rowOf = (l0.map rowOf).map (Rw.ren (sh q))) : plan2 l rd = true :=
  plan2_of_T (by rw [he, planT_ren (sh_inj q)]; exact h0)
end Go.Kf

/- A message is told: a row of a list is put behind. -/
namespace Go.Kf
open Go Go.RowKit

section
variable {P : Program} {N : Nums}

theorem anyC_step {Cw : World → Prop} {l : List ROp} {rd : Nat → Bool} {K : Env → World → Prop} {f : Nat} {C : List Nat} {ρ : Env} {w : World} (R : List Nat) (hR : C.filter (fun i => (l.getD i default).after.all fun e => !C.contains e) = R)
    (h : ∀ i ∈ R, stepR P (l.getD i default) ρ w fun ρ w => (lastB l rd i = true ∨ Cw w) ∧ anyC P Cw l rd K f (C.erase i) ρ w) : anyC P Cw l rd K (f + 1) C ρ w := by
  intro i hi
  refine h i ?_
  rw [← hR, List.mem_filter]
  refine ⟨hi.1, ?_⟩
  rw [List.all_eq_true]
  intro e he
  have := hi.2 e he
  simpa using this

theorem put_own {ρ : Env} {k t : Nat} {v : Value} (h : k < 100) (ht : 100 ≤ t) : put ρ (some k) v t = ρ t := by
  show (if t = k then v else ρ t) = ρ t
  rw [if_neg (by omega)]

def lApp (N : Nums) (Tt idx ft f pT i p : Nat) : List ROp := [
  ⟨some 0, .fieldAddr N.t_Tree (V 2) 3, 0, none, []⟩, ⟨some 1, .load N.t_LTree (T 0), 0, none, [0]⟩, ⟨some 2, .fieldAddr N.t_Tree (V 2) 3, 0, none, []⟩, ⟨some 3, .load N.t_LTree (T 2), 0, none, [2]⟩,
  ⟨some 4, .indexAddr N.t_LTree (T 3) (.const (.int .i64 i)), 0, none, [3]⟩, ⟨some 5, .fieldAddr N.t_Tree (T 4) 3, 0, none, [4]⟩, ⟨some 6, .load N.t_LTree (T 5), 0, none, [5]⟩,
  ⟨some 7, .move (V 0), 0, none, []⟩, ⟨some 8, .nilCheck (T 7), 0, none, [7]⟩, ⟨some 9, .fieldAddr Tt (T 8) idx, 0, none, [8]⟩, ⟨some 10, .load ft (T 9), 0, none, [9]⟩, ⟨some 11, .move (V p), 0, none, []⟩, ⟨some 12, .indexAddr ft (T 10) (T 11), 0, none, [10, 11]⟩,
  ⟨some 13, .call ⟨.value (.func f), #[T 12], #[pT]⟩, N.t_Tree, none, [12]⟩, ⟨some 14, .buildSlice N.t_LTree 1 #[(0, T 13)], 0, none, [13]⟩, ⟨some 15, .call ⟨.builtin .append, #[T 6, T 14], #[N.t_LTree, N.t_LTree]⟩, N.t_LTree, none, [6, 14, 13]⟩,
  ⟨some 16, .indexAddr N.t_LTree (T 1) (.const (.int .i64 i)), 0, none, [1, 0, 1, 2, 3, 4, 5, 6, 7, 8, 9, 10, 11, 12, 13, 14, 15]⟩, ⟨some 17, .fieldAddr N.t_Tree (T 16) 3, 0, none, [16, 0, 1, 2, 3, 4, 5, 6, 7, 8, 9, 10, 11, 12, 13, 14, 15]⟩,
  ⟨none, .store N.t_LTree (T 17) (T 15), 0, none, [17, 15, 15, 0, 1, 2, 3, 4, 5, 6, 7, 8, 9, 10, 11, 12, 13, 14, 15]⟩]

/-- Where a list's things lie: in the world from which on things are told. -/
structure LSrc (P : Program) (w0 : World) (b oo off Tt idx ft be L c sz et : Nat) : Prop where
  hT : HF P Tt idx off
  cell : w0.cell? ⟨b, oo + off, none⟩ = some (.slice (some ⟨be, 0, none⟩) L c)
  lt : TI P ft (.slice et) 1 24 (.slice none 0 0)
  et : ∃ d by' z, TI P et d sz by' z

theorem W_appRow (B : Base P N) (hI : ImplT P N) {loc : List Nat} {N' : Nat} {Q : Exit → Env → World → Prop} {w0 w : World} {b oo off Tt idx ft be L c sz et bT bL bR n i lo f pT q j : Nat} {nl : Bool} {v : Value} {trs ts : List Tr} {t : Tr} {σ : Env}
    (h : TL w0 (.pointer (some ⟨b, oo, none⟩)) bT bL bR n i trs lo nl v ts σ w) (hs : LSrc P w0 b oo off Tt idx ft be L c sz et) (hlen : ts.length + 1 < 1099511627776) (hp : σ (q + 6) = .int .i64 j) (hj : j < L)
    (hf : hasBody P f) (hcall : ∀ w1, Mod w0 w1 none' → Call P f #[.pointer (some ⟨be, j * sz, none⟩)] w1 (Told w1 t))
    (hQ : ∀ v' w', TL w0 (.pointer (some ⟨b, oo, none⟩)) bT bL bR n i trs lo nl v' (ts ++ [t]) σ w' → Q .normal σ w') : W P loc N' (.draw (lApp N Tt idx ft f pT i (q + 6))) Q σ w := by
  obtain ⟨fs, hI1⟩ := hI.ti
  obtain ⟨hT, hc0, hlt, _, _, _, het⟩ := hs
  have f0 := h.f0
  have f1 := h.f1
  have f2 := h.f2
  have lt := h.lt
  have hi := h.le
  have hms := h.mod.size
  have keep : ∀ {w' : World} {k o : Nat} {u : Value}, Mod w w' (fun k _ => ¬ notBlk v k) → k < lo → w.cell? ⟨k, o, none⟩ = some u → w'.cell? ⟨k, o, none⟩ = some u := fun m hk hc => by
    rw [m.cell _ _ (cell_lt (by rw [hc]; rfl)) (fun hn => by have := (h.blk hn).1; omega)]; exact hc
  have hb0 : b < w0.heap.size := cell_lt (by rw [hc0]; rfl)
  have cF : w.cell? ⟨b, oo + off, none⟩ = some (.slice (some ⟨be, 0, none⟩) L c) := by rw [h.mod.cell _ _ hb0 (fun h => h)]; exact hc0
  have cT := h.cellT
  have cL := h.cellL
  have md : Mod w w.drew none' := Mod.drew _ _
  have md' : Mod w w.drew (fun k _ => ¬ notBlk v k) := Mod.drew _ _
  refine W_drawC B.mixed [true, true, true, true, true, true, true, true, true, true, true, true, true, false, false, false, false, false, false] rfl (plan2_sh (l0 := lApp N Tt idx ft f pT i 6) q (by kernel_rfl) rfl) (fun w' => Mod w w' (fun k _ => ¬ notBlk v k)) md' fun τ => ?_
  have e2 : envOf σ τ 102 = .pointer (some ⟨bT, 0, none⟩) := by rw [← f2]; exact envOf_var σ τ 2
  have e0 : envOf σ τ 100 = .pointer (some ⟨b, oo, none⟩) := by rw [← f0]; exact envOf_var σ τ 0
  have ep : envOf σ τ (q + 6 + 100) = .int .i64 j := by rw [← hp]; exact envOf_var σ τ (q + 6)
  refine readsZ_cons (.pointer (some ⟨bT, 3, none⟩)) (fun w' _ => exec_val (by simp (decide := true) only [ev_tmp, e2, hI.h3.run])) rfl ?_
  refine readsZ_cons (.slice (some ⟨bL, 0, none⟩) n n) (fun w' hw => exec_val (by simp (decide := true) only [put_at, sel_true, BEq.rfl, ev_tmp, hI.lt.run_load1 rfl, keep hw (show bT < lo by omega) cT, ldc_some])) rfl ?_
  refine readsZ_cons (.pointer (some ⟨bT, 3, none⟩)) (fun w' _ => exec_val (by simp (decide := true) only [put_at, envOf_var, sel_false, Nat.reduceBeqDiff, Nat.reduceAdd, Nat.zero_add, ev_tmp, f2, hI.h3.run])) rfl ?_
  refine readsZ_cons (.slice (some ⟨bL, 0, none⟩) n n) (fun w' hw => exec_val (by simp (decide := true) only [put_at, sel_true, BEq.rfl, ev_tmp, hI.lt.run_load1 rfl, keep hw (show bT < lo by omega) cT, ldc_some])) rfl ?_
  refine readsZ_cons (.pointer (some ⟨bL, i * 5, none⟩)) (fun w' _ => exec_val (by simp (decide := true) only [put_at, sel_true, BEq.rfl, Nat.zero_add, ev_tmp, ev_const, run_indexAt hI.lt hI1 hi])) rfl ?_
  refine readsZ_cons (.pointer (some ⟨bL, i * 5 + 3, none⟩)) (fun w' _ => exec_val (by simp (decide := true) only [put_at, sel_true, BEq.rfl, ev_tmp, hI.h3.run])) rfl ?_
  refine readsZ_cons v (fun w' hw => exec_val (by simp (decide := true) only [put_at, sel_true, BEq.rfl, ev_tmp, hI.lt.run_load1 rfl, keep hw (show bL < lo by omega) cL, ldc_some])) rfl ?_
  refine readsZ_cons (.pointer (some ⟨b, oo, none⟩)) (fun w' _ => by rw [exec_move, ev_tmp]; simp (decide := true) only [put_at, envOf_var, sel_false, Nat.reduceBeqDiff, Nat.zero_add, f0]) rfl ?_
  refine readsZ_cons (.pointer (some ⟨b, oo, none⟩)) (fun w' hw => rfl) rfl ?_
  refine readsZ_cons (.pointer (some ⟨b, oo + off, none⟩)) (fun w' _ => exec_val (by simp (decide := true) only [put_at, sel_true, BEq.rfl, ev_tmp, hT.run])) rfl ?_
  refine readsZ_cons (.slice (some ⟨be, 0, none⟩) L c) (fun w' hw => exec_val (by simp (decide := true) only [put_at, sel_true, BEq.rfl, ev_tmp, hlt.run_load1 rfl, keep hw (show b < lo by omega) cF, ldc_some])) rfl ?_
  refine readsZ_cons (.int .i64 j) (fun w' _ => by rw [exec_move, ev_tmp]; simp (decide := true) (disch := omega) only [put_own, ep]) rfl ?_
  refine readsZ_cons (.pointer (some ⟨be, j * sz, none⟩)) (fun w' _ => exec_val (by simp (decide := true) only [put_at, sel_true, sel_false, Nat.reduceBeqDiff, BEq.rfl, Nat.zero_add, ev_tmp, run_indexAt hlt het hj])) rfl ?_
  simp only []
  show anyC P _ _ _ _ [13, 14, 15, 16, 17, 18].length [13, 14, 15, 16, 17, 18] _ _
  refine anyC_of_chain _ _ _ (by kernel_rfl) (by decide) (fun k hk => by simp at hk; subst hk; kernel_rfl) ?_
  simp only [lApp, List.map, List.getD_cons_zero, List.getD_cons_succ, chainZ]
  rw [step_call1 hf]
  simp (decide := true) only [step_buildSlice, step_store, step_fieldAddr, step_indexAddr, step_append, ev_tmp, ev_const, put_at, sel_true, sel_false, Nat.reduceBeqDiff, BEq.rfl]
  refine Call.mono (Rt' := _) (hcall w.drew (h.mod.trans' md)) ?_
  rintro _ w6 ⟨cs, rfl, hrep, m6d⟩
  have m6 : Mod w w6 none' := md.trans' m6d
  obtain ⟨w7, v', w8, w9, hbs, happ, hst, m7, m8, hTL⟩ := tl_append hI h hlen m6 (Nat.le_refl _) hrep
  refine ⟨m6.mono fun _ _ _ h => h.elim, ?_⟩
  have e9 : ∀ ρ : Env, (#[(0, T 13)] : Array (Nat × Operand)).map (fun p => (p.1, ev ρ p.2)) = #[(0, ρ 13)] := fun ρ => by simp
  simp (decide := true) only [stepV_ok, put_at, sel_true, BEq.rfl, e9, hbs]
  refine ⟨m7, ?_⟩
  simp (decide := true) only [stepV_ok, happ]
  refine ⟨m8, ?_⟩
  simp (decide := true) only [stepV_ok, Nat.zero_add, run_indexAt hI.lt hI1 hi]
  refine ⟨m8, ?_⟩
  simp (decide := true) only [stepV_ok, hI.h3.run]
  refine ⟨m8, ?_⟩
  simp (decide := true) only [stepU_ok, hst]
  refine gen_locs (K := fun σ' w' => Q .normal σ' w') fun σ9 hσ => ?_
  have e : σ9 = σ := by
    funext k
    rw [hσ k]
    simp (decide := true) (disch := omega) only [put_own, envOf_var]
  rw [e]
  exact hQ _ _ hTL
end
end Go.Kf

/- A message is told: a row of a list is put behind, its place made first. -/
namespace Go.Kf
open Go Go.RowKit

section
variable {P : Program} {N : Nums}

def zTop : Operand := .const (.agg #[(.int .i64 0), (.slice none 0 0), (.bool false), (.slice none 0 0), (.slice none 0 0)])

def lApp0 (N : Nums) (Tt idx ft f pT i p : Nat) : List ROp := [
  ⟨some 0, .fieldAddr N.t_Tree (V 2) 3, 0, none, []⟩, ⟨some 1, .load N.t_LTree (T 0), 0, none, [0]⟩, ⟨some 2, .indexAddr N.t_LTree (T 1) (.const (.int .i64 i)), 0, none, [1]⟩, ⟨some 3, .fieldAddr N.t_Tree (T 2) 3, 0, none, [2]⟩, ⟨some 4, .load N.t_LTree (T 3), 0, none, [3]⟩,
  ⟨some 5, .move (V 0), 0, none, []⟩, ⟨some 6, .nilCheck (T 5), 0, none, [5]⟩, ⟨some 7, .fieldAddr Tt (T 6) idx, 0, none, [6]⟩, ⟨some 8, .load ft (T 7), 0, none, [7]⟩, ⟨some 9, .move (V p), 0, none, []⟩, ⟨some 10, .indexAddr ft (T 8) (T 9), 0, none, [8, 9]⟩,
  ⟨some (p + 2 + 100), .call ⟨.value (.func f), #[T 10], #[pT]⟩, N.t_Tree, none, [10]⟩, ⟨some (p + 3 + 100), .call ⟨.builtin .len, #[T 4], #[N.t_LTree]⟩, N.t_int, none, [4]⟩, ⟨some 13, .buildSlice N.t_LTree 1 #[(0, zTop)], 0, none, []⟩,
  ⟨some (p + 4 + 100), .call ⟨.builtin .append, #[T 4, T 13], #[N.t_LTree, N.t_LTree]⟩, N.t_LTree, none, [4, 13, 11, 0, 1, 2, 3, 4, 5, 6, 7, 8, 9, 10, 11, 12, 13]⟩,
  ⟨some 15, .indexAddr N.t_LTree (T 1) (.const (.int .i64 i)), 0, none, [1, 0, 1, 2, 3, 4, 5, 6, 7, 8, 9, 10, 11, 12, 13, 14]⟩, ⟨some 16, .fieldAddr N.t_Tree (T 15) 3, 0, none, [15, 0, 1, 2, 3, 4, 5, 6, 7, 8, 9, 10, 11, 12, 13, 14]⟩,
  ⟨none, .store N.t_LTree (T 16) (V (p + 4)), 0, none, [16, 14, 14, 0, 1, 2, 3, 4, 5, 6, 7, 8, 9, 10, 11, 12, 13, 14]⟩]

def cPut (N : Nums) (p : Nat) : C := .ops [⟨some 0, .indexAddr N.t_LTree (V (p + 4)) (V (p + 3)), 0, none, []⟩, ⟨none, .store N.t_Tree (T 0) (V (p + 2)), 0, none, []⟩]

theorem put_var {ρ : Env} {k t : Nat} {v : Value} (h : t ≠ k) : put ρ (some k) v t = ρ t := by
  show (if t = k then v else ρ t) = ρ t
  rw [if_neg h]
theorem put_it {ρ : Env} {k : Nat} {v : Value} : put ρ (some k) v k = v := by
  show (if k = k then v else ρ k) = v
  rw [if_pos rfl]

theorem TL.lenV (hI : ImplT P N) {w0 w : World} {src v : Value} {bT bL bR n i lo : Nat} {nl : Bool} {trs ts : List Tr} {σ : Env} (h : TL w0 src bT bL bR n i trs lo nl v ts σ w) {ty : TypeId} {w' : World} : (Builtin.len_ #[N.t_LTree] ty #[v]).run P w' = .ok (.int .i64 ts.length) w' := by
  obtain ⟨css, csl, _, _, ho, _⟩ := h.ex
  refine len_of hI.lt ?_
  rcases ho with ⟨e, e2, _⟩ | ⟨b, c, e, _⟩
  · exact .inl ⟨e, e2⟩
  · exact .inr ⟨b, c, e⟩

/-- The thing is told into its place. -/
theorem W_put (hI : ImplT P N) {loc : List Nat} {N' : Nat} {Q : Exit → Env → World → Prop} {w9 w10 : World} {bv L c p : Nat} {cs : List Value} {σ : Env} (h2 : σ (p + 2) = .agg cs.toArray) (h3 : σ (p + 3) = .int .i64 L) (h4 : σ (p + 4) = .slice (some ⟨bv, 0, none⟩) (L + 1) c)
    (hst : (Instr.storeAt N.t_Tree (.pointer (some ⟨bv, L * 5, none⟩)) (.agg cs.toArray)).run P w9 = .ok () w10) (hQ : Q .normal σ w10) : W P loc N' (cPut N p) Q σ w9 := by
  obtain ⟨fs, hI1⟩ := hI.ti
  unfold cPut
  refine W_ops fun τ => ?_
  have e2 : ∀ v, put (envOf σ τ) (some 0) v (p + 2 + 100) = .agg cs.toArray := fun v => by rw [put_own (by omega) (by omega), envOf_var, h2]
  simp (decide := true) only [runR, step_indexAddr, step_store, ev_tmp, envOf_var, h3, h4, run_indexAt hI.lt hI1 (show L < L + 1 by omega), Nat.zero_add, stepV_ok, put_it, e2, hst, stepU_ok]
  have e : locs (put (envOf σ τ) (some 0) (.pointer (some ⟨bv, L * 5, none⟩))) = σ := by rw [locs_put_own (by decide), locs_envOf]
  rw [e]; exact hQ

theorem W_app0Row (B : Base P N) (hI : ImplT P N) {loc : List Nat} {N' : Nat} {Q : Exit → Env → World → Prop} {w0 w : World} {b oo off Tt idx ft be L c sz et bT bL bR n i lo f pT q j : Nat} {nl : Bool} {v : Value} {trs ts : List Tr} {t : Tr} {σ : Env}
    (h : TL w0 (.pointer (some ⟨b, oo, none⟩)) bT bL bR n i trs lo nl v ts σ w) (hs : LSrc P w0 b oo off Tt idx ft be L c sz et) (hlen : ts.length + 1 < 1099511627776) (hp : σ (q + 6) = .int .i64 j) (hj : j < L)
    (hf : hasBody P f) (hcall : ∀ w1, Mod w0 w1 none' → Call P f #[.pointer (some ⟨be, j * sz, none⟩)] w1 (Told w1 t))
    (hQ : ∀ σ' v' w', (∀ k, k < q + 8 → σ' k = σ k) → TL w0 (.pointer (some ⟨b, oo, none⟩)) bT bL bR n i trs lo nl v' (ts ++ [t]) σ' w' → Q .normal σ' w') : W P loc N' (.seq (.draw (lApp0 N Tt idx ft f pT i (q + 6))) (cPut N (q + 6))) Q σ w := by
  obtain ⟨fs, hI1⟩ := hI.ti
  obtain ⟨hT, hc0, hlt, _, _, _, het⟩ := hs
  have f0 := h.f0
  have f1 := h.f1
  have f2 := h.f2
  have lt := h.lt
  have hi := h.le
  have hms := h.mod.size
  have keep : ∀ {w' : World} {k o : Nat} {u : Value}, Mod w w' (fun k _ => ¬ notBlk v k) → k < lo → w.cell? ⟨k, o, none⟩ = some u → w'.cell? ⟨k, o, none⟩ = some u := fun m hk hc => by
    rw [m.cell _ _ (cell_lt (by rw [hc]; rfl)) (fun hn => by have := (h.blk hn).1; omega)]; exact hc
  have hb0 : b < w0.heap.size := cell_lt (by rw [hc0]; rfl)
  have cF : w.cell? ⟨b, oo + off, none⟩ = some (.slice (some ⟨be, 0, none⟩) L c) := by rw [h.mod.cell _ _ hb0 (fun h => h)]; exact hc0
  have cT := h.cellT
  have cL := h.cellL
  have md : Mod w w.drew none' := Mod.drew _ _
  have md' : Mod w w.drew (fun k _ => ¬ notBlk v k) := Mod.drew _ _
  refine W_seq' fun K hK => W_drawC B.mixed [true, true, true, true, true, true, true, true, true, true, true, false, true, false, false, false, false, false] rfl (plan2_sh (l0 := lApp0 N Tt idx ft f pT i 6) q (by kernel_rfl) rfl) (fun w' => Mod w w' (fun k _ => ¬ notBlk v k)) md' fun τ => ?_
  have e2 : envOf σ τ 102 = .pointer (some ⟨bT, 0, none⟩) := by rw [← f2]; exact envOf_var σ τ 2
  have ep : envOf σ τ (q + 6 + 100) = .int .i64 j := by rw [← hp]; exact envOf_var σ τ (q + 6)
  refine readsZ_cons (.pointer (some ⟨bT, 3, none⟩)) (fun w' _ => exec_val (by simp (decide := true) only [ev_tmp, e2, hI.h3.run])) rfl ?_
  refine readsZ_cons (.slice (some ⟨bL, 0, none⟩) n n) (fun w' hw => exec_val (by simp (decide := true) only [put_at, sel_true, BEq.rfl, ev_tmp, hI.lt.run_load1 rfl, keep hw (show bT < lo by omega) cT, ldc_some])) rfl ?_
  refine readsZ_cons (.pointer (some ⟨bL, i * 5, none⟩)) (fun w' _ => exec_val (by simp (decide := true) only [put_at, sel_true, BEq.rfl, Nat.zero_add, ev_tmp, ev_const, run_indexAt hI.lt hI1 hi])) rfl ?_
  refine readsZ_cons (.pointer (some ⟨bL, i * 5 + 3, none⟩)) (fun w' _ => exec_val (by simp (decide := true) only [put_at, sel_true, BEq.rfl, ev_tmp, hI.h3.run])) rfl ?_
  refine readsZ_cons v (fun w' hw => exec_val (by simp (decide := true) only [put_at, sel_true, BEq.rfl, ev_tmp, hI.lt.run_load1 rfl, keep hw (show bL < lo by omega) cL, ldc_some])) rfl ?_
  refine readsZ_cons (.pointer (some ⟨b, oo, none⟩)) (fun w' _ => by rw [exec_move, ev_tmp]; simp (decide := true) only [put_at, envOf_var, sel_false, Nat.reduceBeqDiff, Nat.zero_add, f0]) rfl ?_
  refine readsZ_cons (.pointer (some ⟨b, oo, none⟩)) (fun w' hw => rfl) rfl ?_
  refine readsZ_cons (.pointer (some ⟨b, oo + off, none⟩)) (fun w' _ => exec_val (by simp (decide := true) only [put_at, sel_true, BEq.rfl, ev_tmp, hT.run])) rfl ?_
  refine readsZ_cons (.slice (some ⟨be, 0, none⟩) L c) (fun w' hw => exec_val (by simp (decide := true) only [put_at, sel_true, BEq.rfl, ev_tmp, hlt.run_load1 rfl, keep hw (show b < lo by omega) cF, ldc_some])) rfl ?_
  refine readsZ_cons (.int .i64 j) (fun w' _ => by rw [exec_move, ev_tmp]; simp (decide := true) (disch := omega) only [put_own, ep]) rfl ?_
  refine readsZ_cons (.pointer (some ⟨be, j * sz, none⟩)) (fun w' _ => exec_val (by simp (decide := true) only [put_at, sel_true, sel_false, Nat.reduceBeqDiff, BEq.rfl, Nat.zero_add, ev_tmp, run_indexAt hlt het hj])) rfl ?_
  simp only []
  refine ⟨.int .i64 ts.length, fun w' _ => .inl ⟨rfl, ?_⟩, ?_⟩
  · have hl := h.lenV (P := P) (N := N) hI (ty := N.t_int) (w' := w')
    simp (decide := true) only [exec, execOp, resolve, invoke, builtin, List.map_toArray, List.map, put_at, sel_true, sel_false, Nat.reduceBeqDiff, BEq.rfl, ev_tmp]
    simp [hl]
  show anyC P _ _ _ _ ([11, 13, 14, 15, 16, 17].length - 1 + 1) [11, 13, 14, 15, 16, 17] _ _
  -- the end, after both
  have fin : ∀ {ρ : Env} {w6 : World} {bz : Nat} {cs : List Value}, RepT w6 (NB w.heap.size w6.heap.size) t cs → Mod w w6 none' → w6.rangeAt bz 0 zT → ρ 1 = .slice (some ⟨bL, 0, none⟩) n n → ρ 4 = v → ρ 13 = .slice (some ⟨bz, 0, none⟩) 1 1 →
      ρ (q + 6 + 2 + 100) = .agg cs.toArray → ρ (q + 6 + 3 + 100) = .int .i64 ts.length → (∀ k, k < q + 8 → ρ (k + 100) = σ k) →
      chainZ P (fun w' => Mod w w' (fun k _ => ¬ notBlk v k)) (fun ρ w => thenQ K Q .normal (locs ρ) w) [⟨some (q + 6 + 4 + 100), .call ⟨.builtin .append, #[T 4, T 13], #[N.t_LTree, N.t_LTree]⟩, N.t_LTree, none, [4, 13, 11, 0, 1, 2, 3, 4, 5, 6, 7, 8, 9, 10, 11, 12, 13]⟩,
        ⟨some 15, .indexAddr N.t_LTree (T 1) (.const (.int .i64 i)), 0, none, [1, 0, 1, 2, 3, 4, 5, 6, 7, 8, 9, 10, 11, 12, 13, 14]⟩, ⟨some 16, .fieldAddr N.t_Tree (T 15) 3, 0, none, [15, 0, 1, 2, 3, 4, 5, 6, 7, 8, 9, 10, 11, 12, 13, 14]⟩,
        ⟨none, .store N.t_LTree (T 16) (V (q + 6 + 4)), 0, none, [16, 14, 14, 0, 1, 2, 3, 4, 5, 6, 7, 8, 9, 10, 11, 12, 13, 14]⟩] ρ w6 := by
    intro ρ w6 bz cs hrep m6 hz h1 h4 h13 hv8 hv9 hσ
    obtain ⟨bv, c', w8, w9, w10, happ, hst, m8, hst10, hTL⟩ := tl_append0 hI h hlen m6 (Nat.le_refl _) hrep hz
    simp only [chainZ]
    simp (decide := true) only [step_append, ev_tmp, h4, h13, happ, stepV_ok]
    refine ⟨m8, ?_⟩
    simp (decide := true) (disch := omega) only [step_indexAddr, ev_tmp, ev_const, put_var, h1, run_indexAt hI.lt hI1 hi, stepV_ok, Nat.zero_add]
    refine ⟨m8, ?_⟩
    simp (decide := true) (disch := omega) only [step_fieldAddr, ev_tmp, put_it, hI.h3.run, stepV_ok]
    refine ⟨m8, ?_⟩
    simp (decide := true) (disch := omega) only [step_store, ev_tmp, put_var, put_it, hst, stepU_ok]
    refine gen_locs (K := fun σ' w' => thenQ K Q .normal σ' w') fun σ9 hσ9 => hK _ _ ?_
    have g : ∀ k, k < q + 8 → σ9 k = σ k := fun k hk => by
      rw [hσ9 k]
      simp (decide := true) (disch := omega) only [put_var]
      exact hσ k hk
    refine W_put hI (L := ts.length) (bv := bv) (c := c') (cs := cs) (w10 := w10) ?_ ?_ ?_ hst10 (hQ _ _ _ g (hTL.env (g 0 (by omega)) (g 1 (by omega)) (g 2 (by omega))))
    · rw [hσ9]; simp (decide := true) (disch := omega) only [put_var]; exact hv8
    · rw [hσ9]; simp (decide := true) (disch := omega) only [put_var]; exact hv9
    · rw [hσ9]; simp (decide := true) (disch := omega) only [put_var, put_it]
  have ezz : ∀ ρ : Env, (#[(0, zTop)] : Array (Nat × Operand)).map (fun p => (p.1, ev ρ p.2)) = #[(0, .agg zT.toArray)] := fun ρ => by simp [zTop, zT]
  have hz1 : ∀ c ∈ zT, c.oneCell' = true := fun c hc => by simp [zT] at hc; rcases hc with rfl | rfl | rfl | rfl <;> rfl
  refine anyC_step [11, 13] (by kernel_rfl) fun k hk => ?_
  simp only [List.mem_cons, List.not_mem_nil, or_false] at hk
  rcases hk with rfl | rfl
  · -- the thing, then its place
    show stepR P ⟨some (q + 6 + 2 + 100), .call ⟨.value (.func f), #[T 10], #[pT]⟩, N.t_Tree, none, [10]⟩ _ _ _
    rw [step_call1 hf]
    have e10 : ∀ (ρ : Env) (u u' : Value), ev (put (put ρ (some 10) u) (some (q + 6 + 3 + 100)) u') (T 10) = u := fun ρ u u' => by rw [ev_tmp, put_var (by omega), put_it]
    rw [e10]
    refine Call.mono (Rt' := _) (hcall w.drew (h.mod.trans' md)) ?_
    rintro _ w6 ⟨cs, rfl, hrep, m6d⟩
    have m6 : Mod w w6 none' := md.trans' m6d
    refine ⟨.inr (m6.mono fun _ _ _ h => h.elim), ?_⟩
    show anyC P _ _ _ _ [13, 14, 15, 16, 17].length [13, 14, 15, 16, 17] _ _
    refine anyC_of_chain _ _ _ (by kernel_rfl) (by decide) (fun k hk => by simp at hk; subst hk; kernel_rfl) ?_
    show stepR P ⟨some 13, .buildSlice N.t_LTree 1 #[(0, zTop)], 0, none, []⟩ _ _ _
    have hbs := run_bs1 (w := w6) (v := .agg zT.toArray) (cs := zT) hI.lt hI1 rfl rfl (by decide) (by decide)
    simp (decide := true) only [step_buildSlice, ezz, hbs, stepV_ok]
    have m7 : Mod w6 (w6.alloc (.cells zT.toArray N.t_Tree)) none' := Mod.alloc _ _ _
    have s7 : (w6.alloc (.cells zT.toArray N.t_Tree)).heap.size = w6.heap.size + 1 := alloc_size _ _
    refine ⟨(m6.trans' m7).mono fun _ _ _ h => h.elim, fin (cs := cs) (RepT.mod m7 (fun k hk => ⟨hk.2, fun _ h => h, ⟨hk.1, by have := hk.2; omega⟩⟩) t hrep) (m6.trans' m7) (rangeAt_alloc w6 zT.toArray N.t_Tree (0, 0)) ?_ ?_ ?_ ?_ ?_ ?_⟩
    · simp (decide := true) (disch := omega) only [put_var, put_it]
    · simp (decide := true) (disch := omega) only [put_var, put_it]
    · exact put_it
    · simp (decide := true) (disch := omega) only [put_var, put_it]
    · simp (decide := true) (disch := omega) only [put_var, put_it]
    · intro k hk
      simp (decide := true) (disch := omega) only [put_var, envOf_var]
  · -- the place, then the thing
    show stepR P ⟨some 13, .buildSlice N.t_LTree 1 #[(0, zTop)], 0, none, []⟩ _ _ _
    have hbs := run_bs1 (w := w.drew) (v := .agg zT.toArray) (cs := zT) hI.lt hI1 rfl rfl (by decide) (by decide)
    simp (decide := true) only [step_buildSlice, ezz, hbs, stepV_ok]
    obtain ⟨w1, hw1⟩ : ∃ w1, w1 = w.drew.alloc (.cells zT.toArray N.t_Tree) := ⟨_, rfl⟩
    have m1 : Mod w.drew w1 none' := by rw [hw1]; exact Mod.alloc _ _ _
    have s1 : w1.heap.size = w.heap.size + 1 := by rw [hw1]; exact alloc_size w.drew _
    have r1 : w1.rangeAt w.heap.size 0 zT := by rw [hw1]; exact rangeAt_alloc w.drew zT.toArray N.t_Tree (0, 0)
    rw [← hw1]
    clear hw1 hbs
    have m01 : Mod w w1 none' := md.trans' m1
    refine ⟨.inr (m01.mono fun _ _ _ h => h.elim), ?_⟩
    show anyC P _ _ _ _ [11, 14, 15, 16, 17].length [11, 14, 15, 16, 17] _ _
    refine anyC_of_chain _ _ _ (by kernel_rfl) (by decide) (fun k hk => by simp at hk; subst hk; kernel_rfl) ?_
    show stepR P ⟨some (q + 6 + 2 + 100), .call ⟨.value (.func f), #[T 10], #[pT]⟩, N.t_Tree, none, [10]⟩ _ _ _
    rw [step_call1 hf]
    have e10 : ∀ (ρ : Env) (u u' u'' : Value), ev (put (put (put ρ (some 10) u) (some (q + 6 + 3 + 100)) u') (some 13) u'') (T 10) = u := fun ρ u u' u'' => by rw [ev_tmp, put_var (by omega), put_var (by omega), put_it]
    rw [e10]
    refine Call.mono (Rt' := _) (hcall w1 (h.mod.trans' m01)) ?_
    rintro _ w6 ⟨cs, rfl, hrep, m6d⟩
    have m6 : Mod w w6 none' := m01.trans' m6d
    refine ⟨m6.mono fun _ _ _ h => h.elim, fin (bz := w.heap.size) (cs := cs) (RepT.mono (fun k hk => ⟨by have := hk.1; omega, hk.2⟩) t hrep) m6 (rangeAt_stay m6d r1) ?_ ?_ ?_ ?_ ?_ ?_⟩
    · simp (decide := true) (disch := omega) only [put_var, put_it]
    · simp (decide := true) (disch := omega) only [put_var, put_it]
    · simp (decide := true) (disch := omega) only [put_var, put_it]; rfl
    · simp (decide := true) (disch := omega) only [put_it]
    · simp (decide := true) (disch := omega) only [put_var, put_it]
    · intro k hk
      simp (decide := true) (disch := omega) only [put_var, envOf_var]
end
end Go.Kf

/- A message is told: a list, the whole. -/
namespace Go.Kf
open Go Go.RowKit

section
variable {P : Program} {N : Nums}

def lBool (N : Nums) (p : Nat) : List ROp := [⟨some 0, .alloc N.t_bool, 0, none, []⟩, ⟨none, .store N.t_bool (T 0) (.const (.bool true)), 0, none, [0]⟩, ⟨none, .store N.t_bool (T 0) (.const (.bool false)), 0, none, [0]⟩, ⟨some (p + 1 + 100), .load N.t_bool (T 0), 0, none, [0, 0, 1, 2]⟩]

/-- A bool, whichever. -/
theorem W_bool (B : Base P N) {loc : List Nat} {N' : Nat} {Q : Exit → Env → World → Prop} {w : World} {σ : Env} {q : Nat} (hQ : ∀ x w', Mod w w' none' → Q .normal (upd σ (q + 7) (.bool x)) w') : W P loc N' (.draw (lBool N (q + 6))) Q σ w := by
  have md : Mod w w.drew none' := Mod.drew _ _
  refine W_drawC B.mixed [false, false, false, false] rfl (plan2_sh (l0 := lBool N 6) q (by kernel_rfl) rfl) (fun _ => True) trivial fun τ => ?_
  simp only [readsZ, lBool, List.zip_cons_cons, List.zip_nil_right]
  show anyC P _ _ _ _ (3 + 1) [0, 1, 2, 3] _ _
  refine anyC_step [0] (by kernel_rfl) fun k hk => ?_
  simp only [List.mem_cons, List.not_mem_nil, or_false] at hk
  subst hk
  show stepR P ⟨some 0, .alloc N.t_bool, 0, none, []⟩ _ _ _
  obtain ⟨w1, hw1⟩ : ∃ w1, w1 = w.drew.alloc (.cells (Value.cells (.bool false)) N.t_bool) := ⟨_, rfl⟩
  have m1 : Mod w.drew w1 none' := by rw [hw1]; exact Mod.alloc _ _ _
  have s1 : w1.heap.size = w.heap.size + 1 := by rw [hw1]; exact alloc_size w.drew _
  have r1 : w1.rangeAt w.heap.size 0 [.bool false] := by rw [hw1]; exact rangeAt_alloc w.drew _ N.t_bool (0, 0)
  have t1 : w1.there w.heap.size 0 1 := by rw [hw1]; exact there_alloc w.drew _ N.t_bool
  have hal := B.bool.run_alloc (w := w.drew) (.tuple #[])
  rw [← hw1] at hal
  simp (decide := true) only [step_alloc, hal, stepV_ok]
  refine ⟨.inr trivial, ?_⟩
  have m01 : Mod w w1 none' := md.trans' m1
  -- a store
  have st : ∀ {w2 : World} {x : Bool}, Mod w1 w2 (blk w.heap.size) → w2.heap.size = w1.heap.size → ∃ w3, (Instr.storeAt N.t_bool (.pointer (some ⟨w.heap.size, 0, none⟩)) (.bool x)).run P w2 = .ok () w3 ∧ Mod w1 w3 (blk w.heap.size) ∧ w3.heap.size = w1.heap.size ∧ w3.cell? ⟨w.heap.size, 0, none⟩ = some (.bool x) := by
    intro w2 x m s
    have t2 : w2.there w.heap.size 0 1 := m.there (by omega) t1
    have h2 : ∃ u, w2.cell? ⟨w.heap.size, 0, none⟩ = some u := by
      have := (t2 0 (by decide)).1
      exact Option.isSome_iff_exists.1 (by simpa using this)
    obtain ⟨u, hu⟩ := h2
    exact ⟨_, B.bool.run_store1 (w := w2) (b := w.heap.size) (o := 0) (v := .bool x) rfl t2, m.trans' (Mod.setCell fun _ => rfl), by simpa [World.setCell] using s, World.cell?_setCell_same _ _ _ hu⟩
  have fin : ∀ {ρ : Env} {w3 : World} {x : Bool}, ρ 0 = .pointer (some ⟨w.heap.size, 0, none⟩) → (∀ k, ρ (k + 100) = σ k) → Mod w1 w3 (blk w.heap.size) → w3.cell? ⟨w.heap.size, 0, none⟩ = some (.bool x) →
      anyC P (fun _ => True) (lBool N (q + 6)) (rdOf [false, false, false, false]) (fun ρ w => Q .normal (locs ρ) w) (0 + 1) [3] ρ w3 := by
    intro ρ w3 x h0 hσ m hc
    refine anyC_step [3] (by kernel_rfl) fun k hk => ?_
    simp only [List.mem_cons, List.not_mem_nil, or_false] at hk
    subst hk
    show stepR P ⟨some (q + 6 + 1 + 100), .load N.t_bool (T 0), 0, none, [0, 0, 1, 2]⟩ _ _ _
    simp (decide := true) only [step_load, ev_tmp, h0, B.bool.run_load1 rfl, hc, ldc_some, stepV_ok]
    refine ⟨.inr trivial, ?_⟩
    show Q .normal _ _
    have e : locs (put ρ (some (q + 6 + 1 + 100)) (.bool x)) = upd σ (q + 7) (.bool x) := by
      rw [locs_put_var]
      funext k
      simp only [upd]
      by_cases hk : k = q + 6 + 1
      · rw [if_pos hk, if_pos (by omega)]
      · rw [if_neg hk, if_neg (by omega)]; exact hσ k
    rw [e]
    exact hQ x w3 (m01.fresh m fun k o e => by have : k = w.heap.size := e; omega)
  refine anyC_step [1, 2] (by kernel_rfl) fun k hk => ?_
  simp only [List.mem_cons, List.not_mem_nil, or_false] at hk
  have h0 : ∀ ρ : Env, put ρ (some 0) (.pointer (some ⟨w.heap.size, 0, none⟩)) 0 = .pointer (some ⟨w.heap.size, 0, none⟩) := fun ρ => put_it
  have hσ : ∀ k, put (envOf σ τ) (some 0) (.pointer (some ⟨w.heap.size, 0, none⟩)) (k + 100) = σ k := fun k => by rw [put_own (by decide) (by omega), envOf_var]
  rcases hk with rfl | rfl
  · show stepR P ⟨none, .store N.t_bool (T 0) (.const (.bool true)), 0, none, [0]⟩ _ _ _
    obtain ⟨w3, h3, m3, s3, c3⟩ := st (x := true) (.refl w1 _) rfl
    have h3' : ∀ w' : World, w' = w1 → (Instr.storeAt N.t_bool (.pointer (some ⟨w.heap.size, 0, none⟩)) (.bool true)).run P w' = .ok () w3 := fun w' e => by rw [e]; exact h3
    have hs : (w.drew).heap.size = w.heap.size := rfl
    simp (decide := true) only [step_store, ev_tmp, ev_const, hs, h0, h3, stepU_ok]
    refine ⟨.inr trivial, ?_⟩
    show anyC P _ _ _ _ (1 + 1) [2, 3] _ _
    refine anyC_step [2] (by kernel_rfl) fun k hk => ?_
    simp only [List.mem_cons, List.not_mem_nil, or_false] at hk
    subst hk
    show stepR P ⟨none, .store N.t_bool (T 0) (.const (.bool false)), 0, none, [0]⟩ _ _ _
    obtain ⟨w4, h4, m4, s4, c4⟩ := st (x := false) m3 s3
    simp (decide := true) only [step_store, ev_tmp, ev_const, h0, h4, stepU_ok]
    exact ⟨.inr trivial, fin (h0 _) hσ m4 c4⟩
  · show stepR P ⟨none, .store N.t_bool (T 0) (.const (.bool false)), 0, none, [0]⟩ _ _ _
    obtain ⟨w3, h3, m3, s3, c3⟩ := st (x := false) (.refl w1 _) rfl
    have hs : (w.drew).heap.size = w.heap.size := rfl
    simp (decide := true) only [step_store, ev_tmp, ev_const, hs, h0, h3, stepU_ok]
    refine ⟨.inr trivial, ?_⟩
    show anyC P _ _ _ _ (1 + 1) [1, 3] _ _
    refine anyC_step [1] (by kernel_rfl) fun k hk => ?_
    simp only [List.mem_cons, List.not_mem_nil, or_false] at hk
    subst hk
    show stepR P ⟨none, .store N.t_bool (T 0) (.const (.bool true)), 0, none, [0]⟩ _ _ _
    obtain ⟨w4, h4, m4, s4, c4⟩ := st (x := true) m3 s3
    simp (decide := true) only [step_store, ev_tmp, ev_const, h0, h4, stepU_ok]
    exact ⟨.inr trivial, fin (h0 _) hσ m4 c4⟩

theorem TL.stay {w0 w w' : World} {src v : Value} {bT bL bR n i lo : Nat} {nl : Bool} {trs ts : List Tr} {σ : Env} (h : TL w0 src bT bL bR n i trs lo nl v ts σ w) (m : Mod w w' none') : TL w0 src bT bL bR n i trs lo nl v ts σ w' := by
  have lt := h.lt
  have hs := m.size
  refine h.move (m.mono fun _ _ _ h => h.elim) ?_ ?_
  · have := h.cellL; rw [m.cell _ _ (by omega) (fun h => h)]; exact this
  · obtain ⟨css, csl, _, _, ho, hts⟩ := h.ex
    exact ⟨csl, ho.stay m fun _ _ _ h => h, RepTs.mod m (fun k hk => hk.elim False.elim fun hk => ⟨hk.2.1, fun _ h => h, .inr ⟨hk.1, by have := hk.2.1; omega, hk.2.2⟩⟩) ts hts⟩

/-- A list is told: nothing of it, if it is null; else each thing in turn. -/
def cTList (N : Nums) (Tt idx ft q k : Nat) (app0 app : C) : C :=
  .seq (.ops [⟨some 0, .move (V 0), 0, none, []⟩, ⟨some 1, .nilCheck (T 0), 0, none, []⟩, ⟨some 2, .fieldAddr Tt (T 1) idx, 0, none, []⟩, ⟨some 3, .load ft (T 2), 0, none, []⟩, ⟨some (q + 3 + 100), .call ⟨.builtin .len, #[T 3], #[ft]⟩, N.t_int, none, []⟩, ⟨some (q + 4 + 100), .move (.const (.int .i64 0)), 0, none, []⟩])
    (cRange N (q + 4) (q + 3) (q + 5) k (.seq (.ops [⟨some 0, .move (V (q + 4)), 0, none, []⟩, ⟨some (q + 6 + 100), .assign (T 0), 0, none, []⟩])
      (.seq (.draw (lBool N (q + 6))) (.cond (q + 7) app0 app))))

theorem W_tList (B : Base P N) {loc : List Nat} {N' : Nat} (hlo : LocOk loc N') {Q : Exit → Env → World → Prop} {w0 w : World} {b oo off Tt idx ft c et bT bL bR n i lo q k : Nat} {a : Option Addr} {nl : Bool} {trs ts : List Tr} {σ : Env} {app0 app : C}
    (hT : HF P Tt idx off) (hcell : w0.cell? ⟨b, oo + off, none⟩ = some (.slice a ts.length c)) (hlt : TI P ft (.slice et) 1 24 (.slice none 0 0)) (hlen : ts.length < 1099511627776)
    (hbody : ∀ (x : Bool) (j : Nat) (σ : Env) (w : World) (v : Value) (Q : Exit → Env → World → Prop), j < ts.length → σ (q + 6) = .int .i64 j → TL w0 (.pointer (some ⟨b, oo, none⟩)) bT bL bR n i trs lo nl v (ts.take j) σ w →
      (∀ σ' v' w', (∀ k, k < q + 8 → σ' k = σ k) → TL w0 (.pointer (some ⟨b, oo, none⟩)) bT bL bR n i trs lo nl v' (ts.take (j + 1)) σ' w' → Q .normal σ' w') → W P loc N' (if x then app0 else app) Q σ w)
    (h : TL w0 (.pointer (some ⟨b, oo, none⟩)) bT bL bR n i trs lo nl (.slice none 0 0) [] σ w)
    (hQ : ∀ σ' w', TF w0 (.pointer (some ⟨b, oo, none⟩)) bT bL bR n (i + 1) (trs ++ [.mk 0 [] nl ts []]) σ' w' → Q .normal σ' w') : W P loc N' (cTList N Tt idx ft q k app0 app) Q σ w := by
  have f0 := h.f0
  have hb0 : b < w0.heap.size := cell_lt (by rw [hcell]; rfl)
  have cF : w.cell? ⟨b, oo + off, none⟩ = some (.slice a ts.length c) := by rw [h.mod.cell _ _ hb0 (fun h => h)]; exact hcell
  unfold cTList
  refine W_seq' fun K hK => W_ops fun τ => ?_
  simp (decide := true) only [runR, step_move, step_load, step_fieldAddr, step_len, ev_tmp, ev_const, put_at, envOf_var, sel_true, BEq.rfl, Nat.zero_add, f0]
  rw [step_nilCheck rfl]
  simp (decide := true) only [stepV_ok, put_at, sel_true, BEq.rfl, ldc_some, hT.run, hlt.run_load1 rfl, cF, hlt.run_len]
  refine hK _ _ (gen_locs fun σ1 hσ => ?_)
  have g : ∀ k, k < 3 → σ1 k = σ k := fun k hk => by
    rw [hσ]
    simp (decide := true) (disch := omega) only [put_var, envOf_var]
  have g3 : σ1 (q + 3) = .int .i64 ts.length := by
    rw [hσ]; simp (decide := true) (disch := omega) only [put_var, put_it]
  have g4 : σ1 (q + 4) = .int .i64 0 := by
    rw [hσ]; simp (decide := true) (disch := omega) only [put_it]
  clear hσ hK K
  have h1 := h.env (σ' := σ1) (g 0 (by decide)) (g 1 (by decide)) (g 2 (by decide))
  refine W_cRange (i := q + 4) (l := q + 3) (c := q + 5) (k := k) hlo (L := ts.length) (by omega) (fun j σ w => σ (q + 4) = .int .i64 j ∧ σ (q + 3) = .int .i64 ts.length ∧ j ≤ ts.length ∧ ∃ v, TL w0 (.pointer (some ⟨b, oo, none⟩)) bT bL bR n i trs lo nl v (ts.take j) σ w) (fun j σ w h => ⟨h.1, h.2.1, h.2.2.1⟩) (fun j σ w b h => ?_) ⟨g4, g3, Nat.zero_le _, _, h1⟩ (fun σ' w' h => ?_) (fun j σ' w' hj h => ?_)
  · obtain ⟨a1, a2, a3, v, a4⟩ := h
    exact ⟨by rw [upd_ne (by omega)]; exact a1, by rw [upd_ne (by omega)]; exact a2, a3, v, a4.env (upd_ne (by omega)) (upd_ne (by omega)) (upd_ne (by omega))⟩
  · obtain ⟨_, _, _, v, a4⟩ := h
    rw [List.take_length] at a4
    exact hQ _ _ a4.done
  · obtain ⟨a1, a2, a3, v, a4⟩ := h
    refine W_seq' fun K hK => W_ops fun τ => ?_
    simp (decide := true) (disch := omega) only [runR, step_move, step_assign, ev_tmp, put_it, envOf_var, a1, locs_put_var, locs_own, locs_envOf]
    refine hK _ _ (W_seq' fun K2 hK2 => W_bool B fun x w5 m5 => hK2 _ _ ?_)
    clear hK2 K2 hK K
    refine W_cond (t := x) (upd_same _ _ _) (hlo.lt _) ?_
    have up : ∀ k, k < q + 6 → upd (upd σ' (q + 6) (.int .i64 j)) (q + 7) (.bool x) k = σ' k := fun k hk => by rw [upd_ne (by omega), upd_ne (by omega)]
    refine hbody x j _ w5 v _ hj (by rw [upd_ne (by omega)]; exact upd_same _ _ _) ((a4.stay m5).env (up 0 (by omega)) (up 1 (by omega)) (up 2 (by omega))) fun σ6 v6 w6 hag h6 => ?_
    refine ⟨by rw [hag _ (by omega), up _ (by omega)]; exact a1, upd_same _ _ _, by rw [upd_ne (by omega), hag _ (by omega), up _ (by omega)]; exact a2, by omega, v6, h6.env (upd_ne (by omega)) (upd_ne (by omega)) (upd_ne (by omega))⟩
end
end Go.Kf

