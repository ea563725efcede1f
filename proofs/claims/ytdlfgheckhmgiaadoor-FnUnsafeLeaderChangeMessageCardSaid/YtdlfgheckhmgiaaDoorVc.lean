/- A part of the calculus by which the claim's proof goes: over any program and any numbering of its functions; no condition beyond those that each theorem names. -/
import Derived.MapKept
import Derived.Deep.AppendSrc
import Derived.Great.BuildSlice
import Derived.Laws.IdiomStrings
import Derived.Laws.MakeOwn
import Derived.Maps.RangeRun
import Derived.Test.YtdlfgheckhmgiaaDoorVb
set_option linter.unusedSimpArgs false
set_option linter.unusedVariables false
namespace Go.Kf
open Go Go.RowKit
section
variable {P : Program} {N : Nums}
def Msg.rd (m : Msg) (fx : Bool) (ver : Int) (s : RS) : Option (List Val) :=
 match m.fs.rd ver (fx && decide (ver ≥ m.fl)) s with
 | none => none
 | some (l, s) => if s.bad then none else some l
def zva (N : Nums) (m : Msg) (x : Option (List Val)) (lo hi M : Nat) (ver : Int) (e : Value) (w : World) (v : Value) (w' : World) : Prop :=
 Mod w w' (blk M) ∧ match x with
 | none => v = e
 | some l => v = .nilIface ∧ w'.cell? ⟨M, 0, none⟩ = some (.int .i16 ver) ∧ ∃ css, RepL w' (GG lo hi w.heap.size w'.heap.size) l css ∧ w'.rangeAt M 1 css.flatten ∧ css.flatten.length = m.fs.sz
structure MsgT (P : Program) (N : Nums) (m : Msg) (fx : Bool) : Prop where
 hf : m.fs.hf P m.tT 1 1
 v0 : HF P m.tT 0 0
 plain : m.fs.plain N
 dflt : FOk P m.dflt 1 (seqs (m.fs.dfl N m.tT 1)) []
 fds : zvb P N fx m.fs
 ok : N.zay ≠ 0
theorem msg_dflt (B : Base P N) {m : Msg} {fx : Bool} (hm : MsgT P N m fx) {w : World} {M : Nat} (ht : w.there M 0 (m.fs.sz + 1)) (hM : M < w.heap.size) {zs : List Value} (hz : w.rangeAt M 1 zs) (hp : m.fs.pre zs) :
  Call P m.dflt #[.pointer (some ⟨M, 0, none⟩)] w fun _ w' => Mod w w' (rng M 1 m.fs.sz) ∧ w'.rangeAt M 1 m.fs.ini := by
 refine hm.dflt.call rfl fun loc N' hlo => ?_
 have fin : ∀ (σ' : Env) w', Mod w w' (rng M (0 + 1) m.fs.sz) → w'.rangeAt M (0 + 1) m.fs.ini → retQ P [] (fun _ w' => Mod w w' (rng M 1 m.fs.sz) ∧ w'.rangeAt M 1 m.fs.ini) .normal σ' w' :=
  fun σ' w' hm hr => ⟨.inl rfl, .tuple #[], rfl, hm, hr⟩
 have key := WL_dfl B (loc := loc) (N' := N') (Q := retQ P [] (fun _ w' => Mod w w' (rng M 1 m.fs.sz) ∧ w'.rangeAt M 1 m.fs.ini)) (Tt := m.tT) (b := M) (o := 0) m.fs 1 (zda #[.pointer (some ⟨M, 0, none⟩)]) 1 1 w _ (by decide) (zaz _) hm.plain hm.hf
  (fun j hj => by have := ht (1 + j) (by omega); simpa [Nat.add_assoc] using this) hM hz hp fin
 change WL P loc N' (m.fs.dfl N m.tT 1) _ _ _ at key
 cases hl : m.fs.dfl N m.tT 1 with
 | nil => rw [hl] at key; exact zbw key
 | cons x l => rw [hl] at key; exact zky (by simp) key
theorem W_mkReader (B : Base P N) {loc : List Nat} {N' : Nat} {Q : Exit → Env → World → Prop} {σ : Env} {w : World} {lo hi : Nat} {v : Value} {nl : Bool} {l : List UInt8} (h1 : σ 1 = v) (hb : zbq w lo hi v nl l) (hhi : hi ≤ w.heap.size)
  (hQ : ∀ w', w'.heap.size = w.heap.size + 1 → Mod w w' zp → RdAt w' lo hi w.heap.size ⟨l, false, nl⟩ → Q .normal (upd σ 4 (.pointer (some ⟨w.heap.size, 0, none⟩))) w') :
  W P loc N' (.ops [⟨some 0, .move (V 1), 0, none, []⟩, ⟨some 1, .build N.zac #[(0, T 0)], 0, none, []⟩, ⟨some 104, .alloc N.zac, 0, none, []⟩, ⟨none, .store N.zac (V 4) (T 1), 0, none, []⟩]) Q σ w := by
 obtain ⟨fs, ht, _⟩ := B.reader.out
 have hone : v.oneCell' = true := hb.oneCell
 have hbu : (Instr.build N.zac #[(0, v)]).run P w = .ok (.agg #[v, .bool false]) w := B.reader.run_build (by
  simp [Instr.fill, zcn hone])
 have e1 : ∀ ρ : Env, (#[(0, T 0)] : Array (Nat × Operand)).map (fun p => (p.1, ev ρ p.2)) = #[(0, ρ 0)] := fun ρ => by simp
 refine zaa fun τ => ?_
 simp +decide (disch := omega) only [bK, bE, Nat.reduceBeqDiff, BEq.rfl, Nat.reduceAdd, e1, h1, hbu, ht.run_alloc]
 obtain ⟨w1, hw1⟩ : ∃ w1, w1 = w.alloc (.cells (Value.cells (.agg [.slice none 0 0, .bool false].toArray)) N.zac) := ⟨_, rfl⟩
 have m1 : Mod w w1 zp := by rw [hw1]; exact Mod.alloc _ _ _
 have s1 : w1.heap.size = w.heap.size + 1 := by rw [hw1]; exact zan _ _
 have r1 : w1.rangeAt w.heap.size 0 [.slice none 0 0, .bool false] := by rw [hw1]; exact zw w _ _ _
 have t1 : w1.there w.heap.size 0 2 := by rw [hw1]; exact zbj w _ _
 have st := ht.run_store (w := w1) (b := w.heap.size) (o := 0) (v := .agg #[v, .bool false]) (cs := [v, .bool false]) rfl rfl t1 (fun c hc => by
  simp at hc; rcases hc with rfl | rfl
  ·exact hone
  ·rfl)
 rw [← hw1]
 clear hw1
 simp +decide (disch := omega) only [bK, st, zu, zap, locs_envOf]
 have m2 : Mod w1 (w1.setCells w.heap.size 0 [v, .bool false]) (blk w.heap.size) := Mod.setCells _ 0 _ fun _ _ _ _ => rfl
 have m02 : Mod w (w1.setCells w.heap.size 0 [v, .bool false]) zp := m1.fresh m2 fun k o e => by have : k = w.heap.size := e; omega
 have r2 := zak [v, .bool false] 0 w1 _ r1 (Nat.le_refl _)
 refine hQ _ ?_ m02 ⟨⟨v, by simpa using r2, hb.mod m02 hhi fun _ _ _ _ h => h⟩, m2.there (by omega) t1, Nat.le_trans hhi m02.size, .inr hhi⟩
 simp [World.setCells, World.setCell, s1]
theorem W_rdRest (B : Base P N) (F : Fns P N) {m : Msg} {fx : Bool} (hm : MsgT P N m fx) {loc : List Nat} {N' : Nat} (hlo : zfo loc N') {w w2 : World} {lo hi M r : Nat} {e : Value} {u : Bool} {s : RS} {ver : Int} {σ2 : Env}
  (hMs : M < lo ∨ hi ≤ M) (hM : M < w.heap.size) (hMg : M ≠ N.zad) (hgl : N.zad < w.heap.size) (hrw : w.heap.size ≤ r) (hm02 : Mod w w2 (blk M)) (ht : w2.there M 0 (m.fs.sz + 1)) (hver2 : w2.cell? ⟨M, 0, none⟩ = some (.int .i16 ver)) (hini2 : w2.rangeAt M 1 m.fs.ini)
  (he2 : w2.cell? ⟨N.zad, 0, none⟩ = some e) (hr2 : RdAt w2 lo hi r s) (b0 : σ2 0 = .pointer (some ⟨M, 0, none⟩)) (b2 : σ2 2 = .bool u) (b4 : σ2 4 = .pointer (some ⟨r, 0, none⟩)) :
  WL P loc N' ([.ops [⟨some 0, .move (V 0), 0, none, []⟩, ⟨some 1, .nilCheck (T 0), 0, none, []⟩, ⟨some 2, .fieldAddr m.tT (T 1) 0, 0, none, []⟩, ⟨some 3, .load N.zce (T 2), 0, none, []⟩, ⟨some 105, .assign (T 3), 0, none, []⟩], .ops [⟨some 0, .move (V 5), 0, none, []⟩]] ++
   (if fx then [.ops [⟨some 0, .move (V 5), 0, none, []⟩, ⟨some 1, .binOp .geq N.zce (T 0) (.const (.int .i16 m.fl)) N.zce, 0, none, []⟩, ⟨some 106, .assign (T 1), 0, none, []⟩], .ops [⟨some 0, .move (V 6), 0, none, []⟩]] else []) ++
   [zrv (if fx then 7 else 6) 0] ++ m.fs.gen N fx (if fx then 7 else 6) m.tT 1 ((if fx then 7 else 6) + 1) 0 ++ [zfn N 3 N.zay N.zgi, .ret]) (retQ P [.var 3] (zva N m (m.rd fx ver s) lo hi M ver e w)) σ2 w2 := by
 have hs2 := hm02.size
 simp only [List.nil_append, List.cons_append]
 refine zbi fun K hK => zaa fun τ => ?_
 simp +decide (disch := omega) only [bK, bE, BEq.rfl, Nat.zero_add, b0]
 rw [zai rfl]
 simp +decide (disch := omega) only [bK, bE, BEq.rfl, Nat.add_zero, hm.v0.run, B.int16.run_load1 rfl, hver2]
 refine hK _ _ (zf fun σ3 hσ => ?_)
 have c0 := hσ 0
 have c2 := hσ 2
 have c4 := hσ 4
 have c5 := hσ 5
 simp +decide only [bE, Nat.reduceBeqDiff, BEq.rfl, Nat.reduceAdd, Nat.zero_add, b0, b2, b4] at c0 c2 c4 c5
 clear hσ hK K
 refine zbi fun K hK => W_move (hK _ _ ?_)
 clear hK K
 have tail : ∀ {σ4 : Env} {is : Nat}, 6 ≤ is → (fx = true → is = 7) → Cx σ4 fx u (fx && decide (ver ≥ m.fl)) ver r → σ4 0 = .pointer (some ⟨M, 0, none⟩) →
   WL P loc N' (zrv is 0 :: (m.fs.gen N fx is m.tT 1 (is + 1) 0 ++ [zfn N 3 N.zay N.zgi, .ret])) (retQ P [.var 3] (zva N m (m.rd fx ver s) lo hi M ver e w)) σ4 w2 := by
  intro σ4 is his6 his7 hx d0
  refine zbi fun K hK => zgx (hK _ _ ?_)
  clear hK K
  rw [d0]
  obtain ⟨σ5, hσ5⟩ : ∃ σ5, σ5 = upd σ4 is (.pointer (some ⟨M, 0, none⟩)) := ⟨_, rfl⟩
  have hx5 : Cx σ5 fx u (fx && decide (ver ≥ m.fl)) ver r := by
   rw [hσ5]
   refine ⟨by rw [zi (by omega)]; exact hx.un, by rw [zi (by omega)]; exact hx.rd, by rw [zi (by omega)]; exact hx.vr, fun h => ?_, hx.nofl⟩
   rw [zi (by have := his7 h; omega)]; exact hx.fle h
  have d5 : σ5 is = .pointer (some ⟨M, 0, none⟩) := by rw [hσ5]; exact upd_same _ _ _
  rw [← hσ5]
  clear hσ5
  have hr2' : RdAt w2 lo hi r s := hr2
  have hinv : Inv N w2 lo hi r s e := ⟨hr2', he2, by omega⟩
  have hpl : Pl N w2 lo hi r M (0 + 1) m.fs.sz := ⟨fun j hj => by have := ht (1 + j) (by omega); simpa [Nat.add_assoc] using this, by omega, by omega, hMs, hMg⟩
  have tot : ∀ {w3 : World}, Mod w2 w3 (orM (blk r) (rng M (0 + 1) m.fs.sz)) → Mod w w3 (blk M) := fun h => hm02.trans h fun k i hk h => h.elim id fun h => h.elim (fun h => by have : k = r := h; omega) fun h => h.1
  have hcomp : ∀ {w3 : World} {s3 : RS}, w3.cell? ⟨N.zad, 0, none⟩ = some e → RdAt w3 lo hi r s3 → Call P N.zay #[.pointer (some ⟨r, 0, none⟩)] w3 fun v w' => v = (if s3.bad then e else .nilIface) ∧ w' = w3 := by
   intro w3 s3 he3 hr3
   rcases B.error with h | ⟨ms, h⟩
   ·exact zic B F hm.ok h rfl he3 hr3
   ·exact zic B F hm.ok h rfl he3 hr3
  refine zwx ?_
  have his8 : 7 ≤ is + 1 := by omega
  refine hm.fds (s := s) (e := e) (ver := ver) (oo := 0) (off := 1) (b := M) hlo hx5 hinv hpl d5 hm.hf hini2 his8 (by omega) ?_
  cases hrd : m.fs.rd ver (fx && decide (ver ≥ m.fl)) s with
  | none =>
   intro σ6 w3 h3 hm3
   refine ⟨.inr rfl, e, h3.symm, tot hm3, ?_⟩
   simp only [Msg.rd, hrd]
  | some x =>
   obtain ⟨vs, s3⟩ := x
   intro σ6 w3 css ha6 hr3 hm3 hrg hcl hrep
   have f4 : σ6 4 = .pointer (some ⟨r, 0, none⟩) := by rw [ha6 4 (by omega)]; exact hx5.rd
   have hinv3 := hinv.mod hMg hm3 hr3
   refine zbi fun K hK => zjp (F.PReader_Complete hm.ok).has f4 (hcomp hinv3.er hr3) fun v' w' ⟨hv, hw⟩ => hK _ _ ?_
   clear hK K
   subst hw
   refine zbi fun K hK => zbx ⟨.inr rfl, v', (upd_same _ _ _).symm, tot hm3, ?_⟩
   simp only [Msg.rd, hrd]
   cases hb : s3.bad with
   | true =>
    rw [hb, if_pos rfl] at hv
    exact hv
   | false =>
    rw [hb] at hv
    refine ⟨hv, ?_, css, RepL.mono (fun k hk => hk.imp id fun h => ⟨by omega, h.2⟩) vs hrep, hrg, hcl⟩
    rw [hm3.cell _ _ (by omega) (fun h => h.elim (fun h => by have : M = r := h; omega) fun h => by have := h.2.1; omega)]
    exact hver2
 cases hfx : fx with
 | false =>
  subst hfx
  exact tail (σ4 := σ3) (is := 6) (by omega) (fun h => by cases h) ⟨c2, c4, c5, (fun h => by cases h), fun _ => rfl⟩ c0
 | true =>
  subst hfx
  simp only [if_true, List.cons_append, List.nil_append]
  refine zbi fun K hK => zaa fun τ => ?_
  simp +decide (disch := omega) only [bK, bE, BEq.rfl, Nat.reduceAdd, c5]
  refine hK _ _ (zf fun σ4 hσ => ?_)
  have d0 := hσ 0
  have d2 := hσ 2
  have d4 := hσ 4
  have d5 := hσ 5
  have d6 := hσ 6
  simp +decide only [bE, Nat.reduceBeqDiff, BEq.rfl, Nat.reduceAdd, Nat.zero_add, c0, c2, c4, c5] at d0 d2 d4 d5 d6
  clear hσ hK K
  refine zbi fun K hK => W_move (hK _ _ ?_)
  exact tail (σ4 := σ4) (is := 7) (by omega) (fun _ => rfl) ⟨d2, d4, d5, (fun _ => d6), fun h => by cases h⟩ d0
theorem zsn (B : Base P N) (F : Fns P N) {m : Msg} {fx : Bool} (hvin : m.vin = true) (hI : N.zaw ≠ 0) (hm : MsgT P N m fx) {f : FuncId} (hf : FOk P f 3 (m.gen N fx) [.var 3]) {w : World} {lo hi M : Nat} {v e : Value} {nl u : Bool} {l : List UInt8} {x0 : Value}
  (hb : zbq w lo hi v nl l) (hhi : hi ≤ w.heap.size) (ht : w.there M 0 (m.fs.sz + 1)) (hM : M < w.heap.size) (hMs : M < lo ∨ hi ≤ M) (hMg : M ≠ N.zad) (hver : w.cell? ⟨M, 0, none⟩ = some x0) {zs : List Value} (hz : w.rangeAt M 1 zs) (hp : m.fs.pre zs)
  (he : w.cell? ⟨N.zad, 0, none⟩ = some e) :
  ∃ ver : Int, (PK.i16.rd ⟨l, false, nl⟩).1 = .int .i16 ver ∧ Call P f #[.pointer (some ⟨M, 0, none⟩), v, .bool u] w (zva N m (m.rd fx ver (PK.i16.rd ⟨l, false, nl⟩).2) lo hi M ver e w) := by
 obtain ⟨ver, hv16⟩ : ∃ ver : Int, (PK.i16.rd ⟨l, false, nl⟩).1 = .int .i16 ver := by
  show ∃ ver, (zdz 2 (fun l => .int .i16 (IntKind.i16.wrap (be l))) (.int .i16 0) _).1 = .int .i16 ver
  unfold zdz
  split
  ·exact ⟨_, rfl⟩
  ·exact ⟨_, rfl⟩
 refine ⟨ver, hv16, ?_⟩
 refine hf.call rfl fun loc N' hlo => ?_
 unfold Msg.gen
 rw [hvin]
 simp only [if_true, List.nil_append, List.cons_append]
 refine zky (by simp) ?_
 refine zbi fun K hK => zav (hK _ _ ?_)
 clear hK K
 obtain ⟨σ1, hσ1⟩ : ∃ σ1, σ1 = upd (zda #[.pointer (some ⟨M, 0, none⟩), v, .bool u]) 3 .nilIface := ⟨_, rfl⟩
 have a0 : σ1 0 = .pointer (some ⟨M, 0, none⟩) := by rw [hσ1, zi (by decide)]; rfl
 have a1 : σ1 1 = v := by rw [hσ1, zi (by decide)]; rfl
 have a2 : σ1 2 = .bool u := by rw [hσ1, zi (by decide)]; rfl
 rw [← hσ1]
 clear hσ1
 refine zbi fun K hK => zaa fun τ => ?_
 simp +decide (disch := omega) only [bK, bE, Nat.zero_add, a0]
 rw [zal hm.dflt.has]
 simp +decide (disch := omega) only [bK, bE, BEq.rfl]
 refine (msg_dflt B hm ht hM hz hp).mono ?_
 rintro _ w1 ⟨hm1, hini1⟩
 simp +decide (disch := omega) only [zap, locs_envOf]
 refine hK _ _ ?_
 clear hK K
 have hs1 := hm1.size
 have hb1 : zbq w1 lo hi v nl l := hb.mod hm1 hhi fun k o h1 h2 h => by have : k = M := h.1; omega
 refine zbi fun K hK => W_mkReader B a1 hb1 (by omega) fun w2 hs2 hm2 hr2 => hK _ _ ?_
 clear hK K
 have hm02 : Mod w w2 (rng M 1 m.fs.sz) := hm1.trans hm2 fun k o _ h => h.elim id False.elim
 have hver2 : w2.cell? ⟨M, 0, none⟩ = some x0 := by rw [hm02.cell _ _ hM (fun h => by have := h.2.1; omega)]; exact hver
 have hini2 : w2.rangeAt M 1 m.fs.ini := hm2.rangeAt (by omega) (fun _ _ _ h => h) hini1
 have he2 : w2.cell? ⟨N.zad, 0, none⟩ = some e := by
  rw [hm02.cell _ _ (zax (by rw [he]; rfl)) (fun h => hMg h.1.symm)]; exact he
 obtain ⟨r, hrr⟩ : ∃ r, r = w1.heap.size := ⟨_, rfl⟩
 rw [← hrr] at hr2 ⊢
 obtain ⟨σ2, hσ2⟩ : ∃ σ2, σ2 = upd σ1 4 (.pointer (some ⟨r, 0, none⟩)) := ⟨_, rfl⟩
 have b0 : σ2 0 = .pointer (some ⟨M, 0, none⟩) := by rw [hσ2, zi (by decide)]; exact a0
 have b2 : σ2 2 = .bool u := by rw [hσ2, zi (by decide)]; exact a2
 have b4 : σ2 4 = .pointer (some ⟨r, 0, none⟩) := by rw [hσ2]; exact upd_same _ _ _
 rw [← hσ2]
 clear hσ2
 have hgl := zax (show (w.cell? ⟨N.zad, 0, none⟩).isSome = true by rw [he]; rfl)
 have ht2 := hm02.there hM ht
 refine zbi fun K hK => zaa fun τ => ?_
 simp +decide (disch := omega) only [bK, bE, Nat.reduceBeqDiff, BEq.rfl, Nat.zero_add, b0]
 rw [zal (F.PReader_Int16 hI).1.has]
 simp +decide (disch := omega) only [bK, bE, Nat.reduceBeqDiff, Nat.reduceAdd, b4]
 refine (zug B F hI w2 lo hi r ⟨l, false, nl⟩ hr2).mono ?_
 rintro v3 w3 ⟨hv3, hr3, hm3⟩
 have hv3 : v3 = .int .i16 ver := hv3.trans hv16
 subst hv3
 have hs3 := hm3.size
 have hrl := hr2.lt
 have hM3 : M < w3.heap.size := by omega
 have ht3 := hm3.there (by omega) ht2
 have hc3 : w3.cell? ⟨M, 0, none⟩ = some x0 := by rw [hm3.cell _ _ (by omega) (fun h => by have : M = r := h; omega)]; exact hver2
 have st := B.int16.run_store1 (w := w3) (b := M) (o := 0) (v := .int .i16 ver) rfl (fun j hj => ht3 j (by omega))
 rw [zai rfl]
 simp +decide (disch := omega) only [bK, bE, Nat.reduceBeqDiff, BEq.rfl, Nat.add_zero, hm.v0.run, st]
 refine hK _ _ (zf fun σ5 hσ => ?_)
 have c0 := hσ 0
 have c2 := hσ 2
 have c4 := hσ 4
 simp +decide only [bE, Nat.reduceBeqDiff, Nat.reduceAdd, Nat.zero_add, b0, b2, b4] at c0 c2 c4
 clear hσ hK K
 obtain ⟨w4, hw4⟩ : ∃ w4, w4 = w3.setCell ⟨M, 0, none⟩ (.int .i16 ver) := ⟨_, rfl⟩
 have m34 : Mod w3 w4 (rng M 0 1) := by rw [hw4]; exact Mod.setCell fun _ => ⟨rfl, Nat.le_refl _, by omega⟩
 have hc4 : w4.cell? ⟨M, 0, none⟩ = some (.int .i16 ver) := by rw [hw4]; exact World.cell?_setCell_same _ _ _ hc3
 have hs4 : w4.heap.size = w3.heap.size := by rw [hw4]; simp [World.setCell]
 rw [← hw4]
 have hm04 : Mod w w4 (blk M) := ((hm02.mono (M' := blk M) fun _ _ _ h => h.1).trans hm3 fun k o hk h => h.elim id fun h => by have : k = r := h; omega).trans m34 fun k o hk h => h.elim id fun h => h.1
 have hini4 : w4.rangeAt M 1 m.fs.ini := m34.rangeAt hM3 (fun i h1 _ h => by have := h.2.2; omega) (hm3.rangeAt (by omega) (fun _ _ _ h => by have : M = r := h; omega) hini2)
 have he4 : w4.cell? ⟨N.zad, 0, none⟩ = some e := by
  rw [m34.cell _ _ (by omega) (fun h => hMg h.1.symm), hm3.cell _ _ (by omega) (fun h => by have : N.zad = r := h; omega)]; exact he2
 have := W_rdRest B F hm hlo (w := w) (w2 := w4) (lo := lo) (hi := hi) (M := M) (r := r) (e := e) (u := u) (s := (PK.i16.rd ⟨l, false, nl⟩).2) (ver := ver) (σ2 := σ5) hMs hM hMg hgl (by omega) hm04 (m34.there hM3 ht3) hc4 hini4 he4 (hr3.mod m34 (fun o h => by have := h.1; omega) (fun k o h1 h2 h => by have := h.1; omega)) c0 c2 c4
 simpa only [List.append_nil, List.nil_append, List.cons_append, List.append_assoc] using this
end
section
variable {P : Program} {N : Nums}
theorem run_eqlMap {t a b : TypeId} (h : P.underlying t = some (.map a b)) {x y : Operand} {m : Option Nat} {w : World} :
  (do eqGuard .eql t x y (.map m) (.map none); binOp .eql t (.map m) (.map none) : Sem Value).run P w = .ok (.bool m.isNone) w := by
 have e : (Op.equal t (.map m) (.map none)).run P w = .ok m.isNone w := by
  unfold Op.equal Op.maxDepth
  rw [show (10000 : Nat) = 9999 + 1 from rfl]
  unfold Op.equalIn
  rw [Sem.run_bind, run_underlying h, Result.andThen_ok]
  cases m <;> rfl
 have e1 : (eqGuard .eql t x y (.map m) (.map none)).run P w = .ok () w := rfl
 rw [Sem.run_bind, e1, Result.andThen_ok]
 show ((do pure (.bool (← Op.equal t (.map m) (.map none))) : Sem Value)).run P w = _
 rw [Sem.run_bind, e, Result.andThen_ok]
 rfl
theorem Mod.setMap {w : World} {r : Nat} {es es' : Array MapEntry} {ck ck' : Nat} (h : w.heap[r]? = some (.map es ck)) : Mod w { w with heap := w.heap.setIfInBounds r (.map es' ck') } (blk r) := by
 obtain ⟨h1, h2⟩ := MapKept.heap_set (o' := .map es' ck') h
 refine ⟨rfl, rfl, rfl, by simp, fun k hk hn => h2 k fun e => hn 0 e, fun k o hk hn => ?_, fun k o hk => ?_, fun k o hk => ?_, fun k hk => ?_⟩
 ·exact World.cell?_of_block (h2 k fun e => hn e)
 ·by_cases e : k = r
  ·subst e
   simp only [World.cell?, h1, h]
  ·rw [World.cell?_of_block (h2 k e)]
 ·by_cases e : k = r
  ·subst e
   simp only [World.frozen?, h1, h]
  ·rw [World.frozen?_of_block (h2 k e)]
 ·by_cases e : k = r
  ·subst e
   simp only [World.shape?, h1, h]
  ·simp only [World.shape?, h2 k e]
def tagV (w : World) (G : Nat → Prop) (v : Value) (l : List UInt8) : Prop := (l = [] ∧ ∃ ad c, v = .slice ad 0 c) ∨ OctG w G v (some l)
theorem find_tag {w : World} {G : Nat → Prop} {k : Nat} {v : Value} {vl : List UInt8} (hv : tagV w G v vl) : ∀ (l : List (Nat × List UInt8)) (es : List MapEntry) (i0 : Nat), zca w G l es → (l.map Prod.fst).Nodup →
  (∃ i val x, Instr.findNow (.int .u32) (.int .u32 k) es i0 = some (some (i0 + i, val)) ∧ es[i]? = some x ∧ x.key = .int .u32 k ∧ (l.map Prod.fst).contains k = true ∧
   zca w G (l.map fun x => if x.1 = k then (k, vl) else x) (es.modify i fun e => { e with key := .int .u32 k, val := v })) ∨
  (Instr.findNow (.int .u32) (.int .u32 k) es i0 = some none ∧ (l.map Prod.fst).contains k = false)
 | [], es, i0, he, _ => by
  simp only [zca] at he
  subst he
  exact .inr ⟨rfl, rfl⟩
 | (k', l') :: l, es, i0, he, hnd => by
  obtain ⟨v', b, rest, rfl, h2, h3⟩ := he
  simp only [List.map_cons, List.nodup_cons] at hnd
  by_cases hk : k' = k
  ·subst hk
   left
   refine ⟨0, v', ⟨.int .u32 k', v', b⟩, by simp [Instr.findNow, Instr.sameNow], rfl, rfl, by simp, ?_⟩
   have hrest : (l.map fun x => if x.1 = k' then (k', vl) else x) = l := by
    conv => rhs; rw [← List.map_id l]
    refine List.map_congr_left fun x hx => ?_
    have : x.1 ≠ k' := fun e => hnd.1 (List.mem_map.2 ⟨x, hx, e⟩)
    simp [this]
   simp only [List.map_cons, if_true, hrest, List.modify_zero_cons, zca]
   exact ⟨v, b, rest, rfl, hv, h3⟩
  ·have hk2 : ((k : Int) == (k' : Int)) = false := by
    have : (k : Int) ≠ (k' : Int) := by omega
    simpa using this
   rcases find_tag hv l rest (i0 + 1) h3 hnd.2 with ⟨i, val, x, g1, g2, g3, g4, g5⟩ | ⟨g1, g2⟩
   ·left
    refine ⟨i + 1, val, x, ?_, by simpa using g2, g3, ?_, ?_⟩
    ·simp only [Instr.findNow, Instr.sameNow, if_true, hk2, g1]
     congr 3; omega
    ·simp only [List.map_cons, List.contains_cons, g4, Bool.or_true]
    ·simp only [List.map_cons, if_neg hk, List.modify_succ_cons, zca]
     exact ⟨v', b, _, rfl, h2, g5⟩
   ·right
    refine ⟨by simp only [Instr.findNow, Instr.sameNow, if_true, hk2, g1], ?_⟩
    have : (k == k') = false := by simpa using fun e => hk e.symm
    simp only [List.map_cons, List.contains_cons, g2, this, Bool.or_false]
theorem zca.append {w : World} {G : Nat → Prop} {k b : Nat} {v : Value} {vl : List UInt8} (hv : tagV w G v vl) : ∀ {l : List (Nat × List UInt8)} {es : List MapEntry}, zca w G l es → zca w G (l ++ [(k, vl)]) (es ++ [⟨.int .u32 k, v, b⟩])
 | [], es, he => by
  simp only [zca] at he
  subst he
  exact ⟨v, b, [], rfl, hv, rfl⟩
 | (k', l') :: l, es, ⟨v', b', rest, h1, h2, h3⟩ => by
  subst h1
  exact ⟨v', b', _, rfl, h2, zca.append hv h3⟩
theorem tput_keys {l : List (Nat × List UInt8)} {k : Nat} {v : List UInt8} (hn : (l.map Prod.fst).Nodup) : ((tput l k v).map Prod.fst).Nodup ∧ ∀ x ∈ tput l k v, x.1 = k ∨ x.1 ∈ l.map Prod.fst := by
 unfold tput
 split
 ·rename_i hc
  have e : (l.map fun x => if x.1 = k then (k, v) else x).map Prod.fst = l.map Prod.fst := by
   rw [List.map_map]
   refine List.map_congr_left fun x _ => ?_
   simp only [Function.comp]
   split
   ·rename_i h; exact h.symm
   ·rfl
  rw [e]
  refine ⟨hn, fun x hx => ?_⟩
  have : x.1 ∈ (l.map fun x => if x.1 = k then (k, v) else x).map Prod.fst := List.mem_map.2 ⟨x, hx, rfl⟩
  rw [e] at this
  exact .inr this
 ·rename_i hc
  refine ⟨?_, fun x hx => ?_⟩
  ·rw [List.map_append, List.nodup_append]
   refine ⟨hn, by simp, fun a ha b hb => ?_⟩
   simp at hb
   subst hb
   intro e
   subst e
   exact hc (by simpa using ha)
  ·rcases List.mem_append.1 hx with hx | hx
   ·exact .inr (List.mem_map.2 ⟨x, hx, rfl⟩)
   ·simp at hx; subst hx; exact .inl rfl
theorem run_setTag (B : Base P N) (hT : N.zdi ≠ 0) {w : World} {G : Nat → Prop} {mr : Nat} {l : List (Nat × List UInt8)} {es : Array MapEntry} {ck k : Nat} {v : Value} {vl : List UInt8} (hv : tagV w G v vl) (hk : k < 4294967296)
  (hb : w.heap[mr]? = some (.map es ck)) (h4 : ∀ e ∈ es.toList, e.born < ck) (h5 : (es.toList.map MapEntry.born).Nodup) (h6 : zca w G l es.toList) (h7 : (l.map Prod.fst).Nodup) (h8 : ∀ x ∈ l, x.1 < 4294967296) :
  ∃ w' es' ck', (Instr.mapUpdate N.zag (.map (some mr)) (.int .u32 k) v).run P w = .ok () w' ∧ Mod w w' (blk mr) ∧ w'.heap.size = w.heap.size ∧ w'.heap[mr]? = some (.map es' ck') ∧ (∀ e ∈ es'.toList, e.born < ck') ∧ (es'.toList.map MapEntry.born).Nodup ∧
   zca w G (tput l k vl) es'.toList ∧ ((tput l k vl).map Prod.fst).Nodup ∧ ∀ x ∈ tput l k vl, x.1 < 4294967296 := by
 obtain ⟨_, _, hmap⟩ := B.tags hT
 have hkeys := tput_keys (k := k) (v := vl) h7
 have hbound : ∀ x ∈ tput l k vl, x.1 < 4294967296 := fun x hx => by
  rcases hkeys.2 x hx with h | h
  ·omega
  ·obtain ⟨y, hy, e⟩ := List.mem_map.1 h
   rw [← e]; exact h8 y hy
 have hck := MapKept.run_checkKey (P := P) (w := w) (k := .int .u32 k) B.uint32.und rfl false 9999
 have hgo := MapKept.run_getObj_map (P := P) hb
 rcases find_tag (k := k) hv l es.toList 0 h6 h7 with ⟨i, val, x, g1, g2, g3, g4, g5⟩ | ⟨g1, g2⟩
 ·have hfk := MapKept.run_findKey (P := P) (w := w) (k := .int .u32 k) B.uint32.und g1
  have hks := MapKept.run_keyThatStays (P := P) (w := w) (d := .int .u32) (k := .int .u32 k) rfl
  have hi : es[i]? = some x := by simpa using g2
  have hold : (((es[i]?).map (·.key)).getD (.int .u32 k)) = .int .u32 k := by rw [hi]; simpa using g3
  have hso := MapKept.run_setObj_map (P := P) (.map (es.modify i fun e => { e with key := .int .u32 k, val := v }) ck) hb
  refine ⟨_, es.modify i (fun e => { e with key := .int .u32 k, val := v }), ck, ?_, Mod.setMap hb, by simp, (MapKept.heap_set hb).1, ?_, ?_, ?_, hkeys.1, hbound⟩
  ·simp only [Instr.mapUpdate, Sem.run_bind, hmap.run_und, Result.andThen_ok, hgo, hck, hfk, Nat.zero_add, hold, hks, hso]
  ·intro e he
   rw [Array.toList_modify] at he
   obtain ⟨j, hj⟩ := List.getElem?_of_mem he
   rw [List.getElem?_modify] at hj
   cases hx : es.toList[j]? with
   | none => rw [hx] at hj; simp at hj
   | some y =>
    rw [hx] at hj
    have hy := h4 y (List.mem_of_getElem? hx)
    simp at hj
    split at hj <;> (subst hj; exact hy)
  ·have : (es.modify i fun e => { e with key := .int .u32 k, val := v }).toList.map MapEntry.born = es.toList.map MapEntry.born := by
    rw [Array.toList_modify]
    apply List.ext_getElem?
    intro j
    rw [List.getElem?_map, List.getElem?_modify, List.getElem?_map]
    cases es.toList[j]? with
    | none => rfl
    | some y => simp; split <;> rfl
   rw [this]; exact h5
  ·unfold tput
   rw [if_pos g4, Array.toList_modify]
   exact g5
 ·have hfk := MapKept.run_findKey (P := P) (w := w) (k := .int .u32 k) B.uint32.und g1
  have hso := MapKept.run_setObj_map (P := P) (.map (es.push ⟨.int .u32 k, v, ck⟩) (ck + 1)) hb
  refine ⟨_, es.push ⟨.int .u32 k, v, ck⟩, ck + 1, ?_, Mod.setMap hb, by simp, (MapKept.heap_set hb).1, ?_, ?_, ?_, hkeys.1, hbound⟩
  ·simp only [Instr.mapUpdate, Sem.run_bind, hmap.run_und, Result.andThen_ok, hgo, hck, hfk, hso]
  ·intro e he
   simp at he
   rcases he with he | he
   ·have := h4 e (by simpa using he); omega
   ·subst he; simp
  ·simp only [Array.toList_push, List.map_append, List.map_cons, List.map_nil]
   rw [List.nodup_append]
   refine ⟨h5, by simp, fun a ha b hb' => ?_⟩
   simp at hb'
   subst hb'
   obtain ⟨y, hy, e⟩ := List.mem_map.1 ha
   have := h4 y hy
   omega
  ·unfold tput
   rw [if_neg (by rw [g2]; simp), Array.toList_push]
   exact zca.append hv h6
end
section
variable {P : Program} {N : Nums}
theorem tagV.mod {w w' : World} {M : Nat → Nat → Prop} {G G' : Nat → Prop} (h : Mod w w' M) (hG : ∀ k, G k → k < w.heap.size ∧ (∀ o, ¬ M k o) ∧ G' k) {v : Value} {l : List UInt8} (hb : tagV w G v l) : tagV w' G' v l :=
 hb.imp (fun x => ⟨x.1, x.2⟩) fun x => x.mod h hG
def TagsC (w : World) (G : Nat → Prop) (c : Nat) (v : Value) (l : List (Nat × List UInt8)) : Prop :=
 (v = .map none ∧ l = []) ∨ ∃ m es ck, v = .map (some m) ∧ c ≤ m ∧ m < w.heap.size ∧ w.heap[m]? = some (.map es ck) ∧ (∀ e ∈ es.toList, e.born < ck) ∧ (es.toList.map MapEntry.born).Nodup ∧ zca w G l es.toList ∧ (l.map Prod.fst).Nodup ∧ ∀ x ∈ l, x.1 < 4294967296
theorem call_Set (B : Base P N) (F : Fns P N) (hN : N.zhe ≠ 0) (hT : N.zdi ≠ 0) {w : World} {G : Nat → Prop} {b c k : Nat} {m v : Value} {l : List (Nat × List UInt8)} {vl : List UInt8}
  (hc : w.cell? ⟨b, 0, none⟩ = some m) (ht : w.there b 0 1) (htg : TagsC w G c m l) (hbc : b < c) (hcw : c ≤ w.heap.size) (hG : ∀ i, G i → i < c ∧ i ≠ b) (hv : tagV w G v vl) (hk : k < 4294967296) :
  Call P N.zhe #[.pointer (some ⟨b, 0, none⟩), .int .u32 k, v] w fun _ w' => ∃ m', w'.cell? ⟨b, 0, none⟩ = some m' ∧ m'.oneCell' = true ∧ TagsC w' G c m' (tput l k vl) ∧ Mod w w' fun i _ => i = b ∨ c ≤ i := by
 obtain ⟨_, hHF, hmap⟩ := B.tags hT
 have hb := ztu ht (by omega)
 refine (F.PTags_Set hN).call rfl fun loc N' hlo => ?_
 unfold zrr
 obtain ⟨σ, hσ⟩ : ∃ σ, σ = zda #[.pointer (some ⟨b, 0, none⟩), .int .u32 k, v] := ⟨_, rfl⟩
 have f0 : σ 0 = .pointer (some ⟨b, 0, none⟩) := by rw [hσ]; rfl
 have f1 : σ 1 = .int .u32 k := by rw [hσ]; rfl
 have f2 : σ 2 = v := by rw [hσ]; rfl
 rw [← hσ]
 clear hσ
 have fin : ∀ {σ' : Env} {w1 : World} {mr : Nat} {l1 : List (Nat × List UInt8)}, Ag 3 σ σ' → w1.cell? ⟨b, 0, none⟩ = some (.map (some mr)) → TagsC w1 G c (.map (some mr)) l → c ≤ w1.heap.size → Mod w w1 (fun i _ => i = b ∨ c ≤ i) → tagV w1 G v vl →
   W P loc N' (.ops [⟨some 0, .move (V 0), 0, none, []⟩, ⟨some 1, .nilCheck (T 0), 0, none, []⟩, ⟨some 2, .fieldAddr N.zdi (T 1) 0, 0, none, []⟩, ⟨some 3, .load N.zag (T 2), 0, none, []⟩, ⟨some 4, .move (V 1), 0, none, []⟩, ⟨some 5, .move (V 2), 0, none, []⟩,
    ⟨none, .mapUpdate N.zag (T 3) (T 4) (T 5), 0, none, []⟩]) (retQ P [] fun _ w' => ∃ m', w'.cell? ⟨b, 0, none⟩ = some m' ∧ m'.oneCell' = true ∧ TagsC w' G c m' (tput l k vl) ∧ Mod w w' fun i _ => i = b ∨ c ≤ i) σ' w1 := by
  intro σ' w1 mr l1 ha hc1 ht1 hcw1 hm1 hv1
  rcases ht1 with ⟨h, _⟩ | ⟨m1, es, ck, e1, h1, h2, h3, h4, h5, h6, h7, h8⟩
  ·cases h
  ·cases e1
   obtain ⟨w2, es', ck', hrun, hm2, hs2, g1, g2, g3, g4, g5, g6⟩ := run_setTag B hT hv1 hk h3 h4 h5 h6 h7 h8
   have e0 := ha 0 (by omega)
   have e1 := ha 1 (by omega)
   have e2 := ha 2 (by omega)
   rw [f0] at e0
   rw [f1] at e1
   rw [f2] at e2
   refine zaa fun τ => ?_
   simp +decide (disch := omega) only [bK, bE, Nat.reduceBeqDiff, BEq.rfl, Nat.reduceAdd, Nat.zero_add, e0]
   rw [zai rfl]
   simp +decide (disch := omega) only [bK, bE, Nat.reduceBeqDiff, BEq.rfl, Nat.add_zero, hHF.run, hmap.run_load1 rfl, hc1, e1, e2, zsi, hrun]
   refine ⟨.inl rfl, .tuple #[], rfl, .map (some mr), ?_, rfl, .inr ⟨mr, es', ck', rfl, h1, by omega, g1, g2, g3, ?_, g5, g6⟩, hm1.trans hm2 fun i o _ h => h.elim id fun h => .inr (by have : i = mr := h; omega)⟩
   ·rw [hm2.cell _ _ (by omega) (fun h => by have : b = mr := h; omega)]; exact hc1
   ·exact g4.mod hm2 fun i hi => ⟨by have := hG i hi; omega, fun o h => by have : i = mr := h; have := hG i hi; omega, hi⟩
 refine zd fun K hK => zd fun K1 hK1 => zaa fun τ => ?_
 simp +decide (disch := omega) only [bK, bE, BEq.rfl, Nat.reduceAdd, Nat.zero_add, f0]
 rw [zai rfl]
 have hml : ∃ mo, m = .map mo := by
  rcases htg with ⟨h, _⟩ | ⟨m1, es, ck, e1, _⟩
  ·exact ⟨_, h⟩
  ·exact ⟨_, e1⟩
 obtain ⟨mo, rfl⟩ := hml
 simp +decide (disch := omega) only [bK, bE, BEq.rfl, Nat.add_zero, hHF.run, hmap.run_load1 rfl, hc, run_eqlMap hmap.und]
 refine hK1 _ _ (zf fun σ1 hσ => ?_)
 have a1 : Ag 3 σ σ1 := fun i hi => by
  rw [hσ]
  match i, hi with
  | 0, _ => simp +decide only [bE, Nat.reduceBeqDiff, Nat.zero_add]
  | 1, _ => simp +decide only [bE, Nat.reduceBeqDiff, Nat.reduceAdd]
  | 2, _ => simp +decide only [bE, Nat.reduceBeqDiff, Nat.reduceAdd]
 have a3 := hσ 3
 simp +decide only [bE, BEq.rfl, Nat.reduceAdd] at a3
 clear hσ hK1 K1
 refine W_if hlo a3 ?_
 cases mo with
 | some mr =>
  refine zbw (hK _ _ (fin (l1 := l) a1 hc htg hcw (.refl _ _) hv))
 | none =>
  have hl : l = [] := by
   rcases htg with ⟨_, h⟩ | ⟨m1, es, ck, e1, _⟩
   ·exact h
   ·cases e1
  subst hl
  simp only [Option.isNone_none, if_true]
  have e0 := a1 0 (by omega)
  rw [f0] at e0
  have hmk : (Instr.makeMap N.zag none).run P w = .ok (.map (some w.heap.size)) (w.alloc (.map #[] 0)) := by
   simp [Instr.makeMap, newObj, Sem.run, bind, Sem.bind]
  obtain ⟨w1, hw1⟩ : ∃ w1, w1 = w.alloc (.map #[] 0) := ⟨_, rfl⟩
  have m1 : Mod w w1 zp := by rw [hw1]; exact Mod.alloc _ _ _
  have s1 : w1.heap.size = w.heap.size + 1 := by rw [hw1]; exact zan _ _
  have n1 : w1.heap[w.heap.size]? = some (.map #[] 0) := by rw [hw1]; exact zlw _ _
  have t1 : w1.there b 0 1 := m1.there hb ht
  have st := hmap.run_store1 (w := w1) (b := b) (o := 0) (v := .map (some w.heap.size)) rfl t1
  have c1 : w1.cell? ⟨b, 0, none⟩ = some (.map none) := by rw [m1.cell _ _ hb (fun h => h)]; exact hc
  refine zaa fun τ => ?_
  rw [hw1] at st
  simp +decide (disch := omega) only [bK, bE, Nat.reduceBeqDiff, BEq.rfl, Nat.zero_add, Option.map_none, e0, zvl, hmk]
  rw [zai (a := ⟨b, 0, none⟩) (by simp +decide only [bK, bE, Nat.reduceBeqDiff, BEq.rfl])]
  simp +decide (disch := omega) only [bK, bE, Nat.reduceBeqDiff, BEq.rfl, Nat.add_zero, hHF.run, st, zap, locs_envOf]
  rw [← hw1]
  have m2 : Mod w1 (w1.setCell ⟨b, 0, none⟩ (.map (some w.heap.size))) (blk b) := Mod.setCell fun _ => rfl
  have m02 : Mod w (w1.setCell ⟨b, 0, none⟩ (.map (some w.heap.size))) (fun i _ => i = b ∨ c ≤ i) := m1.trans m2 fun i o _ h => h.elim False.elim fun h => .inl h
  have s2 : (w1.setCell ⟨b, 0, none⟩ (.map (some w.heap.size))).heap.size = w1.heap.size := by simp [World.setCell]
  refine hK _ _ (fin (l1 := []) a1 (World.cell?_setCell_same _ _ _ c1) (.inr ⟨w.heap.size, #[], 0, rfl, hcw, by omega, ?_, by simp, by simp, by simp [zca], by simp, by simp⟩) (by omega) m02 ?_)
  ·rw [m2.block _ (by omega) (fun o h => by have : w.heap.size = b := h; omega)]; exact n1
  ·exact hv.mod m02 fun i hi => ⟨by have := hG i hi; omega, fun o h => by have := hG i hi; omega, hi⟩
structure TRnd (lo hi r b1 b2 : Nat) (s0 : RS) (w0 : World) (n : Nat) (σ : Env) (w : World) : Prop where
 f0 : σ 0 = .pointer (some ⟨r, 0, none⟩)
 f1 : σ 1 = .pointer (some ⟨b1, 0, none⟩)
 f2 : σ 2 = .pointer (some ⟨b2, 0, none⟩)
 f3 : σ 3 = .int .u32 n
 lt : n < 4294967296
 st : ∃ l s m, RdAt w lo hi r s ∧ zsh n l s = zsg s0 ∧ w.cell? ⟨b2, 0, none⟩ = some m ∧ m.oneCell' = true ∧ TagsC w (fun k => lo ≤ k ∧ k < hi) (b2 + 1) m l
 t1 : w.there b1 0 1
 t2 : w.there b2 0 1
 c1 : w.cell? ⟨b1, 0, none⟩ = some (.map none)
 mod : Mod w0 w (fun i _ => i = r ∨ b2 ≤ i)
 size : b2 + 1 ≤ w.heap.size
theorem tagsOk (B : Base P N) (F : Fns P N) (hN : N.zdg ≠ 0) (hT : N.zdi ≠ 0) : TagsOk P N := by
 have hF := F.internalReadTags hN
 have hU := hF.2.2.1
 have hS := hF.2.1
 have hSet := hF.2.2.2
 refine ⟨hF.1.has, fun w lo hi r s hr => hF.1.call rfl fun loc N' hlo => ?_⟩
 obtain ⟨⟨fs, htg⟩, hHF, hmap⟩ := B.tags hT
 have hrlt := hr.lt
 have hhi := hr.hi_le
 unfold zjg
 refine zd fun K hK => zaa fun τ => ?_
 simp +decide only [bK, Nat.reduceAdd, htg.run_alloc, zu, locs_envOf]
 refine hK _ _ ?_
 clear hK K
 obtain ⟨w1, hw1⟩ : ∃ w1, w1 = w.alloc (.cells (Value.cells (.agg #[.map none])) N.zdi) := ⟨_, rfl⟩
 rw [← hw1]
 have m1 : Mod w w1 zp := by rw [hw1]; exact Mod.alloc _ _ _
 have s1 : w1.heap.size = w.heap.size + 1 := by rw [hw1]; exact zan _ _
 have r1 : w1.rangeAt w.heap.size 0 [.map none] := by rw [hw1]; exact zw w _ _ _
 have t1 : w1.there w.heap.size 0 1 := by rw [hw1]; exact zbj w _ _
 clear hw1
 refine zd fun K hK => zaa fun τ => ?_
 simp +decide only [bK, Nat.reduceAdd, htg.run_alloc, zu, locs_envOf]
 refine hK _ _ ?_
 clear hK K
 obtain ⟨w2, hw2⟩ : ∃ w2, w2 = w1.alloc (.cells (Value.cells (.agg #[.map none])) N.zdi) := ⟨_, rfl⟩
 rw [← hw2]
 have m2 : Mod w1 w2 zp := by rw [hw2]; exact Mod.alloc _ _ _
 have s2 : w2.heap.size = w1.heap.size + 1 := by rw [hw2]; exact zan _ _
 have r2 : w2.rangeAt w1.heap.size 0 [.map none] := by rw [hw2]; exact zw w1 _ _ _
 have t2 : w2.there w1.heap.size 0 1 := by rw [hw2]; exact zbj w1 _ _
 clear hw2
 have m02 : Mod w w2 zp := m1.trans' m2
 have hr2 : RdAt w2 lo hi r s := hr.mod m02 (fun _ h => h) (fun _ _ _ _ h => h)
 obtain ⟨σ, hσ⟩ : ∃ σ, σ = upd (upd (zda #[.pointer (some ⟨r, 0, none⟩)]) 1 (.pointer (some ⟨w.heap.size, 0, none⟩))) 2 (.pointer (some ⟨w1.heap.size, 0, none⟩)) := ⟨_, rfl⟩
 have f0 : σ 0 = .pointer (some ⟨r, 0, none⟩) := by rw [hσ, zi (by decide), zi (by decide)]; rfl
 have f1 : σ 1 = .pointer (some ⟨w.heap.size, 0, none⟩) := by rw [hσ, zi (by decide)]; exact upd_same _ _ _
 have f2 : σ 2 = .pointer (some ⟨w1.heap.size, 0, none⟩) := by rw [hσ]; exact upd_same _ _ _
 rw [← hσ]
 clear hσ
 refine zd fun K hK => zd fun K1 hK1 => zaa fun τ => ?_
 simp +decide (disch := omega) only [bK, bE, Nat.reduceAdd, Nat.zero_add, f0]
 rw [zal (F.PReader_Uvarint hU).1.has]
 simp +decide (disch := omega) only [bK, bE, BEq.rfl]
 refine (zjt B F hU w2 lo hi r s hr2).mono ?_
 rintro v w3 ⟨rfl, hr3, hm3⟩
 simp +decide (disch := omega) only [zu, zap, locs_envOf]
 have hs3 := hm3.size
 have hlt := zqp s
 refine hK1 _ _ (zeb (zna (TRnd lo hi r w.heap.size w1.heap.size s w) (n := (uvN s).1) ⟨by rw [zi (by decide)]; exact f0, by rw [zi (by decide)]; exact f1, by rw [zi (by decide)]; exact f2, upd_same _ _ _, hlt, ⟨[], (uvN s).2, .map none, hr3, rfl, ?_, rfl, .inl ⟨rfl, rfl⟩⟩, hm3.there (by omega) (m2.there (by omega) t1), hm3.there (by omega) t2, ?_, (m02.trans hm3 fun i o _ h => h.elim False.elim .inl), by omega⟩ ?_))
 ·rw [hm3.cell _ _ (by omega) (fun h => by have : w1.heap.size = r := h; omega)]; exact r2 0 _ rfl
 ·rw [hm3.cell _ _ (by omega) (fun h => by have : w.heap.size = r := h; omega), m2.cell _ _ (by omega) (fun h => h)]; exact r1 0 _ rfl
 clear hK1 K1
 intro n σ1 w4 hI
 obtain ⟨l, s4, m, hr4, hrest, hc, hone, htc⟩ := hI.st
 have hsz4 := hI.size
 have hapr : ∀ k, lo ≤ k → k < hi → k < w.heap.size ∧ k ≠ r := fun k h1 h2 => ⟨by omega, by have := hr.apart; omega⟩
 refine zd fun K2 hK2 => zd fun K3 hK3 => zaa fun τ => ?_
 have e3 := hI.f3
 simp +decide (disch := omega) only [bK, bE, BEq.rfl, Nat.reduceAdd, e3, zu, zap, locs_envOf]
 refine hK3 _ _ (W_if hlo (upd_same _ _ _) ?_)
 clear hK3 K3
 cases n with
 | zero =>
  rw [if_neg (by simp)]
  refine zlx ?_
  simp only [zdy, inB, if_true]
  refine hK _ _ ?_
  simp only [zsh] at hrest
  obtain ⟨σ5, hσ5⟩ : ∃ σ5, σ5 = upd σ1 4 (.bool (decide (((0 : Nat) : Int) > 0))) := ⟨_, rfl⟩
  have g1 : σ5 1 = .pointer (some ⟨w.heap.size, 0, none⟩) := by rw [hσ5, zi (by decide)]; exact hI.f1
  have g2 : σ5 2 = .pointer (some ⟨w1.heap.size, 0, none⟩) := by rw [hσ5, zi (by decide)]; exact hI.f2
  have hgen : ∀ {c : C} {Q : Exit → Env → World → Prop}, W P loc N' c Q σ5 w4 → W P loc N' c Q (upd σ1 4 (.bool (decide (((0 : Nat) : Int) > 0)))) w4 := fun h => hσ5 ▸ h
  refine hgen ?_
  clear hgen hσ5
  refine zd fun K4 hK4 => zaa fun τ => ?_
  have hld := htg.run_load (w := w4) (b := w1.heap.size) (o := 0) (cs := [m]) (zfw.2 hc) rfl (fun h => by cases h)
  have hlv : ldv (.struct fs) [m] = .agg #[m] := rfl
  have hst := htg.run_store (w := w4) (b := w.heap.size) (o := 0) (v := .agg #[m]) (cs := [m]) rfl rfl hI.t1 (fun c hc => by simp at hc; subst hc; exact hone)
  simp +decide (disch := omega) only [bK, bE, Nat.reduceBeqDiff, BEq.rfl, Nat.reduceAdd, g1, g2, hld, hlv, hst]
  refine hK4 _ _ (zf fun σ6 hσ => zbx ⟨.inr rfl, .agg #[m], ⟨⟨w.heap.size, 0, none⟩, ?_, ?_⟩, ?_⟩)
  ·have := hσ 1
   simp +decide only [bE, Nat.reduceBeqDiff, Nat.reduceAdd, g1] at this
   exact this
  ·have h2 := zak [m] 0 w4 _ (zfw.2 hI.c1) (Nat.le_refl _)
   have hl2 := htg.run_load (w := w4.setCells w.heap.size 0 [m]) (b := w.heap.size) (o := 0) (cs := [m]) (by simpa using h2) rfl (fun h => by cases h)
   simpa [Instr.loadAt, Instr.sureAddr, Sem.run_bind, hlv] using hl2
  ·have m5 : Mod w4 (w4.setCells w.heap.size 0 [m]) (blk w.heap.size) := Mod.setCells _ 0 _ fun _ _ _ _ => rfl
   have s5 : (w4.setCells w.heap.size 0 [m]).heap.size = w4.heap.size := by simp [World.setCells, World.setCell]
   have hs0 := hI.mod.size
   rw [← hrest]
   refine ⟨m, rfl, hone, ?_, hr4.mod m5 (fun o h => by have : r = w.heap.size := h; omega) (fun k o h1 h2 h => by have : k = w.heap.size := h; omega), ?_⟩
   ·rcases htc with ⟨e1, e2⟩ | ⟨mm, es, ck, e1, h1, h2, h3, h4, h5, h6, h7, h8⟩
    ·exact .inl ⟨e1, e2⟩
    ·refine .inr ⟨mm, es, ck, e1, .inr ⟨by omega, by omega⟩, ?_, h4, h5, ?_, h7, h8⟩
     ·rw [m5.block _ h2 (fun o h => by have : mm = w.heap.size := h; omega)]; exact h3
     ·exact h6.mod m5 fun k hk => ⟨by omega, fun o h => by have : k = w.heap.size := h; omega, .inl hk⟩
   ·refine (hI.mod.trans m5 (M := fun i _ => i = r ∨ w.heap.size ≤ i) fun i o _ h => h.elim (fun h => h.imp id fun h => by omega) (fun h => .inr (by have : i = w.heap.size := h; omega))).mono fun i o hi h => h.elim id fun h => by omega
 | succ n =>
  rw [show decide (((n + 1 : Nat) : Int) > 0) = true from by simp, if_pos rfl]
  refine zbw (hK2 _ _ ?_)
  clear hK2 K2
  obtain ⟨σ5, hσ5⟩ : ∃ σ5, σ5 = upd σ1 4 (.bool true) := ⟨_, rfl⟩
  have g0 : σ5 0 = .pointer (some ⟨r, 0, none⟩) := by rw [hσ5, zi (by decide)]; exact hI.f0
  have g1 : σ5 1 = .pointer (some ⟨w.heap.size, 0, none⟩) := by rw [hσ5, zi (by decide)]; exact hI.f1
  have g2 : σ5 2 = .pointer (some ⟨w1.heap.size, 0, none⟩) := by rw [hσ5, zi (by decide)]; exact hI.f2
  have g3 : σ5 3 = .int .u32 ((n + 1 : Nat) : Int) := by rw [hσ5, zi (by decide)]; exact hI.f3
  rw [← hσ5]
  clear hσ5
  refine zd fun K2 hK2 => zeb (zd fun K3 hK3 => zaa fun τ => ?_)
  simp +decide (disch := omega) only [bK, bE, Nat.reduceBeqDiff, Nat.reduceAdd, Nat.zero_add, g0]
  rw [zal (F.PReader_Uvarint hU).1.has]
  simp +decide (disch := omega) only [bK, bE, Nat.reduceBeqDiff, BEq.rfl]
  refine (zjt B F hU w4 lo hi r s4 hr4).mono ?_
  rintro v w5 ⟨rfl, hr5, hm5⟩
  simp +decide (disch := omega) only [g0]
  rw [zal (F.PReader_Uvarint hU).1.has]
  simp +decide (disch := omega) only [bK, bE, Nat.reduceBeqDiff, BEq.rfl]
  refine (zjt B F hU w5 lo hi r _ hr5).mono ?_
  rintro v w6 ⟨rfl, hr6, hm6⟩
  simp +decide (disch := omega) only []
  refine hK3 _ _ (zf fun σ6 hσ => ?_)
  have p0 := hσ 0
  have p1 := hσ 1
  have p2 := hσ 2
  have p3 := hσ 3
  have p5 := hσ 5
  have p6 := hσ 6
  simp +decide only [bE, Nat.reduceBeqDiff, BEq.rfl, Nat.reduceAdd, Nat.zero_add, g0, g1, g2, g3] at p0 p1 p2 p3 p5 p6
  clear hσ hK3 K3
  have hklt := zqp s4
  have hzlt := zqp (uvN s4).2
  refine zaa fun τ => ?_
  have e1 : IntKind.i64.wrap ((uvN (uvN s4).2).1 : Int) = ((uvN (uvN s4).2).1 : Int) := wrap_i64 (by omega) (by omega)
  simp +decide (disch := omega) only [bK, bE, Nat.reduceBeqDiff, BEq.rfl, Nat.reduceAdd, Nat.zero_add, p0, p5, p6, zck B.uint32 B.int ⟨_, rfl⟩, e1]
  rw [zcs (F.PReader_Span hS).has]
  simp +decide (disch := omega) only [bK, bE, Nat.reduceBeqDiff, BEq.rfl]
  refine (zos B F hS (n := ((uvN (uvN s4).2).1 : Int)) hr6).mono ?_
  rintro v w7 ⟨hb7, hr7, hm7⟩
  rw [zjr (F.PTags_Set hSet).has]
  simp +decide (disch := omega) only [bK, bE, Nat.reduceBeqDiff, BEq.rfl, Nat.reduceAdd, p2]
  have hm47 : Mod w4 w7 (blk r) := (hm5.trans' hm6).trans' hm7
  have hs7 := hm47.size
  have hc7 : w7.cell? ⟨w1.heap.size, 0, none⟩ = some m := by rw [hm47.cell _ _ (by omega) (fun h => by have : w1.heap.size = r := h; omega)]; exact hc
  have htc7 : TagsC w7 (fun k => lo ≤ k ∧ k < hi) (w1.heap.size + 1) m l := by
   rcases htc with h | ⟨mm, es, ck, e1, h1, h2, h3, h4, h5, h6, h7, h8⟩
   ·exact .inl h
   ·refine .inr ⟨mm, es, ck, e1, h1, by omega, ?_, h4, h5, ?_, h7, h8⟩
    ·rw [hm47.block _ h2 (fun o h => by have : mm = r := h; omega)]; exact h3
    ·exact h6.mod hm47 fun k hk => ⟨by omega, fun o h => (hapr k hk.1 hk.2).2 h, hk⟩
  have hv7 : tagV w7 (fun k => lo ≤ k ∧ k < hi) v (zee ((uvN (uvN s4).2).1 : Int) (uvN (uvN s4).2).2) := by
   rcases hb7 with ⟨h0, h1, h2⟩ | ⟨b, o, c, h0, h1, h2, h3, h4⟩
   ·exact .inl ⟨h2, _, _, h1⟩
   ·exact .inr ⟨b, o, c, h1, h2, h3, h4⟩
  refine (call_Set B F hSet hT (c := w1.heap.size + 1) hc7 (hm47.there (by omega) hI.t2) htc7 (by omega) (by omega) (fun i hi => by omega) hv7 hklt).mono ?_
  rintro _ w8 ⟨m', hc8, hone8, htc8, hm8⟩
  have hs8 := hm8.size
  refine zf (K := fun σ' w' => inB 1 (zdy K2 _) .normal σ' w') fun σ8 hσ => hK2 _ _ ?_
  have q0 := hσ 0
  have q1 := hσ 1
  have q2 := hσ 2
  have q3 := hσ 3
  simp +decide only [bE, Nat.reduceBeqDiff, Nat.reduceAdd, Nat.zero_add, p0, p1, p2, p3] at q0 q1 q2 q3
  clear hσ hK2 K2
  refine zaa fun τ => ?_
  have hw : IntKind.u32.wrap (((n + 1 : Nat) : Int) - 1) = (n : Int) := by
   have := hI.lt
   rw [show (((n + 1 : Nat) : Int) - 1) = ((n : Nat) : Int) by omega]
   exact zhg n (by omega)
  simp +decide (disch := omega) only [bK, bE, BEq.rfl, Nat.reduceAdd, q3, hw, zu, zap, locs_envOf]
  have hm48 : Mod w4 w8 (fun i _ => i = r ∨ w1.heap.size ≤ i) := hm47.trans hm8 fun i o _ h => h.elim (fun h => .inl h) fun h => .inr (by omega)
  refine ⟨n, by omega, by rw [zi (by decide)]; exact q0, by rw [zi (by decide)]; exact q1, by rw [zi (by decide)]; exact q2, upd_same _ _ _, by have := hI.lt; omega,
   ⟨_, _, m', hr7.mod hm8 (fun o h => by omega) (fun k o h1 h2 h => by omega), hrest, hc8, hone8, htc8⟩, hm48.there (by omega) hI.t1, hm48.there (by omega) hI.t2, ?_, hI.mod.trans' hm48, by omega⟩
  rw [hm48.cell _ _ (by omega) (fun h => by omega)]
  exact hI.c1
end
def dEq : TypeDesc → TypeDesc → Bool
 | .int a, .int b => decide (a = b)
 | .bool, .bool => true
 | .string, .string => true
 | .slice a, .slice b => Nat.beq a b
 | .pointer a, .pointer b => Nat.beq a b
 | .map a b, .map c d => Nat.beq a c && Nat.beq b d
 | .array a b, .array c d => Nat.beq a c && Nat.beq b d
 | _, _ => false
theorem dEq_ok {a b : TypeDesc} (h : dEq a b = true) : a = b := by
 cases a <;> cases b <;> simp_all [dEq]
def vEq1 : Value → Value → Bool
 | .int a n, .int b m => decide (a = b) && decide (n = m)
 | .bool a, .bool b => a == b
 | .string a, .string b => decide (a.data = #[]) && decide (b.data = #[])
 | .slice none 0 0, .slice none 0 0 => true
 | .pointer none, .pointer none => true
 | .map none, .map none => true
 | .nilIface, .nilIface => true
 | _, _ => false
theorem vEq1_ok {a b : Value} (h : vEq1 a b = true) : a = b := by
 unfold vEq1 at h
 split at h
 ·simp at h; rw [h.1, h.2]
 ·simp at h; rw [h]
 ·rename_i a b
  simp at h
  obtain ⟨a⟩ := a
  obtain ⟨b⟩ := b
  simp at h
  rw [h.1, h.2]
 ·rfl
 ·rfl
 ·rfl
 ·rfl
 ·cases h
def vEqL : List Value → List Value → Bool
 | [], [] => true
 | a :: l, b :: m => vEq1 a b && vEqL l m
 | _, _ => false
theorem vEqL_ok : ∀ {l m : List Value}, vEqL l m = true → l = m
 | [], [], _ => rfl
 | a :: l, b :: m, h => by
  simp only [vEqL, Bool.and_eq_true] at h
  rw [vEq1_ok h.1, vEqL_ok h.2]
 | [], _ :: _, h => by simp [vEqL] at h
 | _ :: _, [], h => by simp [vEqL] at h
def vEq : Value → Value → Bool
 | .agg a, .agg b => vEqL a.toList b.toList
 | a, b => vEq1 a b
theorem vEq_ok {a b : Value} (h : vEq a b = true) : a = b := by
 unfold vEq at h
 split at h
 ·have := vEqL_ok h
  rw [Array.toList_inj] at this
  rw [this]
 ·exact vEq1_ok h
def infoB (P : Program) (t : TypeId) (sz by' : Nat) (z : Value) : Bool :=
 match P.info? t with
 | some i => Nat.beq i.size sz && Nat.beq i.bytes by' && (match i.zero with | some z' => vEq z' z | none => false)
 | none => false
theorem zql {P : Program} {t : TypeId} {sz by' : Nat} {z : Value} (h : infoB P t sz by' z = true) : ∃ i, P.info? t = some i ∧ i.size = sz ∧ i.bytes = by' ∧ i.zero = some z := by
 unfold infoB at h
 split at h
 ·rename_i i hi
  simp only [Bool.and_eq_true] at h
  obtain ⟨⟨h1, h2⟩, h3⟩ := h
  refine ⟨i, hi, by simpa using h1, by simpa using h2, ?_⟩
  split at h3
  ·rename_i z' hz; rw [hz, vEq_ok h3]
  ·cases h3
 ·cases h
def tiB (P : Program) (t : TypeId) (d : TypeDesc) (sz by' : Nat) (z : Value) : Bool :=
 (match P.underlying t with | some d' => dEq d' d | none => false) && infoB P t sz by' z
theorem zhl {P : Program} {t : TypeId} {d : TypeDesc} {sz by' : Nat} {z : Value} (h : tiB P t d sz by' z = true) : TI P t d sz by' z := by
 unfold tiB at h
 rw [Bool.and_eq_true] at h
 refine ⟨?_, zql h.2⟩
 have h1 := h.1
 split at h1
 ·rename_i d' hd; rw [hd, dEq_ok h1]
 ·cases h1
def tsB (P : Program) (t : TypeId) (sz by' : Nat) (z : Value) : Bool :=
 (match P.underlying t with | some (.struct _) => true | _ => false) && infoB P t sz by' z
theorem tsB_ok {P : Program} {t : TypeId} {sz by' : Nat} {z : Value} (h : tsB P t sz by' z = true) : ∃ fs, TI P t (.struct fs) sz by' z := by
 unfold tsB at h
 rw [Bool.and_eq_true] at h
 have h1 := h.1
 split at h1
 ·rename_i fs hfs; exact ⟨fs, hfs, zql h.2⟩
 ·cases h1
def hfB (P : Program) (t : TypeId) (k off : Nat) : Bool :=
 match P.underlying t with
 | some (.struct fs) => (match fs[k]? with
  | some f => Nat.beq f.offset off && (match P.info? f.type with | some i => !Nat.beq i.size 0 | none => false)
  | none => false)
 | _ => false
theorem ztd {P : Program} {t : TypeId} {k off : Nat} (h : hfB P t k off = true) : HF P t k off := by
 unfold hfB at h
 split at h
 ·rename_i fs hfs
  split at h
  ·rename_i f hf
   rw [Bool.and_eq_true] at h
   have h2 := h.2
   split at h2
   ·rename_i i hi
    exact ⟨fs, f, i, hfs, hf, by simpa using h.1, hi, fun e => by rw [e] at h2; cases h2⟩
   ·cases h2
  ·cases h
 ·cases h
def placesB (P : Program) (t : TypeId) (l : List (Nat × Nat)) : Bool :=
 match P.underlying t with
 | some (.struct fs) => (match fs.toList.mapM (fun f => (P.info? f.type).map fun i => (f.offset, i.size)) with
  | some l' => decide (l' = l)
  | none => false)
 | _ => false
def sfB (P : Program) (t : TypeId) (places : List (Nat × Nat)) (by' : Nat) (z : List Value) : Bool := tsB P t z.length by' (.agg z.toArray) && placesB P t places
theorem sfB_ok {P : Program} {t : TypeId} {places : List (Nat × Nat)} {by' : Nat} {z : List Value} (h : sfB P t places by' z = true) : SF P t places by' z := by
 unfold sfB at h
 rw [Bool.and_eq_true] at h
 obtain ⟨fs, ht⟩ := tsB_ok h.1
 refine ⟨fs, ht, ?_⟩
 have h2 := h.2
 unfold placesB at h2
 rw [ht.und] at h2
 simp only at h2
 split at h2
 ·rename_i l' hl; rw [hl]; simpa using h2
 ·cases h2
def ifB (n : Nat) (b : Bool) : Bool := Nat.beq n 0 || b
theorem ztc {n : Nat} {b : Bool} (h : ifB n b = true) (hn : n ≠ 0) : b = true := by
 unfold ifB at h
 rw [Bool.or_eq_true] at h
 rcases h with h | h
 ·exact absurd (by simpa using h) hn
 ·exact h
def errB (P : Program) (t : TypeId) : Bool := (match P.underlying t with | some (.interface _) => true | _ => false) && infoB P t 1 16 .nilIface
theorem errB_ok {P : Program} {t : TypeId} (h : errB P t = true) : ∃ ms, TI P t (.interface ms) 1 16 .nilIface := by
 unfold errB at h
 rw [Bool.and_eq_true] at h
 have h1 := h.1
 split at h1
 ·rename_i fs hfs; exact ⟨fs, hfs, zql h.2⟩
 ·cases h1
def bigB (P : Program) (t : TypeId) : Bool := (match P.underlying t with | some (.struct fs) => decide (fs.size = 0) | _ => false) && infoB P t 0 0 (.agg #[])
theorem bigB_ok {P : Program} {t : TypeId} (h : bigB P t = true) : TI P t (.struct #[]) 0 0 (.agg #[]) := by
 unfold bigB at h
 rw [Bool.and_eq_true] at h
 have h1 := h.1
 split at h1
 ·rename_i fs hfs
  have : fs = #[] := Array.eq_empty_of_size_eq_zero (by simpa using h1)
  subst this
  exact ⟨hfs, zql h.2⟩
 ·cases h1
def base1B (P : Program) (N : Nums) : Bool :=
 ifB N.zih (tiB P N.zih (.int .i8) 1 1 (.int .i8 0)) && (tiB P N.zce (.int .i16) 1 2 (.int .i16 0) && (tiB P N.zcr (.int .i32) 1 4 (.int .i32 0) && (tiB P N.zbe (.int .i64) 1 8 (.int .i64 0) && (tiB P N.ze (.int .i64) 1 8 (.int .i64 0) &&
 (tiB P N.zx (.int .u8) 1 1 (.int .u8 0) && (tiB P N.zfj (.int .u16) 1 2 (.int .u16 0) && (tiB P N.zj (.int .u32) 1 4 (.int .u32 0) && (tiB P N.zar (.int .u64) 1 8 (.int .u64 0) && tiB P N.zah .bool 1 1 (.bool false)))))))))
def base2B (P : Program) (N : Nums) : Bool :=
 tiB P N.zau .string 1 16 (.string ⟨#[]⟩) && (tiB P N.za (.slice N.zx) 1 24 (.slice none 0 0) && (bigB P N.zbk && (errB P N.zgi && (sfB P N.zac [(0, 1), (1, 1)] 32 [.slice none 0 0, .bool false] && (hfB P N.zac 0 0 && (hfB P N.zac 1 1 &&
 (ifB N.zbm (tiB P N.zbm (.array 16 N.zx) 16 16 (.agg (Array.replicate 16 (.int .u8 0)))) && (ifB N.zcb (tiB P N.zcb (.pointer N.zau) 1 8 (.pointer none)) &&
 (ifB N.zdi (tsB P N.zdi 1 8 (.agg #[.map none])) && (ifB N.zdi (hfB P N.zdi 0 0) && ifB N.zdi (tiB P N.zag (.map N.zj N.za) 1 8 (.map none))))))))))))
theorem base_ok {P : Program} {N : Nums} (hm : P.follows .mixedOrders = true) (h1 : base1B P N = true) (h2 : base2B P N = true) : Base P N := by
 unfold base1B at h1
 unfold base2B at h2
 simp only [Bool.and_eq_true] at h1 h2
 obtain ⟨a1, a2, a3, a4, a5, a6, a7, a8, a9, a10⟩ := h1
 obtain ⟨b1, b2, b3, b4, b5, b6, b7, b8, b9, b10, b11, b12⟩ := h2
 exact { mixed := hm, int8 := fun h => zhl (ztc a1 h), int16 := zhl a2, int32 := zhl a3, int64 := zhl a4, int := zhl a5, uint8 := zhl a6, uint16 := zhl a7, uint32 := zhl a8, uint64 := zhl a9, bool := zhl a10, string := zhl b1, Lu8 := zhl b2, big := bigB_ok b3, error := .inr (errB_ok b4), reader := sfB_ok b5, reader0 := ztd b6, reader1 := ztd b7, uuid := fun h => zhl (ztc b8 h), pstring := fun h => zhl (ztc b9 h), tags := fun h => ⟨tsB_ok (ztc b10 h), ztd (ztc b11 h), zhl (ztc b12 h)⟩ }
def dB (k : PK) : Option Value → Bool
 | none => true
 | some d => k.isSg && d.oneCell'
def lenB (N : Nums) (fx : Bool) : Bool := !Nat.beq N.zcl 0 && !Nat.beq N.zeq 0 && !Nat.beq N.zay 0 && (!fx || !Nat.beq N.zbo 0)
def PK.enB (P : Program) : PK → Bool
 | .en t => tiB P t (.int .i8) 1 1 (.int .i8 0)
 | _ => true
def prB (P : Program) (N : Nums) (k : PK) : Bool := (!Nat.beq (k.f N) 0 && (k != .uuid || !Nat.beq N.zbm 0)) && (k.enB P && (!k.is8 || !Nat.beq N.zih 0))
def txB (N : Nums) (fx : Bool) (k : Txt) : Bool := (k.fns N fx).all (fun f => !Nat.beq f 0) && (k != .nstr || !Nat.beq N.zcb 0)
def bytesOf (P : Program) (t : TypeId) : Nat := match P.info? t with | some i => i.bytes | none => 0
mutual
def Ty.noD : Ty → Bool
 | .pr _ d => d.isNone
 | .row _ _ _ fs => fs.noD
 | _ => true
def Fds.noD : Fds → Bool
 | .cons _ t r => t.noD && r.noD
 | _ => true
end
section
variable (P : Program) (N : Nums) (fx : Bool)
mutual
def Ty.okB : Ty → Bool
 | .pr k d => prB P N k && dB k d
 | .txt k => txB N fx k
 | .arr st _ e => tiB P st (.slice (e.ty N)) 1 24 (.slice none 0 0) && (lenB N fx && e.okB)
 | .row T _ _ fs => Nat.blt 0 fs.sz && (fs.noD && fs.okB T 0 0)
 | .tv _ => txB N fx .str && txB N fx .nstr
def El.okB : El → Bool
 | .pr k => prB P N k && !k.isEn
 | .txt k => txB N fx k
 | .row T _ _ fs => tsB P T fs.sz (bytesOf P T) (.agg fs.zero.toArray) && (Nat.ble (bytesOf P T) 131072 && (Nat.blt 0 fs.sz && fs.okB T 0 0))
def Fds.okB (Tt : TypeId) : Fds → Nat → Nat → Bool
 | .nil, _, _ => true
 | .tags, idx, off => fx && (hfB P Tt idx off && (!Nat.beq N.zdi 0 && !Nat.beq N.zdg 0))
 | .cons _ t r, idx, off => hfB P Tt idx off && (t.okB && r.okB Tt (idx + 1) (off + t.sz))
end
end
section
variable (P : Program) (N : Nums)
mutual
def Ty.dfs : Ty → Prop
 | .arr _ _ e => e.dfs
 | .row T _ f fs => FOk P f 1 (seqs (fs.dfl N T 0)) [] ∧ fs.dfs
 | _ => True
def El.dfs : El → Prop
 | .row T _ f fs => FOk P f 1 (seqs (fs.dfl N T 0)) [] ∧ fs.dfs
 | _ => True
def Fds.dfs : Fds → Prop
 | .cons _ t r => t.dfs ∧ r.dfs
 | _ => True
end
end
theorem nbeq {n : Nat} (h : (!Nat.beq n 0) = true) : n ≠ 0 := fun e => by rw [e] at h; cases h
section
variable {P : Program} {N : Nums} {fx : Bool}
theorem prB_ok {k : PK} (h : prB P N k = true) : k.f N ≠ 0 ∧ k.nt N ∧ ∀ t, k = .en t → TI P t (.int .i8) 1 1 (.int .i8 0) := by
 unfold prB at h
 simp only [Bool.and_eq_true, Bool.or_eq_true] at h
 obtain ⟨⟨h1, h2⟩, hen, h8⟩ := h
 refine ⟨nbeq h1, ⟨fun e => ?_, fun e => ?_⟩, fun t e => by subst e; exact zhl hen⟩
 ·rcases h2 with h2 | h2
  ·subst e; simp at h2
  ·exact nbeq h2
 ·rcases h8 with h8 | h8
  ·rw [e] at h8; cases h8
  ·exact nbeq h8
theorem txB_ok {k : Txt} (h : txB N fx k = true) : (∀ f ∈ k.fns N fx, f ≠ 0) ∧ (k = .nstr → N.zcb ≠ 0) := by
 unfold txB at h
 rw [Bool.and_eq_true, Bool.or_eq_true, List.all_eq_true] at h
 refine ⟨fun f hf => nbeq (h.1 f hf), fun e => ?_⟩
 rcases h.2 with h2 | h2
 ·subst e; simp at h2
 ·exact nbeq h2
theorem dB_ok {k : PK} {d : Option Value} (h : dB k d = true) : (d.getD k.zero).cells.toList.length = k.sz ∧ ∀ x, d = some x → k.isSg = true ∧ x.oneCell' = true := by
 cases d with
 | none => exact ⟨zha k, fun x hx => by cases hx⟩
 | some d =>
  simp only [dB, Bool.and_eq_true] at h
  refine ⟨?_, fun x hx => by cases hx; exact h⟩
  simp only [Option.getD_some]
  rw [zcn h.2, pk_sz h.1]; rfl
theorem pk_bytes (B : Base P N) {k : PK} (hu : k.nt N) (he : ∀ t, k = .en t → TI P t (.int .i8) 1 1 (.int .i8 0)) : ∃ d by', TI P (k.t N) d k.sz by' k.zero ∧ by' ≤ 131072 := by
 cases k with
 | bool => exact ⟨_, _, B.bool, by decide⟩
 | i8 => exact ⟨_, _, B.int8 (hu.2 rfl), by decide⟩
 | i16 => exact ⟨_, _, B.int16, by decide⟩
 | u16 => exact ⟨_, _, B.uint16, by decide⟩
 | i32 => exact ⟨_, _, B.int32, by decide⟩
 | i64 => exact ⟨_, _, B.int64, by decide⟩
 | uuid => exact ⟨_, _, B.uuid (hu.1 rfl), by decide⟩
 | en t => exact ⟨_, _, he t rfl, by decide⟩
theorem tx_bytes (B : Base P N) {k : Txt} (hp : k = .nstr → N.zcb ≠ 0) : ∃ d by', TI P (k.t N) d 1 by' k.zero ∧ by' ≤ 131072 := by
 cases k with
 | str => exact ⟨_, _, B.string, by decide⟩
 | nstr => exact ⟨_, _, B.pstring (hp rfl), by decide⟩
 | byt => exact ⟨_, _, B.Lu8, by decide⟩
 | nbyt => exact ⟨_, _, B.Lu8, by decide⟩
def ElT (P : Program) (N : Nums) (e : El) : Prop := (∃ d by' z, TI P (e.ty N) d e.sz by' z ∧ z.cells.toList = e.zero ∧ by' ≤ 131072) ∧ 0 < e.sz ∧ e.zero.length = e.sz
mutual
theorem Ty.noD_zero : ∀ (t : Ty), t.noD = true → t.zero = t.ini
 | .pr k none, _ => rfl
 | .pr k (some d), h => by simp [Ty.noD] at h
 | .txt _, _ => rfl
 | .arr .., _ => rfl
 | .row _ _ _ fs, h => Fds.noD_zero fs h
 | .tv _, _ => rfl
theorem Fds.noD_zero : ∀ (fs : Fds), fs.noD = true → fs.zero = fs.ini
 | .nil, _ => rfl
 | .tags, _ => rfl
 | .cons _ t r, h => by
  simp only [Fds.noD, Bool.and_eq_true] at h
  simp only [Fds.zero, Fds.ini]
  rw [Ty.noD_zero t h.1, Fds.noD_zero r h.2]
end
mutual
theorem Ty.ok_of (B : Base P N) (F : Fns P N) : ∀ (t : Ty), t.okB P N fx = true → t.dfs P N → TyOk P N fx t ∧ t.dok
 | .pr k d, h, _ => by
  simp only [Ty.okB, Bool.and_eq_true] at h
  obtain ⟨h1, h2, h3⟩ := prB_ok h.1
  exact ⟨tyOk_pr B F h1 h2 h3 (dB_ok h.2).1, (dB_ok h.2).1⟩
 | .txt k, h, _ => by
  simp only [Ty.okB] at h
  obtain ⟨h1, h2⟩ := txB_ok h
  exact ⟨tyOk_txt B F h1 h2, trivial⟩
 | .arr st nul e, h, hd => by
  simp only [Ty.okB, Bool.and_eq_true, lenB, Bool.or_eq_true] at h
  obtain ⟨h1, ⟨⟨⟨⟨l1, l2⟩, l3⟩, l4⟩, h3⟩⟩ := h
  obtain ⟨he, ht, hs, hz⟩ := El.ok_of B F e h3 hd
  refine ⟨tyOk_arr B F nul ⟨zhl h1, ht, hs, hz, nbeq l1, nbeq l2, nbeq l3⟩ (fun e => ?_) he, trivial⟩
  rcases l4 with l4 | l4
  ·rw [e] at l4; cases l4
  ·exact nbeq l4
 | .tv k, h, _ => by
  simp only [Ty.okB, Bool.and_eq_true] at h
  obtain ⟨h1, h2⟩ := txB_ok h.1
  obtain ⟨h3, h4⟩ := txB_ok h.2
  exact ⟨tyOk_tv B F h1 h3 (h4 rfl), trivial⟩
 | .row T pT f fs, h, hd => by
  simp only [Ty.okB, Bool.and_eq_true] at h
  obtain ⟨h1, h2, h3⟩ := h
  obtain ⟨g1, g2, g3, g4⟩ := Fds.ok_of B F fs h3 hd.2
  exact ⟨tyOk_row (dfOk B hd.1 g4 g2) g1 g2 (Fds.noD_zero fs h2), g3⟩
theorem El.ok_of (B : Base P N) (F : Fns P N) : ∀ (e : El), e.okB P N fx = true → e.dfs P N → ElOk P N fx e ∧ ElT P N e
 | .pr k, h, _ => by
  simp only [El.okB, Bool.and_eq_true, Bool.not_eq_true'] at h
  obtain ⟨h1, h2, h3⟩ := prB_ok h.1
  obtain ⟨d, by', ht, hb⟩ := pk_bytes B h2 h3
  exact ⟨elOk_pr B F h1 h2 h.2 (zha k), ⟨d, by', _, ht, rfl, hb⟩, by cases k <;> exact Nat.succ_pos _, zha k⟩
 | .txt k, h, _ => by
  simp only [El.okB] at h
  obtain ⟨h1, h2⟩ := txB_ok h
  obtain ⟨d, by', ht, hb⟩ := tx_bytes B h2
  exact ⟨elOk_txt B F h1 h2, ⟨d, by', _, ht, by cases k <;> rfl, hb⟩, Nat.one_pos, rfl⟩
 | .row T pT f fs, h, hd => by
  simp only [El.okB, Bool.and_eq_true] at h
  obtain ⟨h1, h2, h3, h4⟩ := h
  obtain ⟨fs', ht⟩ := tsB_ok h1
  obtain ⟨g1, g2, g3, g4⟩ := Fds.ok_of B F fs h4 hd.2
  have hdf := dfOk B hd.1 g4 g2
  exact ⟨elOk_row ht hdf g1 g2, ⟨_, _, _, ht, by simp [Value.cells, El.zero], by simpa using h2⟩, by simpa [El.sz] using h3, Fds.zero_length fs⟩
theorem Fds.ok_of (B : Base P N) (F : Fns P N) : ∀ (fs : Fds) {Tt : TypeId} {idx off : Nat}, fs.okB P N fx Tt idx off = true → fs.dfs P N → zvb P N fx fs ∧ fs.hf P Tt idx off ∧ fs.dok ∧ fs.plain N
 | .nil, _, _, _, _, _ => ⟨fdsOk_nil, trivial, trivial, trivial⟩
 | .tags, Tt, idx, off, h, _ => by
  simp only [Fds.okB, Bool.and_eq_true] at h
  obtain ⟨h1, h2, h3, h4⟩ := h
  subst h1
  exact ⟨fdsOk_tags B (nbeq h3) (tagsOk B F (nbeq h4) (nbeq h3)), ztd h2, trivial, trivial⟩
 | .cons g t r, Tt, idx, off, h, hd => by
  simp only [Fds.okB, Bool.and_eq_true] at h
  obtain ⟨h1, h2, h3⟩ := h
  obtain ⟨g1, g2⟩ := Ty.ok_of B F t h2 hd.1
  obtain ⟨k1, k2, k3, k4⟩ := Fds.ok_of B F r h3 hd.2
  refine ⟨fdsOk_cons g1 g2 k1, ⟨ztd h1, k2⟩, ⟨g2, k3⟩, ?_⟩
  cases t with
  | pr k d =>
   cases d with
   | none => exact k4
   | some d =>
    simp only [Ty.okB, Bool.and_eq_true] at h2
    obtain ⟨a, b⟩ := (dB_ok h2.2).2 d rfl
    exact ⟨⟨a, (prB_ok h2.1).2.1⟩, b, k4⟩
  | txt k => exact k4
  | arr st nul e => exact k4
  | tv k => exact k4
  | row T' pT f fs =>
   simp only [Ty.okB, Bool.and_eq_true] at h2
   exact ⟨Fds.noD_zero fs h2.2.1, k4⟩
end
theorem msgT_of (B : Base P N) (F : Fns P N) {m : Msg} (h : m.fs.okB P N fx m.tT 1 1 = true) (h0 : hfB P m.tT 0 0 = true) (hc : (!Nat.beq N.zay 0) = true) (hd : m.fs.dfs P N) (hD : FOk P m.dflt 1 (seqs (m.fs.dfl N m.tT 1)) []) : MsgT P N m fx := by
 obtain ⟨k1, k2, k3, k4⟩ := Fds.ok_of B F m.fs h hd
 exact ⟨k2, ztd h0, k4, hD, k1, nbeq hc⟩
end
def anyC (P : Program) (Cw : World → Prop) (l : List ROp) (rd : Nat → Bool) (K : Env → World → Prop) : Nat → List Nat → Env → World → Prop
 | 0, _, ρ, w => K ρ w
 | f + 1, C, ρ, w => ∀ i, readyP l C i → zbn P (l.getD i default) ρ w fun ρ w => (znl l rd i = true ∨ Cw w) ∧ anyC P Cw l rd K f (C.erase i) ρ w
def pairB2 (l : List ROp) (rd : Nat → Bool) (i j : Nat) : Bool :=
 match (l.getD i default).dst with
 | none => true
 | some d =>
  if i == j then !(zfm (l.getD j default)).contains d
  else (match (l.getD j default).dst with | some d' => !(Nat.beq d' d) | none => true) &&
   (!(zfm (l.getD j default)).contains d || ((l.getD j default).after.contains i && (!rd j || rd i)))
def znj (l : List ROp) (rd : Nat → Bool) : Bool :=
 zry l && l.all (fun r => !zxr r.op) && (List.range l.length).all fun i => (List.range l.length).all fun j => pairB2 l rd i j
section
variable {P : Program} {l : List ROp} {rd : Nat → Bool}
theorem zvw (h : znj l rd = true) {i : Nat} (hi : i < l.length) : zxr (l.getD i default).op = false := by
 unfold znj at h
 simp only [Bool.and_eq_true, List.all_eq_true] at h
 have := h.1.2 l[i] (List.getElem_mem hi)
 simpa [List.getD, hi] using this
theorem zpb (h : znj l rd = true) : zry l = true := by
 unfold znj at h
 simp only [Bool.and_eq_true] at h
 exact h.1.1
theorem zxo (h : znj l rd = true) {i j d : Nat} (hi : i < l.length) (hj : j < l.length) (hd : (l.getD i default).dst = some d) :
  (i = j → d ∉ zfm (l.getD j default)) ∧ (i ≠ j → (l.getD j default).dst ≠ some d ∧ (d ∈ zfm (l.getD j default) → i ∈ (l.getD j default).after ∧ (rd j = true → rd i = true))) := by
 have h1 : pairB2 l rd i j = true := by
  unfold znj at h
  rw [Bool.and_eq_true, List.all_eq_true] at h
  have h1 := h.2 i (List.mem_range.2 hi)
  rw [List.all_eq_true] at h1
  exact h1 j (List.mem_range.2 hj)
 unfold pairB2 at h1
 rw [hd] at h1
 simp only at h1
 refine ⟨fun e => ?_, fun e => ?_⟩
 ·have : (i == j) = true := by simpa using e
  rw [this] at h1; simpa using h1
 ·have : (i == j) = false := by simpa using e
  rw [this] at h1
  simp only [Bool.false_eq_true, if_false, Bool.and_eq_true] at h1
  refine ⟨fun hc => ?_, fun hm => ?_⟩
  ·rw [hc] at h1; simp at h1
  ·have h2 := h1.2
   simp only [Bool.or_eq_true, Bool.not_eq_true', List.contains_eq_mem, decide_eq_true_eq, Bool.and_eq_true, decide_eq_false_iff_not] at h2
   rcases h2 with h2 | h2
   ·exact absurd hm h2
   ·refine ⟨h2.1, fun hr => ?_⟩
    rcases h2.2 with h3 | h3
    ·rw [hr] at h3; cases h3
    ·exact h3
theorem znh (hp : znj l rd = true) {Cw : World → Prop} {K : Env → Prop} : ∀ (is : List Nat) (ρ : Env), is.Pairwise (· < ·) → (∀ i ∈ is, i < l.length) → zil P Cw l rd K is ρ →
  ∃ ρ1, K ρ1 ∧ (∀ t, (∀ i ∈ is, rd i = true → (l.getD i default).dst ≠ some t) → ρ1 t = ρ t) ∧
   ∀ i ∈ is, rd i = true → ∃ v, (∀ d, (l.getD i default).dst = some d → ρ1 d = v) ∧ ∀ w, Cw w → zkd P (l.getD i default) ρ1 w v
 | [], ρ, _, _, h => ⟨ρ, h, fun _ _ => rfl, fun _ hi => by cases hi⟩
 | i :: is, ρ, hs, hlt, h => by
  have hs' := List.pairwise_cons.1 hs
  have hi := hlt i (by simp)
  have hlt' : ∀ j ∈ is, j < l.length := fun j hj => hlt j (by simp [hj])
  unfold zil at h
  by_cases hr : rd i = true
  ·rw [if_pos hr] at h
   obtain ⟨v, hy, h⟩ := h
   obtain ⟨ρ1, hK, hrest, hall⟩ := znh hp is _ hs'.2 hlt' h
   refine ⟨ρ1, hK, fun t ht => ?_, fun j hj hrj => ?_⟩
   ·rw [hrest t fun j hj hrj => ht j (by simp [hj]) hrj]
    have := ht i (by simp) hr
    cases hd : (l.getD i default).dst with
    | none => rfl
    | some d =>
     simp only [put]
     rw [if_neg (fun e => this (by rw [hd, e]))]
   ·rcases List.mem_cons.1 hj with rfl | hj'
    ·have hval : ∀ d, (l.getD j default).dst = some d → ρ1 d = v := fun d hd => by
      rw [hrest d fun k hk hrk hdk => by
       have hne : j ≠ k := by have := hs'.1 k hk; omega
       exact ((zxo hp hi (hlt' k hk) hd ).2 hne).1 hdk]
      rw [hd]; simp [put]
     refine ⟨v, hval, fun w hw => zhy (zvw hp hi) (fun t ht => ?_) (hy w hw)⟩
     have hnd : (l.getD j default).dst ≠ some t := fun hd => (zxo hp hi hi hd ).1 rfl ht
     rw [hrest t fun k hk hrk hdk => by
      have hk' := hlt' k hk
      have hne : k ≠ j := by have := hs'.1 k hk; omega
      have := ((zxo hp hk' hi hdk).2 hne).2 ht
      have := zka (zpb hp) hi this.1
      have := hs'.1 k hk; omega]
     cases hd : (l.getD j default).dst with
     | none => rfl
     | some d =>
      simp only [put]
      rw [if_neg (fun e => hnd (by rw [hd, e]))]
    ·exact hall j hj' hrj
  ·rw [if_neg hr] at h
   obtain ⟨ρ1, hK, hrest, hall⟩ := znh hp is _ hs'.2 hlt' h
   refine ⟨ρ1, hK, fun t ht => hrest t fun j hj hrj => ht j (by simp [hj]) hrj, fun j hj hrj => ?_⟩
   rcases List.mem_cons.1 hj with rfl | hj'
   ·exact absurd hrj hr
   ·exact hall j hj' hrj
theorem zuw (hp : znj l rd = true) {Cw : World → Prop} {K : Env → World → Prop} {ρ1 : Env}
  (hread : ∀ i, i < l.length → rd i = true → ∃ v, (∀ d, (l.getD i default).dst = some d → ρ1 d = v) ∧ ∀ w, Cw w → zkd P (l.getD i default) ρ1 w v) :
  ∀ (f : Nat) (pend : List Nat) (ρ : Env) (w : World), pend.length = f → pend.Pairwise (· < ·) → (∀ i ∈ pend, i < l.length) →
   (∀ j, j < l.length → j ∉ pend → ∀ e ∈ (l.getD j default).after, e ∉ pend) →
   (∀ t, (∀ j, j < l.length → j ∉ pend → rd j = false → (l.getD j default).dst ≠ some t) → zfb l rd ρ1 pend ρ t = ρ1 t) →
   ((∃ i ∈ pend, rd i = true) → Cw w) →
   anyC P Cw l rd K (pend.filter fun i => !rd i).length (pend.filter fun i => !rd i) (zfb l rd ρ1 pend ρ) w → anyP P l K f pend ρ w := by
 intro f
 induction f with
 | zero =>
  intro pend ρ w hf _ _ _ _ _ hc
  have hnil : pend = [] := List.length_eq_zero_iff.1 hf
  subst hnil
  have : zfb l rd ρ1 [] ρ = ρ := funext fun t => zdj (fun i hi => by cases hi)
  rw [this] at hc
  exact hc
 | succ f ih =>
  intro pend ρ w hf hs hlt hcl hinv hCw hc i hready
  obtain ⟨hi, hall⟩ := hready
  have hil := hlt i hi
  have hnd : pend.Nodup := hs.imp (fun h => Nat.ne_of_lt h)
  have hlook : ∀ t ∈ zfm (l.getD i default), zfb l rd ρ1 pend ρ t = ρ t := fun t ht => zdj fun k hk hrk hdk => by
   have hkl := hlt k hk
   by_cases hki : k = i
   ·subst hki; exact (zxo hp hkl hkl hdk).1 rfl ht
   ·exact hall k (((zxo hp hkl hil hdk).2 hki).2 ht).1 hk
  have hsel := zvw hp hil
  have hs' : (pend.erase i).Pairwise (· < ·) := hs.sublist List.erase_sublist
  have hlt' : ∀ j ∈ pend.erase i, j < l.length := fun j hj => hlt j (List.mem_of_mem_erase hj)
  have hlen' : (pend.erase i).length = f := by rw [List.length_erase_of_mem hi]; omega
  have hmem : ∀ j, j ∈ pend.erase i ↔ j ≠ i ∧ j ∈ pend := fun j => hnd.mem_erase_iff
  have hcl' : ∀ j, j < l.length → j ∉ pend.erase i → ∀ e ∈ (l.getD j default).after, e ∉ pend.erase i := fun j hj hjp e he hep => by
   have hep' := (hmem e).1 hep
   by_cases hji : j = i
   ·subst hji; exact hall e he hep'.2
   ·exact hcl j hj (fun h => hjp ((hmem j).2 ⟨hji, h⟩)) e he hep'.2
  by_cases hr : rd i = true
  ·
   obtain ⟨v, hv, hy⟩ := hread i hil hr
   have heq : ∀ t ∈ zfm (l.getD i default), ρ1 t = ρ t := fun t ht => by
    rw [← hlook t ht]
    refine (hinv t fun j hj hjp hrj hdj => ?_).symm
    by_cases hji : j = i
    ·subst hji; rw [hr] at hrj; cases hrj
    ·have := (((zxo hp hj hil hdj).2 hji).2 ht).2 hr
     rw [hrj] at this; cases this
   have hy' := zhy hsel heq (hy w (hCw ⟨i, hi, hr⟩))
   have hfill : zfb l rd ρ1 (pend.erase i) (put ρ (l.getD i default).dst v) = zfb l rd ρ1 pend ρ := by
    funext t
    by_cases ht : ∃ k ∈ pend.erase i, rd k = true ∧ (l.getD k default).dst = some t
    ·obtain ⟨k, hk, hrk, hdk⟩ := ht
     rw [zev hk hrk hdk, zev ((hmem k).1 hk).2 hrk hdk]
    ·rw [zdj fun k hk hrk hdk => ht ⟨k, hk, hrk, hdk⟩]
     cases hd : (l.getD i default).dst with
     | none =>
      simp only [put]
      exact (zdj fun k hk hrk hdk => by
       by_cases hki : k = i
       ·subst hki; rw [hd] at hdk; cases hdk
       ·exact ht ⟨k, (hmem k).2 ⟨hki, hk⟩, hrk, hdk⟩).symm
     | some d =>
      simp only [put]
      by_cases htd : t = d
      ·subst htd
       rw [if_pos rfl, zev hi hr hd, hv t hd]
      ·rw [if_neg htd]
       exact (zdj fun k hk hrk hdk => by
        by_cases hki : k = i
        ·subst hki; rw [hd] at hdk; exact htd (Option.some.inj hdk).symm
        ·exact ht ⟨k, (hmem k).2 ⟨hki, hk⟩, hrk, hdk⟩).symm
   have hfil : (pend.erase i).filter (fun j => !rd j) = pend.filter fun j => !rd j := by
    rw [hnd.erase_eq_filter, List.filter_filter]
    refine List.filter_congr fun j hj => ?_
    by_cases hji : j = i
    ·subst hji; simp [hr]
    ·simp [hji]
   have hgo : anyP P l K f (pend.erase i) (put ρ (l.getD i default).dst v) w := by
    refine ih _ _ _ hlen' hs' hlt' hcl' (fun t ht => ?_) (fun ⟨k, hk, hrk⟩ => hCw ⟨k, ((hmem k).1 hk).2, hrk⟩) (by rw [hfil, hfill]; exact hc)
    ·rw [hfill]
     refine hinv t fun j hj hjp hrj => ht j hj (fun h => hjp ((hmem j).1 h).2) hrj
   unfold zbn
   rcases hy' with ⟨hw, hrun⟩ | ⟨hw, rfl⟩
   ·rw [if_pos hw, hrun]; exact hgo
   ·rw [if_neg (by rw [hw]; simp)]; exact hgo
  ·
   have hr' : rd i = false := by simpa using hr
   have hiC : i ∈ pend.filter fun j => !rd j := List.mem_filter.2 ⟨hi, by simp [hr']⟩
   have hfil : (pend.erase i).filter (fun j => !rd j) = (pend.filter fun j => !rd j).erase i := by
    have hndC : (pend.filter fun j => !rd j).Nodup := hnd.sublist List.filter_sublist
    rw [hnd.erase_eq_filter, hndC.erase_eq_filter, List.filter_filter, List.filter_filter]
    refine List.filter_congr fun j _ => Bool.and_comm _ _
   have hlenC : (pend.filter fun j => !rd j).length = ((pend.filter fun j => !rd j).erase i).length + 1 := by
    have := List.length_erase_of_mem hiC
    have := List.length_pos_of_mem hiC
    omega
   rw [hlenC] at hc
   have hc := hc i ⟨hiC, fun e he hec => hall e he (List.mem_filter.1 hec).1⟩
   have hown : ∀ k ∈ pend.erase i, rd k = true → ∀ d, (l.getD i default).dst = some d → (l.getD k default).dst ≠ some d := fun k hk hrk d hd hdk => by
    have hkl := hlt' k hk
    exact ((zxo hp hil hkl hd).2 (fun e => ((hmem k).1 hk).1 e.symm)).1 hdk
   have hfill : ∀ v, zfb l rd ρ1 (pend.erase i) (put ρ (l.getD i default).dst v) = put (zfb l rd ρ1 pend ρ) (l.getD i default).dst v := by
    intro v
    have hsame : ∀ t, (l.getD i default).dst ≠ some t → zfb l rd ρ1 (pend.erase i) (put ρ (l.getD i default).dst v) t = zfb l rd ρ1 pend ρ t := by
     intro t hti
     by_cases ht : ∃ k ∈ pend.erase i, rd k = true ∧ (l.getD k default).dst = some t
     ·obtain ⟨k, hk, hrk, hdk⟩ := ht
      rw [zev hk hrk hdk, zev ((hmem k).1 hk).2 hrk hdk]
     ·rw [zdj fun k hk hrk hdk => ht ⟨k, hk, hrk, hdk⟩]
      rw [zdj (pend := pend) fun k hk hrk hdk => by
       by_cases hki : k = i
       ·subst hki; rw [hr'] at hrk; cases hrk
       ·exact ht ⟨k, (hmem k).2 ⟨hki, hk⟩, hrk, hdk⟩]
      cases hd : (l.getD i default).dst with
      | none => rfl
      | some d =>
       simp only [put]
       rw [if_neg (fun e => hti (by rw [hd, e]))]
    funext t
    by_cases hti : (l.getD i default).dst = some t
    ·rw [zdj fun k hk hrk => hown k hk hrk t hti, hti]
     simp [put]
    ·rw [hsame t hti]
     cases hd : (l.getD i default).dst with
     | none => rfl
     | some d =>
      simp only [put]
      rw [if_neg (fun e => hti (by rw [hd, e]))]
   have hgo : ∀ v w', ((znl l rd i = true ∨ Cw w') ∧ anyC P Cw l rd K ((pend.filter fun j => !rd j).erase i).length ((pend.filter fun j => !rd j).erase i) (put (zfb l rd ρ1 pend ρ) (l.getD i default).dst v) w') → anyP P l K f (pend.erase i) (put ρ (l.getD i default).dst v) w' := by
    rintro v w' ⟨hlast, hch⟩
    refine ih _ _ _ hlen' hs' hlt' hcl' (fun t ht => ?_) (fun ⟨k, hk, hrk⟩ => ?_) (by rw [hfil, hfill]; exact hch)
    ·rw [hfill]
     have hti := ht i hil (fun h => ((hmem i).1 h).1 rfl) hr'
     have h1 : put (zfb l rd ρ1 pend ρ) (l.getD i default).dst v t = zfb l rd ρ1 pend ρ t := by
      cases hd : (l.getD i default).dst with
      | none => rfl
      | some d => simp only [put]; rw [if_neg (fun e => hti (by rw [hd, e]))]
     rw [h1]
     exact hinv t fun j hj hjp hrj => ht j hj (fun h => hjp ((hmem j).1 h).2) hrj
    ·rcases hlast with hlast | hcw
     ·unfold znl at hlast
      rw [List.all_eq_true] at hlast
      have := hlast k (List.mem_range.2 (hlt' k hk))
      simp only [hrk, Bool.not_true, Bool.false_or] at this
      exact absurd ((hmem k).1 hk).2 (zoy (zpb hp) hcl _ i k hil hall this)
     ·exact hcw
   have hexec : exec (zfb l rd ρ1 pend ρ) (l.getD i default) = exec ρ (l.getD i default) := zpf hsel hlook
   have hwant : zcq (zfb l rd ρ1 pend ρ) (l.getD i default).guard = zcq ρ (l.getD i default).guard := zke hlook
   unfold zbn at hc ⊢
   rw [hexec, hwant] at hc
   by_cases hw : zcq ρ (l.getD i default).guard = true
   ·rw [if_pos hw] at hc ⊢
    exact upon_map hgo hc
   ·rw [if_neg hw] at hc ⊢
    exact hgo _ _ hc
theorem zxz (hp : znj l rd = true) {Cw : World → Prop} {K : Env → World → Prop} {ρ : Env} {w : World} (hw : Cw w)
  (h : zil P Cw l rd (fun ρ1 => anyC P Cw l rd K ((List.range l.length).filter fun i => !rd i).length ((List.range l.length).filter fun i => !rd i) ρ1 w) (List.range l.length) ρ) : anyP P l K l.length (List.range l.length) ρ w := by
 obtain ⟨ρ1, hK, hrest, hall⟩ := znh hp _ _ List.pairwise_lt_range (fun i hi => List.mem_range.1 hi) h
 have hfill : zfb l rd ρ1 (List.range l.length) ρ = ρ1 := by
  funext t
  by_cases ht : ∃ k ∈ List.range l.length, rd k = true ∧ (l.getD k default).dst = some t
  ·obtain ⟨k, hk, hrk, hdk⟩ := ht
   exact zev hk hrk hdk
  ·rw [zdj fun k hk hrk hdk => ht ⟨k, hk, hrk, hdk⟩]
   exact (hrest t fun k hk hrk hdk => ht ⟨k, hk, hrk, hdk⟩).symm
 refine zuw hp (ρ1 := ρ1) (fun i hi hr => ?_) l.length _ ρ w (by simp) List.pairwise_lt_range (fun i hi => List.mem_range.1 hi) (fun j hj hjp => absurd (List.mem_range.2 hj) hjp)
  (fun t _ => by rw [hfill]) (fun _ => hw) (by rw [hfill]; exact hK)
 exact hall i (List.mem_range.2 hi) hr
def seqB (l : List ROp) : List Nat → Bool
 | [] => true
 | i :: C => C.all (fun j => (l.getD j default).after.any fun e => (i :: C).contains e) && seqB l C
theorem zch {Cw : World → Prop} {K : Env → World → Prop} : ∀ (C : List Nat) (ρ : Env) (w : World), seqB l C = true → C.Nodup → (∀ j, C.getLast? = some j → znl l rd j = true) →
  zdn P Cw K (C.map fun j => l.getD j default) ρ w → anyC P Cw l rd K C.length C ρ w
 | [], _, _, _, _, _, h => h
 | i :: C, ρ, w, hs, hnd, hlast, h => by
  simp only [seqB, Bool.and_eq_true, List.all_eq_true] at hs
  intro j hj
  have hji : j = i := by
   rcases List.mem_cons.1 hj.1 with e | he
   ·exact e
   ·have h1 := hs.1 j he
    rw [List.any_eq_true] at h1
    obtain ⟨e, he1, he2⟩ := h1
    exact absurd (by simpa using he2) (hj.2 e he1)
  subst hji
  rw [List.erase_cons_head]
  cases C with
  | nil =>
   refine zfy (fun ρ w hk => ⟨.inl (hlast j rfl), ?_⟩) h
   exact hk
  | cons k C =>
   refine zfy (fun ρ w hk => ⟨.inr hk.1, ?_⟩) h
   exact zch (k :: C) ρ w hs.2 (List.nodup_cons.1 hnd).2 (fun j' h' => hlast j' (by simpa using h')) hk.2
end
def zvr (l : List ROp) (rd : List Bool) : List Nat := (List.range l.length).filter fun i => !rdOf rd i
theorem ziu {P : Program} {loc : List Nat} {N : Nat} {Q : Exit → Env → World → Prop} {σ : Env} {w : World} {l : List ROp} (hm : P.follows .mixedOrders = true) (rd : List Bool) (hl : rd.length = l.length) (hp : znj l (rdOf rd) = true) (Cw : World → Prop) (hw : Cw w.drew)
  (h : ∀ τ, zde P Cw (fun ρ1 => anyC P Cw l (rdOf rd) (fun ρ w => Q .normal (locs ρ) w) (zvr l rd).length (zvr l rd) ρ1 w.drew) (l.zip rd) (zdm σ τ)) : W P loc N (.draw l) Q σ w := by
 have hzl : (l.zip rd).length = l.length := by simp [hl]
 have hz : ∀ i p, (l.zip rd)[i]? = some p → l.getD (0 + i) default = p.1 ∧ rdOf rd (0 + i) = p.2 := by
  intro i p hi
  rw [List.getElem?_zip_eq_some] at hi
  simp [List.getD, rdOf, hi.1, hi.2]
 refine W_draw hm (zpb hp) fun τ => zxz hp (Cw := Cw) hw ?_
 have e : List.range l.length = List.range' 0 (l.zip rd).length := by rw [hzl, List.range_eq_range']
 have h2 := zki (P := P) (Cw := Cw) (l := l) (rd := rdOf rd) (l.zip rd) 0 _ hz (h τ)
 rw [← e] at h2
 exact h2
def planM (l : List ROp) (rd : List Bool) : Bool :=
 Nat.beq rd.length l.length && znj l (rdOf rd) && seqB l (zvr l rd) && (match (zvr l rd).getLast? with
  | some j => znl l (rdOf rd) j
  | none => true)
theorem zfx {P : Program} {loc : List Nat} {N : Nat} {Q : Exit → Env → World → Prop} {σ : Env} {w : World} {l : List ROp} (hm : P.follows .mixedOrders = true) (rd : List Bool) (hB : planM l rd = true) (Cw : World → Prop) (hw : Cw w.drew)
  (h : ∀ τ, zde P Cw (fun ρ1 => zdn P Cw (fun ρ w => Q .normal (locs ρ) w) (zdd l rd) ρ1 w.drew) (l.zip rd) (zdm σ τ)) : W P loc N (.draw l) Q σ w := by
 unfold planM at hB
 rw [Bool.and_eq_true, Bool.and_eq_true, Bool.and_eq_true] at hB
 obtain ⟨⟨⟨hl, hp⟩, hs⟩, hlast⟩ := hB
 have hl : rd.length = l.length := by simpa using hl
 have hz : ∀ i p, (l.zip rd)[i]? = some p → l.getD (0 + i) default = p.1 ∧ rdOf rd (0 + i) = p.2 := by
  intro i p hi
  rw [List.getElem?_zip_eq_some] at hi
  simp [List.getD, rdOf, hi.1, hi.2]
 have hcs := zjx (l := l) (rd := rdOf rd) (l.zip rd) 0 hz
 rw [show (l.zip rd).length = l.length by simp [hl], ← List.range_eq_range'] at hcs
 refine ziu hm rd hl hp Cw hw fun τ => ?_
 have mono : ∀ (r : List (ROp × Bool)) (ρ : Env) (K K' : Env → Prop), (∀ ρ, K ρ → K' ρ) → zde P Cw K r ρ → zde P Cw K' r ρ := by
  intro r
  induction r with
  | nil => intro ρ K K' hk h; exact hk _ h
  | cons p r ih =>
   intro ρ K K' hk h
   obtain ⟨o, b⟩ := p
   cases b with
   | true => obtain ⟨v, hv, h⟩ := h; exact ⟨v, hv, ih _ _ _ hk h⟩
   | false => exact ih _ _ _ hk h
 refine mono _ _ _ _ (fun ρ1 hc => ?_) (h τ)
 refine zch _ _ _ hs (List.nodup_range.sublist List.filter_sublist) (fun j hj => ?_) ?_
 ·rw [hj] at hlast; exact hlast
 ·have e : (zvr l rd).map (fun j => l.getD j default) = zdd l rd := hcs
  rw [e]; exact hc
section
variable {P : Program} {N : Nums} {loc : List Nat} {N' : Nat} {Q : Exit → Env → World → Prop} {σ : Env} {w : World}
def zru (N : Nums) (i l c k : Nat) (body : C) : C :=
 .block k (.loop (.seq (.ops [⟨some (c + 100), .binOp .lss N.ze (V i) (V l) N.ze, 0, none, []⟩]) (.seq (.cond c .skip (.exit k)) (.seq (.block (k + 1) body)
  (.ops [⟨some 0, .binOp .add N.ze (V i) (.const (.int .i64 1)) N.ze, 0, none, []⟩, ⟨some (i + 100), .move (T 0), 0, none, []⟩])))))
theorem zjm (hlo : zfo loc N') {i l c k L : Nat} {body : C} (hL : L < 4611686018427387904) (I : Nat → Env → World → Prop)
  (hI : ∀ j σ w, I j σ w → σ i = .int .i64 j ∧ σ l = .int .i64 L ∧ j ≤ L) (hc : ∀ j σ w b, I j σ w → I j (upd σ c (.bool b)) w)
  (h0 : I 0 σ w) (hend : ∀ σ w, I L σ w → Q .normal σ w)
  (hb : ∀ j σ w, j < L → I j σ w → W P loc N' body (fun e σ' w' => match e with
   | .normal => σ' i = .int .i64 j ∧ I (j + 1) (upd σ' i (.int .i64 ((j + 1 : Nat) : Int))) w'
   | .ret => Q .ret σ' w'
   | _ => False) σ w) : W P loc N' (zru N i l c k body) Q σ w := by
 unfold zru
 refine zeb (zna (fun m σ w => ∃ j, m = L - j ∧ I j σ w) (n := L) ⟨0, by omega, h0⟩ ?_)
 rintro m σ1 w1 ⟨j, rfl, hj⟩
 obtain ⟨f1, f2, f3⟩ := hI j σ1 w1 hj
 refine zd fun K hK => zaa fun τ => ?_
 simp +decide (disch := omega) only [bK, bE, f1, f2, zu, locs_envOf]
 refine hK _ _ ?_
 clear hK K
 refine zd fun K hK => W_if hlo (upd_same _ _ _) ?_
 by_cases hlt : (j : Int) < L
 ·rw [decide_eq_true hlt, if_pos rfl]
  refine zbw (hK _ _ ?_)
  clear hK K
  have hj2 := hc j σ1 w1 true hj
  refine zd fun K hK => zeb (zhw (hb j _ w1 (by omega) hj2) ?_)
  rintro e σ2 w2 hq
  cases e with
  | normal =>
   obtain ⟨g1, g2⟩ := hq
   refine hK _ _ (zaa fun τ => ?_)
   have hw : IntKind.i64.wrap ((j : Int) + 1) = (((j + 1 : Nat) : Int)) := by
    rw [show ((j : Int) + 1) = ((j + 1 : Nat) : Int) by omega]
    exact wrap_i64 (by omega) (by omega)
   simp +decide (disch := omega) only [bK, bE, BEq.rfl, g1, hw, zu, zap, locs_envOf]
   exact ⟨L - (j + 1), by omega, j + 1, rfl, g2⟩
  | ret => exact hq
  | _ => exact hq.elim
 ·rw [decide_eq_false hlt, if_neg (by simp)]
  refine zlx ?_
  simp only [zdy, inB, if_true]
  have hjL : j = L := by omega
  subst hjL
  exact hend _ _ (hc _ _ _ _ hj)
theorem tagV.get (B : Base P N) {G : Nat → Prop} {v : Value} {l : List UInt8} (h : tagV w G v l) {j : Nat} {x : UInt8} (hx : l[j]? = some x) :
  ∃ b o, (∀ w', (Instr.indexAt N.za v (.int .i64 j)).run P w' = .ok (.pointer (some ⟨b, o, none⟩)) w') ∧ w.cell? ⟨b, o, none⟩ = some (.int .u8 x.toNat) := by
 have hj := (List.getElem?_eq_some_iff.1 hx).1
 rcases h with ⟨rfl, _⟩ | ⟨b, o, c, rfl, h2, h3, h4⟩
 ·simp at hj
 ·refine ⟨b, o + j * 1, fun w' => zab B.Lu8 B.uint8 hj, ?_⟩
  have := h4 j (zbf x) (by rw [List.getElem?_map, hx]; rfl)
  simpa [zbf] using this
theorem tagV.len (B : Base P N) {G : Nat → Prop} {v : Value} {l : List UInt8} {ty : TypeId} {w' : World} (h : tagV w G v l) : (Builtin.len_ #[N.za] ty #[v]).run P w' = .ok (.int .i64 l.length) w' := by
 rcases h with ⟨rfl, h⟩ | ⟨b, o, c, rfl, _⟩
 ·obtain ⟨ad, c, rfl⟩ := h
  rw [B.Lu8.run_len]; rfl
 ·exact B.Lu8.run_len
end
theorem zik {P : Program} {w : World} {K : Env → Prop} : ∀ (r : List ROp) (ρ : Env), (∀ o ∈ r, zmt o.op = true) → zfa P w K r ρ → zde P (· = w) K (r.map fun o => (o, true)) ρ
 | [], _, _, h => h
 | o :: r, ρ, hp, h => by
  obtain ⟨v, w', hor, hw', hs⟩ := zsu (hp o (by simp)) h
  refine ⟨v, fun w1 e => ?_, zik r _ (fun o ho => hp o (by simp [ho])) hs⟩
  subst e
  rcases hor with ⟨ha, hb⟩ | ⟨ha, hb, _⟩
  ·left; refine ⟨ha, ?_⟩; rw [hb, hw']
  ·right; exact ⟨ha, hb⟩
def stillB (l : List ROp) : Bool := planM l (l.map fun _ => true) && l.all fun o => zmt o.op
theorem zwk (l : List ROp) : zdd l (l.map fun _ => true) = [] := by
 unfold zdd
 have : (l.zip (l.map fun _ => true)).filter (fun p => !p.2) = [] := by
  rw [List.filter_eq_nil_iff]
  intro p hp
  have := (List.of_mem_zip hp).2
  rw [List.mem_map] at this
  obtain ⟨_, _, e⟩ := this
  simp [← e]
 rw [this]; rfl
theorem zip_true (l : List ROp) : l.zip (l.map fun _ => true) = l.map fun o => (o, true) := by
 induction l with
 | nil => rfl
 | cons o l ih => simp only [List.map_cons, List.zip_cons_cons, ih]
theorem zse {P : Program} {loc : List Nat} {N : Nat} {Q : Exit → Env → World → Prop} {σ : Env} {w : World} {l : List ROp} (hm : P.follows .mixedOrders = true) (hB : stillB l = true)
  (h : ∀ τ, zfa P w.drew (fun ρ => Q .normal (locs ρ) w.drew) l (zdm σ τ)) : W P loc N (.draw l) Q σ w := by
 unfold stillB at hB
 rw [Bool.and_eq_true, List.all_eq_true] at hB
 refine zfx hm (l.map fun _ => true) hB.1 (· = w.drew) rfl fun τ => ?_
 rw [zip_true, zwk]
 exact zik l _ hB.2 (h τ)
section
variable {P : Program} {N : Nums}
theorem zv {w w' : World} (h : Mod w w' zp) {b o : Nat} {cs : List Value} (hr : w.rangeAt b o cs) : w'.rangeAt b o cs := fun j v hj => by
 have h1 := hr j v hj
 rw [h.cell b (o + j) (zax (by rw [h1]; rfl)) (fun h => h)]
 exact h1
theorem OctG.stay {w w' : World} (h : Mod w w' zp) {G : Nat → Prop} {v : Value} {o : Option (List UInt8)} (hb : OctG w G v o) : OctG w' G v o := by
 cases o with
 | none => exact hb
 | some l =>
  obtain ⟨b, o, c, h1, h2, h3, h4⟩ := hb
  exact ⟨b, o, c, h1, h2, h3, zv h h4⟩
theorem tagV.stay {w w' : World} (h : Mod w w' zp) {G : Nat → Prop} {v : Value} {l : List UInt8} (hb : tagV w G v l) : tagV w' G v l := hb.imp (fun x => ⟨x.1, x.2⟩) fun x => x.stay h
theorem zwm (B : Base P N) (F : Fns P N) (hN : N.zdc ≠ 0) {w : World} {G G' : Nat → Prop} {v1 v2 : Value} {l : List UInt8} (h1 : tagV w G v1 l) (h2 : tagV w G' v2 l) (hl : l.length < 4611686018427387904) :
  Call P N.zdc #[v1, v2] w fun v w' => v = .bool true ∧ Mod w w' zp := by
 refine (F.spec_Same hN).call rfl fun loc N' hlo => ?_
 unfold zrq
 refine zd fun K hK => zav (hK _ _ ?_)
 clear hK K
 obtain ⟨σ, hσ⟩ : ∃ σ, σ = upd (zda #[v1, v2]) 2 (.bool false) := ⟨_, rfl⟩
 have f0 : σ 0 = v1 := by rw [hσ, zi (by decide)]; rfl
 have f1 : σ 1 = v2 := by rw [hσ, zi (by decide)]; rfl
 rw [← hσ]
 clear hσ
 refine zd fun K hK => zd fun K1 hK1 => zaa fun τ => ?_
 simp +decide (disch := omega) only [bK, bE, Nat.reduceBeqDiff, BEq.rfl, Nat.reduceAdd, Nat.zero_add, f0, f1, h1.len B, h2.len B, zu, zap, locs_envOf]
 refine hK1 _ _ (W_if hlo (upd_same _ _ _) ?_)
 clear hK1 K1
 rw [show ((l.length : Int) != (l.length : Int)) = false from by simp, if_neg (by simp)]
 refine zbw (hK _ _ ?_)
 clear hK K
 refine zd fun K hK => zd fun K1 hK1 => zaa fun τ => ?_
 simp +decide (disch := omega) only [bK, bE, BEq.rfl, Nat.reduceAdd, Nat.zero_add, zi, f0, h1.len B]
 refine hK1 _ _ (zf fun σ2 hσ => ?_)
 have g0 := hσ 0
 have g1 := hσ 1
 have g4 := hσ 4
 have g5 := hσ 5
 simp +decide only [bE, Nat.reduceBeqDiff, BEq.rfl, Nat.reduceAdd, Nat.zero_add, zi, f0, f1] at g0 g1 g4 g5
 clear hσ hK1 K1
 refine zjm (i := 5) (l := 4) (c := 6) (k := 0) hlo hl (fun j σ w' => σ 0 = v1 ∧ σ 1 = v2 ∧ σ 4 = .int .i64 l.length ∧ σ 5 = .int .i64 j ∧ j ≤ l.length ∧ Mod w w' zp) (fun j σ w h => ⟨h.2.2.2.1, h.2.2.1, h.2.2.2.2.1⟩) (fun j σ w b h => ?_) ⟨g0, g1, g4, g5, Nat.zero_le _, .refl _ _⟩ (fun σ' w' h => hK _ _ ?_) (fun j σ' w' hj h => ?_)
 ·obtain ⟨a, b, c, d, e, f⟩ := h
  exact ⟨by rw [zi (by decide)]; exact a, by rw [zi (by decide)]; exact b, by rw [zi (by decide)]; exact c, by rw [zi (by decide)]; exact d, e, f⟩
 ·refine zd fun K2 hK2 => zav (hK2 _ _ (zbx ⟨.inr rfl, _, rfl, upd_same _ _ _, h.2.2.2.2.2⟩))
 ·obtain ⟨a, b, c, d, e, f⟩ := h
  have hx : l[j]? = some l[j] := List.getElem?_eq_getElem hj
  have md : Mod w w'.drew zp := f.trans' (Mod.drew _ _)
  obtain ⟨b1, o1, hi1, hc1⟩ := (h1.stay md).get B hx
  obtain ⟨b2, o2, hi2, hc2⟩ := (h2.stay md).get B hx
  refine zd fun K2 hK2 => zaa fun τ => ?_
  simp +decide (disch := omega) only [bK, bE, BEq.rfl, Nat.reduceAdd, d]
  refine hK2 _ _ (zf fun σ3 hσ => ?_)
  have p0 := hσ 0
  have p1 := hσ 1
  have p4 := hσ 4
  have p5 := hσ 5
  have p7 := hσ 7
  simp +decide only [bE, Nat.reduceBeqDiff, BEq.rfl, Nat.reduceAdd, Nat.zero_add, a, b, c, d] at p0 p1 p4 p5 p7
  clear hσ hK2 K2
  refine zd fun K2 hK2 => zse B.mixed (by kernel_rfl) fun τ => ?_
  simp +decide (disch := omega) only [bK, bE, zfa, Nat.reduceBeqDiff, BEq.rfl, Nat.reduceAdd, Nat.zero_add, true_and, p0, p1, p7, hi1, hi2, B.uint8.run_load1 rfl, hc1, hc2]
  refine hK2 _ _ (zf fun σ4 hσ => ?_)
  have q0 := hσ 0
  have q1 := hσ 1
  have q4 := hσ 4
  have q5 := hσ 5
  have q8 := hσ 8
  simp +decide only [bE, Nat.reduceBeqDiff, BEq.rfl, Nat.reduceAdd, Nat.zero_add, p0, p1, p4, p5] at q0 q1 q4 q5 q8
  clear hσ hK2 K2
  refine W_if hlo q8 ?_
  rw [show ((l[j].toNat : Int) != (l[j].toNat : Int)) = false from by simp, if_neg (by simp)]
  refine zbw ⟨q5, ?_⟩
  exact ⟨by rw [zi (by decide)]; exact q0, by rw [zi (by decide)]; exact q1, by rw [zi (by decide)]; exact q4, upd_same _ _ _, by omega, md⟩
end
theorem zsb {P : Program} {l : List ROp} {rd : Nat → Bool} {Cw : World → Prop} {K : Env → World → Prop} : ∀ (C : List Nat) (ρ : Env) (w : World), seqB l C = true → (∀ j ∈ C, znl l rd j = true) →
  runR P (C.map fun j => l.getD j default) ρ w K → anyC P Cw l rd K C.length C ρ w
 | [], _, _, _, _, h => h
 | i :: C, ρ, w, hs, hlast, h => by
  simp only [seqB, Bool.and_eq_true, List.all_eq_true] at hs
  intro j hj
  have hji : j = i := by
   rcases List.mem_cons.1 hj.1 with e | he
   ·exact e
   ·have h1 := hs.1 j he
    rw [List.any_eq_true] at h1
    obtain ⟨e, he1, he2⟩ := h1
    exact absurd (by simpa using he2) (hj.2 e he1)
  subst hji
  rw [List.erase_cons_head]
  exact zfy (fun ρ w hk => ⟨.inl (hlast j (by simp)), zsb C ρ w hs.2 (fun k hk => hlast k (by simp [hk])) hk⟩) h
def rdK (l : List ROp) (k : Nat) : List Bool := (l.take k).map (fun _ => true) ++ (l.drop k).map fun _ => false
def drawKB (l : List ROp) (k : Nat) : Bool :=
 Nat.ble k l.length && (znj l (rdOf (rdK l k)) && (seqB l (zvr l (rdK l k)) && ((zvr l (rdK l k)).all (fun j => znl l (rdOf (rdK l k)) j) && (l.take k).all fun o => zmt o.op)))
theorem zqy {P : Program} {Cw : World → Prop} {K : Env → Prop} : ∀ (r : List ROp) (ρ : Env), K ρ → zde P Cw K (r.map fun o => (o, false)) ρ
 | [], _, h => h
 | _ :: r, ρ, h => zqy r ρ h
theorem zkh {P : Program} {Cw : World → Prop} {K : Env → Prop} : ∀ (a b : List (ROp × Bool)) (ρ : Env), zde P Cw (fun ρ => zde P Cw K b ρ) a ρ → zde P Cw K (a ++ b) ρ
 | [], _, _, h => h
 | (o, true) :: a, b, ρ, ⟨v, hv, h⟩ => ⟨v, hv, zkh a b _ h⟩
 | (o, false) :: a, b, ρ, h => zkh a b ρ h
theorem W_drawK {P : Program} {loc : List Nat} {N : Nat} {Q : Exit → Env → World → Prop} {σ : Env} {w : World} {l : List ROp} (hm : P.follows .mixedOrders = true) (k : Nat) (hB : drawKB l k = true)
  (h : ∀ τ, zfa P w.drew (fun ρ => runR P (l.drop k) ρ w.drew fun ρ w => Q .normal (locs ρ) w) (l.take k) (zdm σ τ)) : W P loc N (.draw l) Q σ w := by
 unfold drawKB at hB
 simp only [Bool.and_eq_true, List.all_eq_true] at hB
 obtain ⟨hk, hp, hs, hlast, hpure⟩ := hB
 have hk : k ≤ l.length := by simpa using hk
 have hlen : (rdK l k).length = l.length := by simp [rdK]; omega
 have hzip : l.zip (rdK l k) = (l.take k).map (fun o => (o, true)) ++ (l.drop k).map fun o => (o, false) := by
  have : ∀ (a b : List ROp), (a ++ b).zip ((a.map fun _ => true) ++ b.map fun _ => false) = (a.map fun o => (o, true)) ++ b.map fun o => (o, false) := by
   intro a b
   induction a with
   | nil =>
    induction b with
    | nil => rfl
    | cons o b ih => simpa using ih
   | cons o a ih => simpa using ih
  have h2 := this (l.take k) (l.drop k)
  rw [List.take_append_drop] at h2
  exact h2
 have hrest : (zvr l (rdK l k)).map (fun j => l.getD j default) = l.drop k := by
  have hz : ∀ i p, (l.zip (rdK l k))[i]? = some p → l.getD (0 + i) default = p.1 ∧ rdOf (rdK l k) (0 + i) = p.2 := by
   intro i p hi
   rw [List.getElem?_zip_eq_some] at hi
   simp [List.getD, rdOf, hi.1, hi.2]
  have hcs := zjx (l := l) (rd := rdOf (rdK l k)) (l.zip (rdK l k)) 0 hz
  rw [show (l.zip (rdK l k)).length = l.length by simp [hlen], ← List.range_eq_range'] at hcs
  have e : ((l.zip (rdK l k)).filter fun p => !p.2).map Prod.fst = l.drop k := by
   rw [hzip, List.filter_append]
   have e1 : ((l.take k).map fun o => (o, true)).filter (fun p : ROp × Bool => !p.2) = [] := by
    rw [List.filter_eq_nil_iff]; intro p hp; obtain ⟨o, _, rfl⟩ := List.mem_map.1 hp; simp
   have e2 : ((l.drop k).map fun o => (o, false)).filter (fun p : ROp × Bool => !p.2) = (l.drop k).map fun o => (o, false) := by
    rw [List.filter_eq_self]; intro p hp; obtain ⟨o, _, rfl⟩ := List.mem_map.1 hp; rfl
   rw [e1, e2, List.nil_append, List.map_map]
   simp [Function.comp_def]
  exact hcs.trans e
 refine ziu hm (rdK l k) hlen hp (· = w.drew) rfl fun τ => ?_
 rw [hzip]
 refine zkh _ _ _ ?_
 have mono : ∀ (r : List ROp) (ρ : Env) (K K' : Env → Prop), (∀ ρ, K ρ → K' ρ) → zfa P w.drew K r ρ → zfa P w.drew K' r ρ := by
  intro r
  induction r with
  | nil => intro ρ K K' hk h; exact hk _ h
  | cons o r ih => intro ρ K K' hk h; exact zfy (fun ρ w' hh => ⟨hh.1, ih ρ K K' hk hh.2⟩) h
 refine zik _ _ hpure (mono _ _ _ _ (fun ρ hr => ?_) (h τ))
 refine zqy _ _ ?_
 refine zsb _ _ _ hs hlast ?_
 rw [hrest]; exact hr
inductive Tr where
 | mk (n : Int) (s : List UInt8) (nl : Bool) (l : List Tr) (u : List (Nat × List UInt8))
def UsG (w : World) (G : Nat → Prop) : List (Nat × List UInt8) → List Value → Prop
 | [], cs => cs = []
 | (k, l) :: r, cs => ∃ v rest, cs = .int .u32 k :: v :: rest ∧ tagV w G v l ∧ UsG w G r rest
def RepU (w : World) (G : Nat → Prop) (v : Value) (u : List (Nat × List UInt8)) : Prop :=
 (v = .slice none 0 0 ∧ u = []) ∨ ∃ b c cs, v = .slice (some ⟨b, 0, none⟩) u.length c ∧ u.length ≤ c ∧ (u ≠ [] → G b) ∧ UsG w G u cs ∧ w.rangeAt b 0 cs
mutual
def RepT (w : World) (G : Nat → Prop) : Tr → List Value → Prop
 | .mk n s nl l u, cs => ∃ vs vl vu, cs = [.int .i64 n, vs, .bool nl, vl, vu] ∧ tagV w G vs s ∧
   ((vl = .slice none 0 0 ∧ l = []) ∨ ∃ b c css, vl = .slice (some ⟨b, 0, none⟩) l.length c ∧ l.length ≤ c ∧ (l ≠ [] → G b) ∧ zcm w G l css ∧ w.rangeAt b 0 css.flatten) ∧ RepU w G vu u
def zcm (w : World) (G : Nat → Prop) : List Tr → List (List Value) → Prop
 | [], css => css = []
 | t :: l, css => ∃ c r, css = c :: r ∧ RepT w G t c ∧ zcm w G l r
end
theorem RepT.len {w : World} {G : Nat → Prop} {t : Tr} {cs : List Value} (h : RepT w G t cs) : cs.length = 5 := by
 cases t
 simp only [RepT] at h
 obtain ⟨_, _, _, rfl, _⟩ := h
 rfl
theorem tagV.one {w : World} {G : Nat → Prop} {v : Value} {l : List UInt8} (h : tagV w G v l) : v.oneCell' = true := by
 rcases h with ⟨_, h⟩ | ⟨b, o, c, rfl, _⟩
 ·obtain ⟨_, _, rfl⟩ := h; rfl
 ·rfl
theorem RepT.one {w : World} {G : Nat → Prop} {t : Tr} {cs : List Value} (h : RepT w G t cs) : ∀ c ∈ cs, c.oneCell' = true := by
 cases t
 simp only [RepT] at h
 obtain ⟨vs, vl, vu, rfl, h1, h2, h3⟩ := h
 have e2 : vl.oneCell' = true := by
  rcases h2 with ⟨rfl, _⟩ | ⟨b, c, css, rfl, _⟩ <;> rfl
 have e3 : vu.oneCell' = true := by
  rcases h3 with ⟨rfl, _⟩ | ⟨b, c, css, rfl, _⟩ <;> rfl
 intro c hc
 simp at hc
 rcases hc with rfl | rfl | rfl | rfl | rfl
 ·rfl
 ·exact h1.one
 ·rfl
 ·exact e2
 ·exact e3
theorem UsG.stay {w w' : World} (h : Mod w w' zp) {G : Nat → Prop} : ∀ {u : List (Nat × List UInt8)} {cs : List Value}, UsG w G u cs → UsG w' G u cs
 | [], _, hu => hu
 | (k, l) :: r, _, ⟨v, rest, h1, h2, h3⟩ => ⟨v, rest, h1, h2.stay h, UsG.stay h h3⟩
theorem RepU.stay {w w' : World} (h : Mod w w' zp) {G : Nat → Prop} {v : Value} {u : List (Nat × List UInt8)} (hu : RepU w G v u) : RepU w' G v u :=
 hu.imp id fun ⟨b, c, cs, h1, h2, h3, h4, h5⟩ => ⟨b, c, cs, h1, h2, h3, h4.stay h, zv h h5⟩
mutual
theorem RepT.stay {w w' : World} (h : Mod w w' zp) {G : Nat → Prop} : ∀ (t : Tr) {cs : List Value}, RepT w G t cs → RepT w' G t cs
 | .mk n s nl l u, _, ⟨vs, vl, vu, h1, h2, h3, h4⟩ => ⟨vs, vl, vu, h1, h2.stay h, h3.imp id fun ⟨b, c, css, g1, g2, g3, g4, g5⟩ => ⟨b, c, css, g1, g2, g3, zcm.stay h l g4, zv h g5⟩, h4.stay h⟩
theorem zcm.stay {w w' : World} (h : Mod w w' zp) {G : Nat → Prop} : ∀ (l : List Tr) {css : List (List Value)}, zcm w G l css → zcm w' G l css
 | [], _, hr => hr
 | t :: l, _, ⟨c, r, h1, h2, h3⟩ => ⟨c, r, h1, RepT.stay h t h2, zcm.stay h l h3⟩
end
theorem UsG.mod {w w' : World} {M : Nat → Nat → Prop} {G G' : Nat → Prop} (h : Mod w w' M) (hG : ∀ k, G k → k < w.heap.size ∧ (∀ o, ¬ M k o) ∧ G' k) : ∀ {u : List (Nat × List UInt8)} {cs : List Value}, UsG w G u cs → UsG w' G' u cs
 | [], _, hu => hu
 | (k, l) :: r, _, ⟨v, rest, h1, h2, h3⟩ => ⟨v, rest, h1, h2.mod h hG, UsG.mod h hG h3⟩
theorem RepU.mod {w w' : World} {M : Nat → Nat → Prop} {G G' : Nat → Prop} (h : Mod w w' M) (hG : ∀ k, G k → k < w.heap.size ∧ (∀ o, ¬ M k o) ∧ G' k) {v : Value} {u : List (Nat × List UInt8)} (hu : RepU w G v u) : RepU w' G' v u := by
 rcases hu with hu | ⟨b, c, cs, h1, h2, h3, h4, h5⟩
 ·exact .inl hu
 ·refine .inr ⟨b, c, cs, h1, h2, fun hne => (hG b (h3 hne)).2.2, h4.mod h hG, ?_⟩
  cases u with
  | nil => simp only [UsG] at h4; subst h4; intro j v hj; simp at hj
  | cons x u => obtain ⟨g1, g2, _⟩ := hG b (h3 (by simp)); exact h.rangeAt g1 (fun i _ _ => g2 i) h5
mutual
theorem RepT.mod {w w' : World} {M : Nat → Nat → Prop} {G G' : Nat → Prop} (h : Mod w w' M) (hG : ∀ k, G k → k < w.heap.size ∧ (∀ o, ¬ M k o) ∧ G' k) : ∀ (t : Tr) {cs : List Value}, RepT w G t cs → RepT w' G' t cs
 | .mk n s nl l u, _, ⟨vs, vl, vu, h1, h2, h3, h4⟩ => ⟨vs, vl, vu, h1, h2.mod h hG, h3.imp id fun ⟨b, c, css, g1, g2, g3, g4, g5⟩ => ⟨b, c, css, g1, g2, fun hne => (hG b (g3 hne)).2.2, zcm.mod h hG l g4, by
   cases l with
   | nil => simp only [zcm] at g4; subst g4; intro j v hj; simp at hj
   | cons x l => obtain ⟨k1, k2, _⟩ := hG b (g3 (by simp)); exact h.rangeAt k1 (fun i _ _ => k2 i) g5⟩, h4.mod h hG⟩
theorem zcm.mod {w w' : World} {M : Nat → Nat → Prop} {G G' : Nat → Prop} (h : Mod w w' M) (hG : ∀ k, G k → k < w.heap.size ∧ (∀ o, ¬ M k o) ∧ G' k) : ∀ (l : List Tr) {css : List (List Value)}, zcm w G l css → zcm w' G' l css
 | [], _, hr => hr
 | t :: l, _, ⟨c, r, h1, h2, h3⟩ => ⟨c, r, h1, RepT.mod h hG t h2, zcm.mod h hG l h3⟩
end
theorem zcm.length {w : World} {G : Nat → Prop} : ∀ {l : List Tr} {css : List (List Value)}, zcm w G l css → css.length = l.length
 | [], _, h => by simp only [zcm] at h; subst h; rfl
 | t :: l, _, ⟨c, r, h1, h2, h3⟩ => by subst h1; simp [zcm.length h3]
theorem zcm.append {w : World} {G : Nat → Prop} : ∀ {l : List Tr} {css : List (List Value)} {l' : List Tr} {css' : List (List Value)}, zcm w G l css → zcm w G l' css' → zcm w G (l ++ l') (css ++ css')
 | [], _, _, _, h, h' => by simp only [zcm] at h; subst h; exact h'
 | t :: l, _, _, _, ⟨c, r, h1, h2, h3⟩, h' => by subst h1; exact ⟨c, r ++ _, rfl, h2, zcm.append h3 h'⟩
theorem zcm.get {w : World} {G : Nat → Prop} : ∀ {l : List Tr} {css : List (List Value)} {j : Nat} {t : Tr}, zcm w G l css → l[j]? = some t → ∃ c, css[j]? = some c ∧ RepT w G t c
 | [], _, j, t, _, hj => by simp at hj
 | t' :: l, _, 0, t, ⟨c, r, h1, h2, h3⟩, hj => by subst h1; simp at hj; subst hj; exact ⟨c, rfl, h2⟩
 | t' :: l, _, j + 1, t, ⟨c, r, h1, h2, h3⟩, hj => by subst h1; simpa using zcm.get h3 (by simpa using hj)
theorem zhb {w : World} {b n : Nat} : ∀ {css : List (List Value)} {o j : Nat} {c : List Value}, w.rangeAt b o css.flatten → (∀ x ∈ css, x.length = n) → css[j]? = some c → w.rangeAt b (o + j * n) c
 | [], o, j, c, _, _, hj => by simp at hj
 | x :: css, o, 0, c, h, hn, hj => by
  simp at hj; subst hj
  rw [List.flatten_cons, zq] at h
  simpa using h.1
 | x :: css, o, j + 1, c, h, hn, hj => by
  rw [List.flatten_cons, zq] at h
  have := zhb (j := j) h.2 (fun y hy => hn y (by simp [hy])) (by simpa using hj)
  rw [hn x (by simp)] at this
  rwa [show o + n + j * n = o + (j + 1) * n by rw [Nat.succ_mul]; omega] at this
theorem zcm.len5 {w : World} {G : Nat → Prop} : ∀ {l : List Tr} {css : List (List Value)}, zcm w G l css → ∀ x ∈ css, x.length = 5
 | [], _, h, x, hx => by simp only [zcm] at h; subst h; simp at hx
 | t :: l, _, ⟨c, r, h1, h2, h3⟩, x, hx => by
  subst h1
  rcases List.mem_cons.1 hx with rfl | hx
  ·exact h2.len
  ·exact zcm.len5 h3 x hx
structure zfi (P : Program) (N : Nums) (tt tg lt lg : TypeId) : Prop where
 tree : SF P tt [(0, 1), (1, 1), (2, 1), (3, 1), (4, 1)] 88 [.int .i64 0, .slice none 0 0, .bool false, .slice none 0 0, .slice none 0 0]
 tag : SF P tg [(0, 1), (1, 1)] 32 [.int .u32 0, .slice none 0 0]
 h0 : HF P tt 0 0
 h1 : HF P tt 1 1
 h2 : HF P tt 2 2
 h3 : HF P tt 3 3
 h4 : HF P tt 4 4
 g0 : HF P tg 0 0
 g1 : HF P tg 1 1
 lt : TI P lt (.slice tt) 1 24 (.slice none 0 0)
 lg : TI P lg (.slice tg) 1 24 (.slice none 0 0)
section
variable {P : Program} {N : Nums}
theorem run_bneq {t : TypeId} {sz by' : Nat} {z : Value} (h : TI P t .bool sz by' z) {x y : Operand} {a b : Bool} {w : World} :
  (do eqGuard .neq t x y (.bool a) (.bool b); binOp .neq t (.bool a) (.bool b) : Sem Value).run P w = .ok (.bool (a != b)) w := by
 have e : (Op.equal t (.bool a) (.bool b)).run P w = .ok (a == b) w := by
  unfold Op.equal Op.maxDepth
  rw [show (10000 : Nat) = 9999 + 1 from rfl]
  unfold Op.equalIn
  rw [Sem.run_bind, run_underlying h.und, Result.andThen_ok]
  rfl
 have e1 : (eqGuard .neq t x y (.bool a) (.bool b)).run P w = .ok () w := rfl
 rw [Sem.run_bind, e1, Result.andThen_ok]
 show ((do pure (.bool (!(← Op.equal t (.bool a) (.bool b)))) : Sem Value)).run P w = _
 rw [Sem.run_bind, e, Result.andThen_ok]
 rfl
def smallT : Tr → Prop
 | .mk _ s _ l u => s.length < 4611686018427387904 ∧ l.length < 4611686018427387904 ∧ u.length < 4611686018427387904 ∧ ∀ x ∈ u, x.2.length < 4611686018427387904
def ST (P : Program) (N : Nums) (t : Tr) : Prop := ∀ (w : World) (G G' : Nat → Prop) (c1 c2 : List Value), RepT w G t c1 → RepT w G' t c2 → Call P N.zcy #[.agg c1.toArray, .agg c2.toArray] w fun v w' => v = .bool true ∧ Mod w w' zp
theorem zmu {t : TypeId} {e : TypeId} {a b : Nat} {z : Value} (h : TI P t (.slice e) a b z) {ty : TypeId} {w : World} {v : Value} {n : Nat} (hv : (v = .slice none 0 0 ∧ n = 0) ∨ ∃ b c, v = .slice (some ⟨b, 0, none⟩) n c) : (Builtin.len_ #[t] ty #[v]).run P w = .ok (.int .i64 n) w := by
 rcases hv with ⟨rfl, rfl⟩ | ⟨b, c, rfl⟩
 ·exact h.run_len
 ·exact h.run_len
theorem same_tail (B : Base P N) (hT : zfi P N N.zb N.zz N.zk N.zh) {σ : Env} {w3 : World} {bA bB nl nu : Nat} {l1 l2 u1 u2 : Value} (f2 : σ 2 = .pointer (some ⟨bA, 0, none⟩)) (f3 : σ 3 = .pointer (some ⟨bB, 0, none⟩))
  (x3 : w3.cell? ⟨bA, 3, none⟩ = some l1) (x4 : w3.cell? ⟨bA, 4, none⟩ = some u1) (y3 : w3.cell? ⟨bB, 3, none⟩ = some l2) (y4 : w3.cell? ⟨bB, 4, none⟩ = some u2)
  (hl1 : (l1 = .slice none 0 0 ∧ nl = 0) ∨ ∃ b c, l1 = .slice (some ⟨b, 0, none⟩) nl c) (hl2 : (l2 = .slice none 0 0 ∧ nl = 0) ∨ ∃ b c, l2 = .slice (some ⟨b, 0, none⟩) nl c)
  (hu1 : (u1 = .slice none 0 0 ∧ nu = 0) ∨ ∃ b c, u1 = .slice (some ⟨b, 0, none⟩) nu c) (hu2 : (u2 = .slice none 0 0 ∧ nu = 0) ∨ ∃ b c, u2 = .slice (some ⟨b, 0, none⟩) nu c)
  {ρ : Env} (hρ : ∀ i, ρ (i + 100) = σ i) (h12 : ρ 12 = .bool false) (h17 : ρ 17 = .bool true) {K : Env → World → Prop} (hK : ∀ σ' : Env, σ' 2 = .pointer (some ⟨bA, 0, none⟩) → σ' 3 = .pointer (some ⟨bB, 0, none⟩) → σ' 5 = .bool false → K σ' w3) :
  runR P [
   ⟨some 18, .unOp .not N.zah (T 17), 0, (some (some 12, false)), []⟩,
   ⟨some 19, .pick (T 12) (.const (.bool true)) (T 18), 0, none, []⟩,
   ⟨some 20, .move (T 19), 0, none, []⟩,
   ⟨some 21, .fieldAddr N.zb (V 2) 3, 0, (some (some 20, false)), []⟩,
   ⟨some 22, .load N.zk (T 21), 0, (some (some 20, false)), []⟩,
   ⟨some 23, .call ⟨.builtin .len, #[T 22], #[N.zk]⟩, N.ze, (some (some 20, false)), []⟩,
   ⟨some 24, .fieldAddr N.zb (V 3) 3, 0, (some (some 20, false)), []⟩,
   ⟨some 25, .load N.zk (T 24), 0, (some (some 20, false)), []⟩,
   ⟨some 26, .call ⟨.builtin .len, #[T 25], #[N.zk]⟩, N.ze, (some (some 20, false)), []⟩,
   ⟨some 27, .binOp .neq N.ze (T 23) (T 26) N.ze, 0, (some (some 20, false)), []⟩,
   ⟨some 28, .pick (T 20) (.const (.bool true)) (T 27), 0, none, []⟩,
   ⟨some 29, .move (T 28), 0, none, []⟩,
   ⟨some 30, .fieldAddr N.zb (V 2) 4, 0, (some (some 29, false)), []⟩,
   ⟨some 31, .load N.zh (T 30), 0, (some (some 29, false)), []⟩,
   ⟨some 32, .call ⟨.builtin .len, #[T 31], #[N.zh]⟩, N.ze, (some (some 29, false)), []⟩,
   ⟨some 33, .fieldAddr N.zb (V 3) 4, 0, (some (some 29, false)), []⟩,
   ⟨some 34, .load N.zh (T 33), 0, (some (some 29, false)), []⟩,
   ⟨some 35, .call ⟨.builtin .len, #[T 34], #[N.zh]⟩, N.ze, (some (some 29, false)), []⟩,
   ⟨some 36, .binOp .neq N.ze (T 32) (T 35) N.ze, 0, (some (some 29, false)), []⟩,
   ⟨some (5+100), .pick (T 29) (.const (.bool true)) (T 36), 0, none, []⟩] ρ w3 fun ρ w => K (locs ρ) w := by
 have r2 : ρ 102 = .pointer (some ⟨bA, 0, none⟩) := by rw [← f2]; exact hρ 2
 have r3 : ρ 103 = .pointer (some ⟨bB, 0, none⟩) := by rw [← f3]; exact hρ 3
 simp +decide only [bK, bE, Nat.reduceBeqDiff, BEq.rfl, Nat.reduceAdd, Nat.zero_add, if_false, r2, r3, h12, h17, hT.h3.run, hT.h4.run, hT.lt.run_load1 rfl, hT.lg.run_load1 rfl, x3, x4, y3, y4, zmu hT.lt hl1, zmu hT.lt hl2, zmu hT.lg hu1, zmu hT.lg hu2, zas, zcc, bne_self_eq_false, Bool.not_true]
 refine hK _ ?_ ?_ ?_
 ·simp +decide only [bE, Nat.reduceBeqDiff, Nat.reduceAdd, r2]
 ·simp +decide only [bE, Nat.reduceBeqDiff, Nat.reduceAdd, r3]
 ·simp +decide only [bE, BEq.rfl, Nat.reduceAdd]
theorem zkg {P : Program} {K : Env → World → Prop} : ∀ (a b : List ROp) (ρ : Env) (w : World), runR P a ρ w (fun ρ w => runR P b ρ w K) → runR P (a ++ b) ρ w K
 | [], _, _, _, h => h
 | o :: a, b, ρ, w, h => by
  show zbn P o ρ w fun ρ w => runR P (a ++ b) ρ w K
  exact zfy (fun ρ w hk => zkg a b ρ w hk) h
theorem same_head (B : Base P N) (F : Fns P N) (hS : N.zdc ≠ 0) (hT : zfi P N N.zb N.zz N.zk N.zh) {σ : Env} {w2 : World} {bA bB : Nat} {n : Int} {nl : Bool} {s1 s2 : Value} {s : List UInt8} {G G' : Nat → Prop} (f2 : σ 2 = .pointer (some ⟨bA, 0, none⟩)) (f3 : σ 3 = .pointer (some ⟨bB, 0, none⟩))
  (x0 : w2.cell? ⟨bA, 0, none⟩ = some (.int .i64 n)) (x1 : w2.cell? ⟨bA, 1, none⟩ = some s1) (x2 : w2.cell? ⟨bA, 2, none⟩ = some (.bool nl)) (y0 : w2.cell? ⟨bB, 0, none⟩ = some (.int .i64 n)) (y1 : w2.cell? ⟨bB, 1, none⟩ = some s2) (y2 : w2.cell? ⟨bB, 2, none⟩ = some (.bool nl))
  (a1 : tagV w2 G s1 s) (b1 : tagV w2 G' s2 s) (hs : s.length < 4611686018427387904) {τ : Env} {K : Env → World → Prop} (hK : ∀ (ρ : Env) (w3 : World), Mod w2 w3 zp → (∀ i, ρ (i + 100) = σ i) → ρ 12 = .bool false → ρ 17 = .bool true → K ρ w3) :
  runR P [
   ⟨some 0, .fieldAddr N.zb (V 2) 0, 0, none, []⟩,
   ⟨some 1, .load N.zbe (T 0), 0, none, []⟩,
   ⟨some 2, .fieldAddr N.zb (V 3) 0, 0, none, []⟩,
   ⟨some 3, .load N.zbe (T 2), 0, none, []⟩,
   ⟨some 4, .binOp .neq N.zbe (T 1) (T 3) N.zbe, 0, none, []⟩,
   ⟨some 5, .move (T 4), 0, none, []⟩,
   ⟨some 6, .fieldAddr N.zb (V 2) 2, 0, (some (some 5, false)), []⟩,
   ⟨some 7, .load N.zah (T 6), 0, (some (some 5, false)), []⟩,
   ⟨some 8, .fieldAddr N.zb (V 3) 2, 0, (some (some 5, false)), []⟩,
   ⟨some 9, .load N.zah (T 8), 0, (some (some 5, false)), []⟩,
   ⟨some 10, .binOp .neq N.zah (T 7) (T 9) N.zah, 0, (some (some 5, false)), []⟩,
   ⟨some 11, .pick (T 5) (.const (.bool true)) (T 10), 0, none, []⟩,
   ⟨some 12, .move (T 11), 0, none, []⟩,
   ⟨some 13, .fieldAddr N.zb (V 2) 1, 0, (some (some 12, false)), []⟩,
   ⟨some 14, .load N.za (T 13), 0, (some (some 12, false)), []⟩,
   ⟨some 15, .fieldAddr N.zb (V 3) 1, 0, (some (some 12, false)), []⟩,
   ⟨some 16, .load N.za (T 15), 0, (some (some 12, false)), []⟩,
   ⟨some 17, .call ⟨.value (.func N.zdc), #[T 14, T 16], #[N.za, N.za]⟩, N.zah, (some (some 12, false)), []⟩] (zdm σ τ) w2 K := by
 simp +decide only [bK, bE, Nat.reduceBeqDiff, BEq.rfl, Nat.reduceAdd, Nat.add_zero, Nat.zero_add, if_false, f2, f3, hT.h0.run, hT.h1.run, hT.h2.run, B.int64.run_load1 rfl, B.bool.run_load1 rfl, B.Lu8.run_load1 rfl, x0, x1, x2, y0, y1, y2, zas, run_bneq B.bool, zcc, bne_self_eq_false]
 rw [zcs (F.spec_Same hS).has]
 simp +decide only [bK, bE, Nat.reduceBeqDiff, BEq.rfl]
 refine (zwm B F hS a1 b1 hs).mono ?_
 rintro v w3 ⟨rfl, m3⟩
 refine hK _ w3 m3 (fun i => ?_) ?_ ?_
 ·simp +decide only [bE, Nat.reduceBeqDiff]
 ·simp +decide only [bE, Nat.reduceBeqDiff, BEq.rfl]
 ·simp +decide only [bE, BEq.rfl]
end
section
variable {P : Program} {N : Nums}
theorem UsG.get {w : World} {G : Nat → Prop} : ∀ {u : List (Nat × List UInt8)} {cs : List Value} {j : Nat} {x : Nat × List UInt8}, UsG w G u cs → u[j]? = some x → ∃ v, cs[j * 2]? = some (.int .u32 x.1) ∧ cs[j * 2 + 1]? = some v ∧ tagV w G v x.2
 | [], _, j, x, _, hj => by simp at hj
 | (k, l) :: u, _, 0, x, ⟨v, rest, h1, h2, h3⟩, hj => by
  subst h1
  simp at hj; subst hj
  exact ⟨v, rfl, rfl, h2⟩
 | (k, l) :: u, _, j + 1, x, ⟨v, rest, h1, h2, h3⟩, hj => by
  subst h1
  obtain ⟨v', g1, g2, g3⟩ := UsG.get h3 (by simpa using hj)
  refine ⟨v', ?_, ?_, g3⟩
  ·rw [show (j + 1) * 2 = j * 2 + 1 + 1 by omega]; simpa using g1
  ·rw [show (j + 1) * 2 + 1 = j * 2 + 1 + 1 + 1 by omega]; simpa using g2
theorem W_sameTag (B : Base P N) (F : Fns P N) (hS : N.zdc ≠ 0) (hT : zfi P N N.zb N.zz N.zk N.zh) {loc : List Nat} {N' : Nat} {Q : Exit → Env → World → Prop} {σ : Env} {w : World} {bA bB b1 b2 c1 c2 nu j k : Nat} {v1 v2 : Value} {s : List UInt8} {G G' : Nat → Prop}
  (f2 : σ 2 = .pointer (some ⟨bA, 0, none⟩)) (f3 : σ 3 = .pointer (some ⟨bB, 0, none⟩)) (f14 : σ 14 = .int .i64 j) (hj : j < nu)
  (x4 : w.drew.cell? ⟨bA, 4, none⟩ = some (.slice (some ⟨b1, 0, none⟩) nu c1)) (y4 : w.drew.cell? ⟨bB, 4, none⟩ = some (.slice (some ⟨b2, 0, none⟩) nu c2))
  (k1 : w.drew.cell? ⟨b1, j * 2, none⟩ = some (.int .u32 k)) (k2 : w.drew.cell? ⟨b2, j * 2, none⟩ = some (.int .u32 k)) (e1 : w.drew.cell? ⟨b1, j * 2 + 1, none⟩ = some v1) (e2 : w.drew.cell? ⟨b2, j * 2 + 1, none⟩ = some v2)
  (a1 : tagV w.drew G v1 s) (a2 : tagV w.drew G' v2 s) (hs : s.length < 4611686018427387904)
  (hQ : ∀ (σ' : Env) (w' : World), Mod w.drew w' zp → (∀ i, i ≠ 15 → σ' i = σ i) → σ' 15 = .bool false → Q .normal σ' w') : W P loc N' (.draw [
   ⟨some 0, .fieldAddr N.zb (V 2) 4, 0, none, []⟩,
   ⟨some 1, .load N.zh (T 0), 0, none, [0]⟩,
   ⟨some 2, .move (V 14), 0, none, []⟩,
   ⟨some 3, .indexAddr N.zh (T 1) (T 2), 0, none, [1, 2]⟩,
   ⟨some 4, .fieldAddr N.zz (T 3) 0, 0, none, [3]⟩,
   ⟨some 5, .load N.zj (T 4), 0, none, [4]⟩,
   ⟨some 6, .fieldAddr N.zb (V 3) 4, 0, none, []⟩,
   ⟨some 7, .load N.zh (T 6), 0, none, [6]⟩,
   ⟨some 8, .move (V 14), 0, none, []⟩,
   ⟨some 9, .indexAddr N.zh (T 7) (T 8), 0, none, [7, 8]⟩,
   ⟨some 10, .fieldAddr N.zz (T 9) 0, 0, none, [9]⟩,
   ⟨some 11, .load N.zj (T 10), 0, none, [10]⟩,
   ⟨some 12, .binOp .neq N.zj (T 5) (T 11) N.zj, 0, none, [5, 11]⟩,
   ⟨some 13, .move (T 12), 0, none, [12]⟩,
   ⟨some 14, .fieldAddr N.zb (V 2) 4, 0, (some (some 13, false)), [13]⟩,
   ⟨some 15, .load N.zh (T 14), 0, (some (some 13, false)), [14, 13]⟩,
   ⟨some 16, .move (V 14), 0, (some (some 13, false)), [13]⟩,
   ⟨some 17, .indexAddr N.zh (T 15) (T 16), 0, (some (some 13, false)), [15, 16, 13]⟩,
   ⟨some 18, .fieldAddr N.zz (T 17) 1, 0, (some (some 13, false)), [17, 13]⟩,
   ⟨some 19, .load N.za (T 18), 0, (some (some 13, false)), [18, 13]⟩,
   ⟨some 20, .fieldAddr N.zb (V 3) 4, 0, (some (some 13, false)), [13]⟩,
   ⟨some 21, .load N.zh (T 20), 0, (some (some 13, false)), [20, 13]⟩,
   ⟨some 22, .move (V 14), 0, (some (some 13, false)), [13]⟩,
   ⟨some 23, .indexAddr N.zh (T 21) (T 22), 0, (some (some 13, false)), [21, 22, 13]⟩,
   ⟨some 24, .fieldAddr N.zz (T 23) 1, 0, (some (some 13, false)), [23, 13]⟩,
   ⟨some 25, .load N.za (T 24), 0, (some (some 13, false)), [24, 13]⟩,
   ⟨some 26, .call ⟨.value (.func N.zdc), #[T 19, T 25], #[N.za, N.za]⟩, N.zah, (some (some 13, false)), [19, 25, 13, 13]⟩,
   ⟨some 27, .unOp .not N.zah (T 26), 0, (some (some 13, false)), [26, 13]⟩,
   ⟨some (15+100), .pick (T 13) (.const (.bool true)) (T 27), 0, none, [13, 27]⟩]) Q σ w := by
 obtain ⟨fs, ht0, _⟩ := hT.tag.out
 have ht : TI P N.zz (.struct fs) 2 32 (.agg [.int .u32 0, .slice none 0 0].toArray) := ht0
 have ix1 := fun w => zab (w := w) hT.lg ht (bl := b1) (o := 0) (n := nu) (c := c1) (i := j) (k := .i64) hj
 have ix2 := fun w => zab (w := w) hT.lg ht (bl := b2) (o := 0) (n := nu) (c := c2) (i := j) (k := .i64) hj
 simp only [Nat.zero_add] at ix1 ix2
 refine W_drawK B.mixed 26 (by kernel_rfl) fun τ => ?_
 simp +decide only [bK, bE, zfa, Nat.reduceBeqDiff, BEq.rfl, Nat.reduceAdd, Nat.add_zero, Nat.zero_add, List.take_succ_cons, List.take_zero, List.drop_succ_cons, List.drop_zero, true_and, f2, f3, f14, hT.h4.run, hT.g0.run, hT.g1.run, hT.lg.run_load1 rfl, B.uint32.run_load1 rfl, B.Lu8.run_load1 rfl, x4, y4, ix1, ix2, k1, k2, e1, e2, zas, bne_self_eq_false]
 rw [zcs (F.spec_Same hS).has]
 simp +decide only [bK, bE, Nat.reduceBeqDiff, BEq.rfl]
 refine (zwm B F hS a1 a2 hs).mono ?_
 rintro v w3 ⟨rfl, m3⟩
 simp +decide only [bK, bE, Nat.reduceBeqDiff, BEq.rfl, if_false, zas, zcc, Bool.not_true]
 refine zf (K := fun σ' w' => Q .normal σ' w') fun σ4 hσ => hQ _ _ m3 (fun i hi => ?_) ?_
 ·have := hσ i
  rw [this, zhu, show (i + 100 == 15 + 100) = false from by simpa using hi]
  simp +decide only [bE, Nat.reduceBeqDiff]
 ·have := hσ 15
  simp +decide only [bE, BEq.rfl, Nat.reduceAdd] at this
  exact this
end
section
variable {P : Program} {N : Nums}
theorem same_step (B : Base P N) (F : Fns P N) (hN : N.zcy ≠ 0) (hT : zfi P N N.zb N.zz N.zk N.zh) {n : Int} {s : List UInt8} {nl : Bool} {l : List Tr} {u : List (Nat × List UInt8)}
  (hsm : smallT (.mk n s nl l u)) (ih : ∀ x ∈ l, ST P N x) : ST P N (.mk n s nl l u) := by
 intro w G G' c1 c2 h1 h2
 have hF := F.spec_SameTree hN
 obtain ⟨hs, hl, hu, huv⟩ := hsm
 refine hF.1.call rfl fun loc N' hlo => ?_
 unfold zlr
 simp only [RepT] at h1 h2
 obtain ⟨s1, l1, u1, rfl, a1, a2, a3⟩ := h1
 obtain ⟨s2, l2, u2, rfl, b1, b2, b3⟩ := h2
 refine zd fun K hK => zaa fun τ => ?_
 simp +decide only [bK, bE, Nat.reduceBeqDiff, Nat.reduceAdd, Nat.zero_add]
 obtain ⟨w1, hw1⟩ : ∃ w1, w1 = w.alloc (.cells (Value.cells (.agg [.int .i64 n, s1, .bool nl, l1, u1].toArray)) N.zb) := ⟨_, rfl⟩
 have m1 : Mod w w1 zp := by rw [hw1]; exact Mod.alloc _ _ _
 have r1 : w1.rangeAt w.heap.size 0 [.int .i64 n, s1, .bool nl, l1, u1] := by rw [hw1]; exact zw w _ _ _
 rw [← hw1]
 clear hw1
 obtain ⟨w2, hw2⟩ : ∃ w2, w2 = w1.alloc (.cells (Value.cells (.agg [.int .i64 n, s2, .bool nl, l2, u2].toArray)) N.zb) := ⟨_, rfl⟩
 have m2 : Mod w1 w2 zp := by rw [hw2]; exact Mod.alloc _ _ _
 have r2 : w2.rangeAt w1.heap.size 0 [.int .i64 n, s2, .bool nl, l2, u2] := by rw [hw2]; exact zw w1 _ _ _
 rw [← hw2]
 clear hw2
 have m02 : Mod w w2 zp := m1.trans' m2
 have r1' := zv m2 r1
 obtain ⟨bA, hbA⟩ : ∃ b, b = w.heap.size := ⟨_, rfl⟩
 obtain ⟨bB, hbB⟩ : ∃ b, b = w1.heap.size := ⟨_, rfl⟩
 rw [← hbA] at r1' ⊢
 rw [← hbB] at r2 ⊢
 refine hK _ _ (zf fun σ hσ => ?_)
 have f2 := hσ 2
 have f3 := hσ 3
 simp +decide only [bE, Nat.reduceBeqDiff, BEq.rfl, Nat.reduceAdd] at f2 f3
 clear hσ hK K r1 m1 m2
 have cells : ∀ {w' : World}, Mod w2 w' zp → (w'.cell? ⟨bA, 0, none⟩ = some (.int .i64 n) ∧ w'.cell? ⟨bA, 1, none⟩ = some s1 ∧ w'.cell? ⟨bA, 2, none⟩ = some (.bool nl) ∧ w'.cell? ⟨bA, 3, none⟩ = some l1 ∧ w'.cell? ⟨bA, 4, none⟩ = some u1) ∧
   (w'.cell? ⟨bB, 0, none⟩ = some (.int .i64 n) ∧ w'.cell? ⟨bB, 1, none⟩ = some s2 ∧ w'.cell? ⟨bB, 2, none⟩ = some (.bool nl) ∧ w'.cell? ⟨bB, 3, none⟩ = some l2 ∧ w'.cell? ⟨bB, 4, none⟩ = some u2) := by
  intro w' hm
  have q1 := zv hm r1'
  have q2 := zv hm r2
  exact ⟨⟨q1 0 _ rfl, q1 1 _ rfl, q1 2 _ rfl, q1 3 _ rfl, q1 4 _ rfl⟩, ⟨q2 0 _ rfl, q2 1 _ rfl, q2 2 _ rfl, q2 3 _ rfl, q2 4 _ rfl⟩⟩
 obtain ⟨⟨x0, x1, x2, x3, x4⟩, ⟨y0, y1, y2, y3, y4⟩⟩ := cells (.refl w2 _)
 refine zd fun K hK => zd fun K1 hK1 => zaa fun τ => zkg [_, _, _, _, _, _, _, _, _, _, _, _, _, _, _, _, _, _] _ _ _ (same_head B F hF.2 hT f2 f3 x0 x1 x2 y0 y1 y2 (a1.stay m02) (b1.stay m02) hs fun ρ w3 m3 hρ h12 h17 => ?_)
 obtain ⟨⟨x0, x1, x2, x3, x4⟩, ⟨y0, y1, y2, y3, y4⟩⟩ := cells m3
 have hl1 : (l1 = .slice none 0 0 ∧ l.length = 0) ∨ ∃ b c, l1 = .slice (some ⟨b, 0, none⟩) l.length c := a2.imp (fun h => ⟨h.1, by rw [h.2]; rfl⟩) fun ⟨b, c, _, h, _⟩ => ⟨b, c, h⟩
 have hl2 : (l2 = .slice none 0 0 ∧ l.length = 0) ∨ ∃ b c, l2 = .slice (some ⟨b, 0, none⟩) l.length c := b2.imp (fun h => ⟨h.1, by rw [h.2]; rfl⟩) fun ⟨b, c, _, h, _⟩ => ⟨b, c, h⟩
 have hu1 : (u1 = .slice none 0 0 ∧ u.length = 0) ∨ ∃ b c, u1 = .slice (some ⟨b, 0, none⟩) u.length c := a3.imp (fun h => ⟨h.1, by rw [h.2]; rfl⟩) fun ⟨b, c, _, h, _⟩ => ⟨b, c, h⟩
 have hu2 : (u2 = .slice none 0 0 ∧ u.length = 0) ∨ ∃ b c, u2 = .slice (some ⟨b, 0, none⟩) u.length c := b3.imp (fun h => ⟨h.1, by rw [h.2]; rfl⟩) fun ⟨b, c, _, h, _⟩ => ⟨b, c, h⟩
 refine same_tail B hT f2 f3 x3 x4 y3 y4 hl1 hl2 hu1 hu2 hρ h12 h17 (K := K1) fun σ1 g2 g3 g5 => hK1 _ _ ?_
 clear hK1 K1
 refine W_if hlo g5 ?_
 rw [if_neg (by simp)]
 refine zbw (hK _ _ ?_)
 clear hK K g5
 have m23 : Mod w2 w3 zp := m3
 refine zd fun K hK => zd fun K1 hK1 => zaa fun τ => ?_
 simp +decide only [bK, bE, BEq.rfl, Nat.reduceAdd, Nat.zero_add, g2, hT.h3.run, hT.lt.run_load1 rfl, x3, zmu hT.lt hl1]
 refine hK1 _ _ (zf fun σ2 hσ => ?_)
 have p2 := hσ 2
 have p3 := hσ 3
 have p6 := hσ 6
 have p7 := hσ 7
 simp +decide only [bE, Nat.reduceBeqDiff, BEq.rfl, Nat.reduceAdd, g2, g3] at p2 p3 p6 p7
 clear hσ hK1 K1
 refine zjm (i := 7) (l := 6) (c := 8) (k := 0) hlo hl (fun j σ w' => σ 2 = .pointer (some ⟨bA, 0, none⟩) ∧ σ 3 = .pointer (some ⟨bB, 0, none⟩) ∧ σ 6 = .int .i64 l.length ∧ σ 7 = .int .i64 j ∧ j ≤ l.length ∧ Mod w2 w' zp) (fun j σ w h => ⟨h.2.2.2.1, h.2.2.1, h.2.2.2.2.1⟩) (fun j σ w b h => ?_) ⟨p2, p3, p6, p7, Nat.zero_le _, m3⟩ (fun σ' w' h => hK _ _ ?_) (fun j σ' w' hj h => ?_)
 ·obtain ⟨a, b, c, d, e, f⟩ := h
  exact ⟨by rw [zi (by decide)]; exact a, by rw [zi (by decide)]; exact b, by rw [zi (by decide)]; exact c, by rw [zi (by decide)]; exact d, e, f⟩
 ·obtain ⟨c2', c3', _, _, _, m5⟩ := h
  obtain ⟨⟨z0, z1, z2, z3, z4⟩, ⟨t0, t1, t2, t3, t4⟩⟩ := cells m5
  refine zd fun K2 hK2 => zd fun K3 hK3 => zaa fun τ => ?_
  simp +decide only [bK, bE, BEq.rfl, Nat.reduceAdd, Nat.zero_add, c2', hT.h4.run, hT.lg.run_load1 rfl, z4, zmu hT.lg hu1]
  refine hK3 _ _ (zf fun σ5 hσ => ?_)
  have d2 := hσ 2
  have d3 := hσ 3
  have d11 := hσ 11
  have d12 := hσ 12
  simp +decide only [bE, Nat.reduceBeqDiff, BEq.rfl, Nat.reduceAdd, c2', c3'] at d2 d3 d11 d12
  clear hσ hK3 K3
  refine zjm (i := 12) (l := 11) (c := 13) (k := 2) hlo hu (fun j σ w' => σ 2 = .pointer (some ⟨bA, 0, none⟩) ∧ σ 3 = .pointer (some ⟨bB, 0, none⟩) ∧ σ 11 = .int .i64 u.length ∧ σ 12 = .int .i64 j ∧ j ≤ u.length ∧ Mod w2 w' zp) (fun j σ w h => ⟨h.2.2.2.1, h.2.2.1, h.2.2.2.2.1⟩) (fun j σ w b h => ?_) ⟨d2, d3, d11, d12, Nat.zero_le _, m5⟩ (fun σ' w' h => hK2 _ _ ?_) (fun j σ' w' hj h => ?_)
  ·obtain ⟨a, b, c, d, e, f⟩ := h
   exact ⟨by rw [zi (by decide)]; exact a, by rw [zi (by decide)]; exact b, by rw [zi (by decide)]; exact c, by rw [zi (by decide)]; exact d, e, f⟩
  ·exact zd fun K4 hK4 => zav (hK4 _ _ (zbx ⟨.inr rfl, _, rfl, upd_same _ _ _, m02.trans' h.2.2.2.2.2⟩))
  ·obtain ⟨a, b, c, d, e, f⟩ := h
   refine zd fun K4 hK4 => zaa fun τ => ?_
   simp +decide only [bK, bE, BEq.rfl, Nat.reduceAdd, d]
   refine hK4 _ _ (zf fun σ3 hσ => ?_)
   have q2 := hσ 2
   have q3 := hσ 3
   have q11 := hσ 11
   have q12 := hσ 12
   have q14 := hσ 14
   simp +decide only [bE, Nat.reduceBeqDiff, BEq.rfl, Nat.reduceAdd, a, b, c, d] at q2 q3 q11 q12 q14
   clear hσ hK4 K4
   have md : Mod w2 w'.drew zp := f.trans' (Mod.drew _ _)
   obtain ⟨⟨_, _, _, _, z4⟩, ⟨_, _, _, _, t4⟩⟩ := cells md
   have hmw : Mod w w'.drew zp := m02.trans' md
   have hx : u[j]? = some u[j] := List.getElem?_eq_getElem hj
   have elem : ∀ {G : Nat → Prop} {uv : Value}, RepU w G uv u → ∃ bb cc v, uv = .slice (some ⟨bb, 0, none⟩) u.length cc ∧ w'.drew.cell? ⟨bb, j * 2, none⟩ = some (.int .u32 (u[j]).1) ∧ w'.drew.cell? ⟨bb, j * 2 + 1, none⟩ = some v ∧ tagV w'.drew G v (u[j]).2 := by
    intro G uv h
    rcases h with ⟨_, h⟩ | ⟨bb, cc, cs, h1, _, _, h4, h5⟩
    ·rw [h] at hj; simp at hj
    ·obtain ⟨v, g1, g2, g3⟩ := h4.get hx
     have r5 := zv hmw h5
     have k1 := r5 _ _ g1
     have k2 := r5 _ _ g2
     rw [Nat.zero_add] at k1 k2
     exact ⟨bb, cc, v, h1, k1, k2, g3.stay hmw⟩
   obtain ⟨bb1, cc1, v1, e1, k1, n1, g1⟩ := elem a3
   obtain ⟨bb2, cc2, v2, e2, k2, n2, g2⟩ := elem b3
   rw [e1] at z4
   rw [e2] at t4
   refine zd fun K4 hK4 => W_sameTag B F hF.2 hT q2 q3 q14 hj z4 t4 k1 k2 n1 n2 g1 g2 (huv _ (List.getElem_mem hj)) fun σ4 w4 m4 hag h15 => hK4 _ _ (W_if hlo h15 ?_)
   rw [if_neg (by simp)]
   refine zbw ⟨by rw [hag _ (by decide)]; exact q12, ?_⟩
   exact ⟨by rw [zi (by decide), hag _ (by decide)]; exact q2, by rw [zi (by decide), hag _ (by decide)]; exact q3, by rw [zi (by decide), hag _ (by decide)]; exact q11, upd_same _ _ _, by omega, md.trans' m4⟩
 ·obtain ⟨a, b, c, d, e, f⟩ := h
  refine zd fun K2 hK2 => zaa fun τ => ?_
  simp +decide only [bK, bE, BEq.rfl, Nat.reduceAdd, d]
  refine hK2 _ _ (zf fun σ3 hσ => ?_)
  have q2 := hσ 2
  have q3 := hσ 3
  have q6 := hσ 6
  have q7 := hσ 7
  have q9 := hσ 9
  simp +decide only [bE, Nat.reduceBeqDiff, BEq.rfl, Nat.reduceAdd, a, b, c, d] at q2 q3 q6 q7 q9
  clear hσ hK2 K2
  have md : Mod w2 w'.drew zp := f.trans' (Mod.drew _ _)
  obtain ⟨⟨z0, z1, z2, z3, z4⟩, ⟨t0, t1, t2, t3, t4⟩⟩ := cells md
  have hx : l[j]? = some l[j] := List.getElem?_eq_getElem hj
  have elem : ∀ {G : Nat → Prop} {lv : Value}, ((lv = .slice none 0 0 ∧ l = []) ∨ ∃ b c css, lv = .slice (some ⟨b, 0, none⟩) l.length c ∧ l.length ≤ c ∧ (l ≠ [] → G b) ∧ zcm w G l css ∧ w.rangeAt b 0 css.flatten) →
    ∃ bb c cs, lv = .slice (some ⟨bb, 0, none⟩) l.length c ∧ RepT w'.drew G l[j] cs ∧ w'.drew.rangeAt bb (0 + j * 5) cs := by
   intro G lv h
   rcases h with ⟨_, h⟩ | ⟨bb, c, css, h1, _, _, h4, h5⟩
   ·rw [h] at hj; simp at hj
   ·obtain ⟨cs, hc, hr⟩ := h4.get hx
    have hmw : Mod w w'.drew zp := m02.trans' md
    exact ⟨bb, c, cs, h1, RepT.stay hmw _ hr, zv hmw (zhb h5 h4.len5 hc)⟩
  obtain ⟨bb1, cc1, cs1, e1, hr1, hg1⟩ := elem a2
  obtain ⟨bb2, cc2, cs2, e2, hr2, hg2⟩ := elem b2
  rw [e1] at z3
  rw [e2] at t3
  obtain ⟨fs, htree0, _⟩ := hT.tree.out
  have htree : TI P N.zb (.struct fs) 5 88 (.agg [.int .i64 0, .slice none 0 0, .bool false, .slice none 0 0, .slice none 0 0].toArray) := htree0
  have ix1 := fun w => zab (w := w) hT.lt htree (bl := bb1) (o := 0) (n := l.length) (c := cc1) (i := j) (k := .i64) hj
  have ix2 := fun w => zab (w := w) hT.lt htree (bl := bb2) (o := 0) (n := l.length) (c := cc2) (i := j) (k := .i64) hj
  rw [Nat.zero_add] at hg1 hg2
  simp only [Nat.zero_add] at ix1 ix2
  have ld1 := htree.run_load hg1 hr1.len (fun h => by cases h)
  have ld2 := htree.run_load hg2 hr2.len (fun h => by cases h)
  have lv1 : ∀ cs, ldv (.struct fs) cs = .agg cs.toArray := fun _ => rfl
  rw [lv1] at ld1 ld2
  refine zd fun K2 hK2 => W_drawK B.mixed 10 (by kernel_rfl) fun τ => ?_
  simp +decide (disch := omega) only [bK, bE, zfa, Nat.reduceBeqDiff, BEq.rfl, Nat.reduceAdd, Nat.zero_add, List.take_succ_cons, List.take_zero, List.drop_succ_cons, List.drop_zero, true_and, q2, q3, q9, hT.h3.run, hT.lt.run_load1 rfl, z3, t3, ix1, ix2, ld1, ld2]
  rw [zcs hF.1.has]
  simp +decide only [bK, bE, Nat.reduceBeqDiff, BEq.rfl]
  refine (ih _ (List.getElem_mem hj) w'.drew G G' cs1 cs2 hr1 hr2).mono ?_
  rintro v w4 ⟨rfl, m4⟩
  simp +decide only [bK, Bool.not_true]
  refine hK2 _ _ (zf fun σ4 hσ => ?_)
  have t2 := hσ 2
  have t3 := hσ 3
  have t6 := hσ 6
  have t7 := hσ 7
  have t10 := hσ 10
  simp +decide only [bE, Nat.reduceBeqDiff, BEq.rfl, Nat.reduceAdd, q2, q3, q6, q7] at t2 t3 t6 t7 t10
  clear hσ hK2 K2
  refine W_if hlo t10 ?_
  rw [if_neg (by simp)]
  refine zbw ⟨t7, ?_⟩
  exact ⟨by rw [zi (by decide)]; exact t2, by rw [zi (by decide)]; exact t3, by rw [zi (by decide)]; exact t6, upd_same _ _ _, by omega, md.trans' m4⟩
end
mutual
def okT : Tr → Prop
 | .mk n s nl l u => smallT (.mk n s nl l u) ∧ okTs l
def okTs : List Tr → Prop
 | [] => True
 | t :: l => okT t ∧ okTs l
end
section
variable {P : Program} {N : Nums}
mutual
theorem sameTree (B : Base P N) (F : Fns P N) (hN : N.zcy ≠ 0) (hT : zfi P N N.zb N.zz N.zk N.zh) : ∀ (t : Tr), okT t → ST P N t
 | .mk n s nl l u, h => same_step B F hN hT h.1 (zvo B F hN hT l h.2)
theorem zvo (B : Base P N) (F : Fns P N) (hN : N.zcy ≠ 0) (hT : zfi P N N.zb N.zz N.zk N.zh) : ∀ (l : List Tr), okTs l → ∀ x ∈ l, ST P N x
 | [], _, x, hx => by simp at hx
 | t :: l, h, x, hx => by
  rcases List.mem_cons.1 hx with e | hx
  ·rw [e]; exact sameTree B F hN hT t h.1
  ·exact zvo B F hN hT l h.2 x hx
end
end
def Own (w : World) (lo sz : Nat) (v : Value) (n : Nat) (cs : List Value) : Prop :=
 (v = .slice none 0 0 ∧ n = 0 ∧ cs = []) ∨ ∃ b c, v = .slice (some ⟨b, 0, none⟩) n c ∧ lo ≤ b ∧ b < w.heap.size ∧ n ≤ c ∧ w.there b 0 (c * sz) ∧ w.rangeAt b 0 cs ∧ cs.length = n * sz
def zao (v : Value) (k : Nat) : Prop := ∀ b o s n c, v = .slice (some ⟨b, o, s⟩) n c → k ≠ b
section
variable {P : Program} {N : Nums}
theorem zfv {st et ty : TypeId} {a b sz by' : Nat} {z z' : Value} {d : TypeDesc} (hS : TI P st (.slice et) a b z') (ht : TI P et d sz by' z) {w : World} {lo n bs cb m : Nat} {v : Value} {cs new : List Value} (ho : Own w lo sz v n cs)
  (hn : w.rangeAt bs 0 new) (hnl : new.length = m * sz) (h1 : ∀ c ∈ new, c.oneCell' = true) (hlo : lo ≤ w.heap.size) (hz : z.cells.size = sz) (hold : ∀ c ∈ cs, c.oneCell' = true)
  (hbig : n + m < 1099511627776) (hby : by' ≤ 128) (hm : 0 < m) :
  ∃ v' w', (Builtin.append_ #[st, st] ty #[v, .slice (some ⟨bs, 0, none⟩) m cb]).run P w = .ok v' w' ∧ Own w' lo sz v' (n + m) (cs ++ new) ∧ Mod w w' (fun i _ => ¬ zao v i) ∧ v'.oneCell' = true ∧ (∀ k, k < w.heap.size → zao v k → zao v' k) := by
 obtain ⟨i, hi, hsz, hbytes, hzero⟩ := ht.info
 subst hsz
 have hsrc : Src P i.size st (.slice (some ⟨bs, 0, none⟩) m cb) m new w := Src.ofSlice w hS.und ⟨bs, 0, none⟩ m cb new hnl (fun j u hj => by rw [Addr.add_mid]; exact hn j u hj) h1
 have fits : ∀ c, c < n + m → Builtin.nextslicecap (n + m) c * i.bytes ≤ 281474976710656 := by
  intro c hc
  have h1 := nextslicecap_le hc
  have h2 : Builtin.nextslicecap (n + m) c * i.bytes ≤ (2 * (n + m)) * 128 := Nat.mul_le_mul h1 (by omega)
  omega
 have grown : ∀ (base : Option Addr) (c : Nat), v = .slice base n c → c < n + m → (Builtin.firstCells i.size n (.slice base n c)).run P w.drew = .ok cs.toArray w.drew → cs.length = n * i.size →
   ∃ v' w', (Builtin.append_ #[st, st] ty #[v, .slice (some ⟨bs, 0, none⟩) m cb]).run P w = .ok v' w' ∧ Own w' lo i.size v' (n + m) (cs ++ new) ∧ Mod w w' (fun i _ => ¬ zao v i) ∧ v'.oneCell' = true ∧ (∀ k, k < w.heap.size → zao v k → zao v' k) := by
  intro base c hv hc hold' hcl
  have hrun := run_append_grow_src (P := P) w st st ty et i z hS.und hi hzero base n c cs hold' (.slice (some ⟨bs, 0, none⟩) m cb) m new hsrc hc (by omega) (fits c hc)
  refine ⟨_, _, by rw [hv]; exact hrun, .inr ⟨w.heap.size, _, rfl, hlo, by rw [zan]; exact Nat.lt_succ_self _, grownCap_ge w (n + m) c et, ?_, ?_, by rw [List.length_append, hcl, hnl, Nat.add_mul]⟩, (Mod.drew w _).trans' (Mod.alloc _ _ _), rfl, fun k hk _ b o s n c e => by injection e with e1 _ _; injection e1 with e2; injection e2 with e3; omega⟩
  ·have ht2 := zbj w.drew ((cs ++ new).toArray ++ Builtin.zeroCells z.cells (grownCap w (n + m) c et - (n + m))) et
   intro j hj
   refine ht2 j ?_
   have hzc : (Builtin.zeroCells z.cells (grownCap w (n + m) c et - (n + m))).size = (grownCap w (n + m) c et - (n + m)) * i.size := by simp [Builtin.zeroCells, hz]
   rw [Array.size_append, hzc, List.size_toArray, List.length_append, hcl, hnl, ← Nat.add_mul, ← Nat.add_mul]
   have hge := grownCap_ge w (n + m) c et
   rwa [show n + m + (grownCap w (n + m) c et - (n + m)) = grownCap w (n + m) c et by omega]
  ·have hr := zw w.drew ((cs ++ new).toArray ++ Builtin.zeroCells z.cells (grownCap w (n + m) c et - (n + m))) et (0, 0)
   exact (zq.1 (by simpa using hr)).1
 rcases ho with ⟨hv, hn0, hcs⟩ | ⟨b, c, hv, hb1, hb2, hnc, hth, hrg, hcl⟩
 ·subst hcs
  exact grown none 0 (by rw [hv, hn0]) (by omega) (by rw [hn0]; rfl) (by rw [hn0]; simp)
 ·by_cases hroom : n + m ≤ c
  ·have hle : n * i.size + new.length ≤ c * i.size := by
    rw [hnl, ← Nat.add_mul]; exact Nat.mul_le_mul_right _ hroom
   have hrun := run_append_room_src (P := P) w st st ty et i hS.und hi b 0 n c (.slice (some ⟨bs, 0, none⟩) m cb) m new hsrc hroom (fun j hj => by
    have := (hth (n * i.size + j) (by omega)).1; simpa [Nat.add_assoc] using this) (fun j hj => by
    have := (hth (n * i.size + j) (by omega)).2; simpa [Nat.add_assoc] using this)
   have ms : Mod w (w.setCells b (0 + n * i.size) new) (rng b (0 + n * i.size) new.length) := Mod.setCells _ _ _ fun _ k h1 h2 => ⟨rfl, h1, h2⟩
   refine ⟨_, _, by rw [hv]; exact hrun, .inr ⟨b, c, rfl, hb1, Nat.lt_of_lt_of_le hb2 ms.size, hroom, ms.there hb2 hth, ?_, by rw [List.length_append, hcl, hnl, Nat.add_mul]⟩, ms.mono (fun k o _ h hn => hn b 0 none n c hv h.1), rfl, fun k hk hn b' o' s' n' c' e => by
    injection e with e1 _ _; injection e1 with e2; injection e2 with e3; subst e3; exact hn b 0 none n c hv⟩
   rw [zq]
   refine ⟨ms.rangeAt hb2 (fun k h1 h2 h => by have := h.2.1; omega) hrg, ?_⟩
   rw [hcl]
   have hset : ∀ (l : List Value) (o : Nat) (w : World), (∀ j, j < l.length → (w.cell? ⟨b, o + j, none⟩).isSome = true) → (w.setCells b o l).rangeAt b o l := by
    intro l o w hl
    have hex : ∃ old : List Value, old.length = l.length ∧ w.rangeAt b o old := by
     refine ⟨(List.range l.length).map fun j => (w.cell? ⟨b, o + j, none⟩).getD undef, by simp, fun j v hj => ?_⟩
     rw [List.getElem?_map] at hj
     cases hr : (List.range l.length)[j]? with
     | none => rw [hr] at hj; simp at hj
     | some k =>
      rw [hr] at hj
      have hk : k = j := by
       have := List.getElem?_eq_some_iff.1 hr
       obtain ⟨h1, h2⟩ := this
       simpa using h2.symm
      subst hk
      have hlt : k < l.length := by have := (List.getElem?_eq_some_iff.1 hr).1; simpa using this
      have hs := hl k hlt
      simp only [Option.map_some, Option.some.injEq] at hj
      cases hc : w.cell? ⟨b, o + k, none⟩ with
      | none => rw [hc] at hs; cases hs
      | some x => rw [hc] at hj; simp at hj; rw [hj]
    obtain ⟨old, ho1, ho2⟩ := hex
    have := zak l o w old ho2 (by omega)
    rwa [List.drop_of_length_le (by omega), List.append_nil] at this
   exact hset new _ w (fun j hj => by have := (hth (n * i.size + j) (by omega)).1; simpa [Nat.add_assoc] using this)
  ·have hfc : (Builtin.firstCells i.size n (.slice (some ⟨b, 0, none⟩) n c)).run P w.drew = .ok cs.toArray w.drew :=
    run_firstCells_some w.drew i.size n ⟨b, 0, none⟩ n c cs hcl (fun j u hj => by rw [Addr.add_mid]; exact hrg j u hj)
   exact grown (some ⟨b, 0, none⟩) c hv (by omega) hfc hcl
end
theorem zpc : ∀ (l : List Value) (k : Nat) (arr : Array Value), k + l.length ≤ arr.size →
  ((l.zipIdx k).foldl (fun cs (x : Value × Nat) => cs.setIfInBounds x.2 x.1) arr).toList = arr.toList.take k ++ l ++ arr.toList.drop (k + l.length)
 | [], k, arr, _ => by simp
 | v :: l, k, arr, h => by
  simp only [List.length_cons] at h
  rw [List.zipIdx_cons, List.foldl_cons, zpc l (k + 1) _ (by simp; omega)]
  simp only [Array.toList_setIfInBounds, List.length_cons]
  have hk : k < arr.toList.length := by simp; omega
  rw [List.set_eq_take_append_cons_drop, if_pos hk]
  have e1 : (arr.toList.take k ++ v :: arr.toList.drop (k + 1)).take (k + 1) = arr.toList.take k ++ [v] := by
   rw [List.take_append, List.length_take, Nat.min_eq_left (by omega)]
   rw [List.take_of_length_le (by simp; omega)]
   simp
  have e2 : (arr.toList.take k ++ v :: arr.toList.drop (k + 1)).drop (k + 1 + l.length) = arr.toList.drop (k + (l.length + 1)) := by
   rw [List.drop_append, List.length_take, Nat.min_eq_left (by omega)]
   rw [List.drop_of_length_le (by simp; omega)]
   simp only [List.nil_append]
   rw [show k + 1 + l.length - k = l.length + 1 by omega, List.drop_succ_cons, List.drop_drop]
   congr 1; omega
  rw [e1, e2]
  simp
section
variable {P : Program}
theorem zfl {st et : TypeId} {a b sz by' : Nat} {z z' : Value} {d : TypeDesc} (hS : TI P st (.slice et) a b z') (ht : TI P et d sz by' z) {w : World} {v : Value} {cs : List Value} (hv : v.cells = cs.toArray) (hl : cs.length = sz) (h0 : 0 < sz) (hsz : sz ≤ 16777216) :
  (Instr.buildSlice st 1 #[(0, v)]).run P w = .ok (.slice (some ⟨w.heap.size, 0, none⟩) 1 1) (w.alloc (.cells cs.toArray et)) := by
 obtain ⟨i, hi, h1, h2, h3⟩ := ht.info
 refine run_buildSlice w st et 1 _ cs.toArray i z hS.und hi h3 (by omega) (by omega) ?_
 have hsz2 : ((Array.range (1 * i.size)).map (z.cells[· % z.cells.size]!)).size = sz := by simp [h1]
 have hv2 : v.cells.size = sz := by rw [hv]; simpa using hl
 simp only [Instr.fill, h1, hv2, Nat.zero_mul, Nat.zero_add]
 rw [if_neg (by simp [h1] at hsz2 ⊢)]
 congr 1
 apply Array.ext'
 have := zpc cs 0 ((Array.range (1 * i.size)).map (z.cells[· % z.cells.size]!)) (by rw [hsz2]; omega)
 rw [h1] at this
 rw [hv]
 have e : cs.toArray.zipIdx = (cs.zipIdx 0).toArray := by simp
 rw [e, List.foldl_toArray]
 rw [this]
 simp
 omega
end
def GN (G : Nat → Prop) (a b : Nat) : Nat → Prop := fun k => G k ∨ (a ≤ k ∧ k < b)
def GX (G : Nat → Prop) (lo : Nat) (w : World) (v : Value) : Nat → Prop := fun k => G k ∨ (lo ≤ k ∧ k < w.heap.size ∧ zao v k)
theorem zdo {b : Nat} : ∀ (vs : List Value) (o : Nat) (w : World), (w.setCells b o vs).heap.size = w.heap.size
 | [], _, _ => rfl
 | v :: vs, o, w => by
  show ((w.setCell ⟨b, o, none⟩ v).setCells b (o + 1) vs).heap.size = _
  rw [zdo vs (o + 1)]
  simp [World.setCell]
section
variable {P : Program} {N : Nums}
def zT : List Value := [.int .i64 0, .slice none 0 0, .bool false, .slice none 0 0, .slice none 0 0]
def zU : List Value := [.int .u32 0, .slice none 0 0]
theorem zfi.ti {tt tg lt lg : TypeId} (h : zfi P N tt tg lt lg) : ∃ fs, TI P tt (.struct fs) 5 88 (.agg zT.toArray) := by
 obtain ⟨fs, h, _⟩ := h.tree.out
 exact ⟨fs, h⟩
theorem zfi.tu {tt tg lt lg : TypeId} (h : zfi P N tt tg lt lg) : ∃ fs, TI P tg (.struct fs) 2 32 (.agg zU.toArray) := by
 obtain ⟨fs, h, _⟩ := h.tag.out
 exact ⟨fs, h⟩
theorem zmi {t : TypeId} {by' : Nat} {z : List Value} {fs : Array Field} (h : TI P t (.struct fs) z.length by' (.agg z.toArray)) (w : World) (cs : List Value) (hl : cs.length = z.length) (h1 : ∀ c ∈ cs, c.oneCell' = true) :
  ∃ w2, (Instr.storeAt t (.pointer (some ⟨w.heap.size, 0, none⟩)) (.agg cs.toArray)).run P (w.alloc (.cells (Value.cells (.agg z.toArray)) t)) = .ok () w2 ∧ Mod w w2 zp ∧ w2.heap.size = w.heap.size + 1 ∧ w2.rangeAt w.heap.size 0 cs ∧ w2.there w.heap.size 0 z.length := by
 obtain ⟨w1, hw1⟩ : ∃ w1, w1 = w.alloc (.cells (Value.cells (.agg z.toArray)) t) := ⟨_, rfl⟩
 have m1 : Mod w w1 zp := by rw [hw1]; exact Mod.alloc _ _ _
 have s1 : w1.heap.size = w.heap.size + 1 := by rw [hw1]; exact zan _ _
 have r1 : w1.rangeAt w.heap.size 0 z := by rw [hw1]; exact zw w z.toArray t (0, 0)
 have t1 : w1.there w.heap.size 0 z.length := by
  have := zbj w z.toArray t
  rw [hw1]
  have e : z.toArray.size = z.length := by simp
  rw [e] at this; exact this
 rw [← hw1]
 refine ⟨_, h.run_store (w := w1) (b := w.heap.size) (o := 0) (v := .agg cs.toArray) (cs := cs) rfl hl t1 h1, ?_, ?_, ?_, ?_⟩
 ·exact m1.fresh (Mod.setCells cs 0 _ fun _ _ _ _ => rfl : Mod w1 _ (blk w.heap.size)) fun k o e => by have : k = w.heap.size := e; omega
 ·rw [zdo, s1]
 ·have := zak cs 0 w1 _ r1 (by omega)
  rwa [List.drop_of_length_le (by omega), List.append_nil] at this
 ·exact (Mod.setCells cs 0 _ fun _ _ _ _ => rfl : Mod w1 _ (blk w.heap.size)).there (by omega) t1
theorem Own.stay {w w' : World} {M : Nat → Nat → Prop} (h : Mod w w' M) {lo sz n : Nat} {v : Value} {cs : List Value} (hM : ∀ k o, ¬ zao v k → ¬ M k o) (ho : Own w lo sz v n cs) : Own w' lo sz v n cs := by
 rcases ho with ho | ⟨b, c, e, h1, h2, h3, h4, h5, h6⟩
 ·exact .inl ho
 ·have hb : ¬ zao v b := fun hn => hn b 0 none n c e rfl
  exact .inr ⟨b, c, e, h1, Nat.lt_of_lt_of_le h2 h.size, h3, h.there h2 h4, h.rangeAt h2 (fun i _ _ => hM b i hb) h5, h6⟩
theorem Own.blk {w : World} {lo sz n : Nat} {v : Value} {cs : List Value} (ho : Own w lo sz v n cs) {k : Nat} (hk : ¬ zao v k) : lo ≤ k ∧ k < w.heap.size := by
 rcases ho with ⟨e, _, _⟩ | ⟨b, c, e, h1, h2, _⟩
 ·exact absurd (fun b o s n c e' => by rw [e] at e'; cases e') hk
 ·by_cases hkb : k = b
  ·subst hkb; exact ⟨h1, h2⟩
  ·refine absurd (fun b' o' s' n' c' e' => ?_) hk
   rw [e] at e'
   injection e' with e1 _ _; injection e1 with e2; injection e2 with e3
   intro hh; exact hkb (hh.trans e3.symm)
theorem Own.one {w : World} {lo sz n : Nat} {v : Value} {cs : List Value} (ho : Own w lo sz v n cs) : v.oneCell' = true := by
 rcases ho with ⟨rfl, _, _⟩ | ⟨b, c, rfl, _⟩ <;> rfl
theorem zol {w w6 w7 w8 w9 : World} {G : Nat → Prop} {lo : Nat} {v v' : Value} {b3 a : Nat}
  (hG : ∀ k, G k → k < b3) (hb3 : b3 < lo) (hlo : lo ≤ w.heap.size) (m6 : Mod w w6 zp) (ha : w.heap.size ≤ a) (m7 : Mod w6 w7 zp) (m8 : Mod w7 w8 fun i _ => ¬ zao v i) (m9 : Mod w8 w9 (fun k _ => k = b3)) (hv : ∀ k, ¬ zao v k → lo ≤ k ∧ k < w.heap.size) (hv' : ∀ k, k < w7.heap.size → zao v k → zao v' k) :
  Mod w w9 (fun k _ => ¬ zao v k ∨ k = b3) ∧ (∀ k, GX G lo w v k → k < w.heap.size ∧ (∀ _o : Nat, ¬ (¬ zao v k ∨ k = b3)) ∧ GX G lo w9 v' k) ∧ Mod w6 w9 (fun k _ => ¬ zao v k ∨ k = b3) ∧ (∀ k, GN G a w6.heap.size k → k < w6.heap.size ∧ (∀ _o : Nat, ¬ (¬ zao v k ∨ k = b3)) ∧ GX G lo w9 v' k) := by
 have s6 := m6.size
 have s7 := m7.size
 have s8 := m8.size
 have s9 := m9.size
 have m69 : Mod w6 w9 (fun k _ => ¬ zao v k ∨ k = b3) := ((m7.mono fun _ _ _ h => h.elim).trans' (m8.mono fun _ _ _ h => .inl h)).trans' (m9.mono fun _ _ _ h => .inr h)
 have nb : ∀ k, k < lo → zao v k := fun k hk => Classical.byContradiction fun h => by have := (hv k h).1; omega
 have nb2 : ∀ k, w.heap.size ≤ k → zao v k := fun k hk => Classical.byContradiction fun h => by have := (hv k h).2; omega
 refine ⟨(m6.mono fun _ _ _ h => h.elim).trans' m69, fun k hk => ?_, m69, fun k hk => ?_⟩
 ·rcases hk with hk | ⟨h1, h2, h3⟩
  ·have := hG k hk
   exact ⟨by omega, fun _ h => h.elim (fun h => h (nb k (by omega))) fun h => by omega, .inl hk⟩
  ·exact ⟨h2, fun _ h => h.elim (fun h => h h3) fun h => by omega, .inr ⟨h1, by omega, hv' k (by omega) h3⟩⟩
 ·rcases hk with hk | ⟨h1, h2⟩
  ·have := hG k hk
   exact ⟨by omega, fun _ h => h.elim (fun h => h (nb k (by omega))) fun h => by omega, .inl hk⟩
  ·exact ⟨h2, fun _ h => h.elim (fun h => h (nb2 k (by omega))) fun h => by omega, .inr ⟨by omega, by omega, hv' k (by omega) (nb2 k (by omega))⟩⟩
end
section
variable {P : Program} {N : Nums}
def GT (P : Program) (N : Nums) (t : Tr) : Prop := ∀ (w : World) (G : Nat → Prop) (cs : List Value), (∀ k, G k → k < w.heap.size) → RepT w G t cs →
 Call P N.zpe #[.agg cs.toArray] w fun v w' => ∃ cs', v = .agg cs'.toArray ∧ RepT w' (GN G w.heap.size w'.heap.size) t cs' ∧ Mod w w' zp
structure G1 (w3 : World) (b1 bR b3 : Nat) (n vs nl vl : Value) (l : List Tr) (G : Nat → Prop) (j : Nat) (σ : Env) (w : World) : Prop where
 f1 : σ 1 = .pointer (some ⟨b1, 0, none⟩)
 f2 : σ 2 = .pointer (some ⟨bR, 0, none⟩)
 f3 : σ 3 = .pointer (some ⟨b3, 0, none⟩)
 f4 : σ 4 = vl
 f5 : σ 5 = .int .i64 l.length
 f6 : σ 6 = .int .i64 j
 le : j ≤ l.length
 mod : Mod w3 w (blk b3)
 ex : ∃ v css, w.rangeAt b3 0 [n, vs, nl, v, .slice none 0 0] ∧ w.there b3 0 5 ∧ Own w w3.heap.size 5 v j css.flatten ∧ zcm w (GX G w3.heap.size w v) (l.take j) css
def cGotL (N : Nums) : C :=
 .seq (.ops [⟨some 0, .indexAddr N.zr (V 4) (V 6), 0, none, []⟩, ⟨some 1, .load N.zy (T 0), 0, none, []⟩, ⟨some (8 + 100), .alloc N.zy, 0, none, []⟩, ⟨none, .store N.zy (V 8) (T 1), 0, none, []⟩])
  (.draw [⟨some 0, .fieldAddr N.zb (V 3) 3, 0, none, []⟩, ⟨some 1, .load N.zk (T 0), 0, none, [0]⟩, ⟨some 2, .load N.zy (V 8), 0, none, []⟩,
   ⟨some 3, .call ⟨.value (.func N.zpe), #[T 2], #[N.zy]⟩, N.zb, none, [2]⟩, ⟨some 4, .buildSlice N.zk 1 #[(0, T 3)], 0, none, [3]⟩,
   ⟨some 5, .call ⟨.builtin .append, #[T 1, T 4], #[N.zk, N.zk]⟩, N.zk, none, [1, 4, 3]⟩,
   ⟨some 6, .fieldAddr N.zb (V 3) 3, 0, none, [0, 1, 2, 3, 4, 5]⟩, ⟨none, .store N.zk (T 6) (T 5), 0, none, [6, 5, 5, 0, 1, 2, 3, 4, 5]⟩])
theorem zcm.ones {w : World} {G : Nat → Prop} : ∀ {l : List Tr} {css : List (List Value)}, zcm w G l css → ∀ c ∈ css.flatten, c.oneCell' = true
 | [], _, h, c, hc => by simp only [zcm] at h; subst h; simp at hc
 | t :: l, _, ⟨c0, r, h1, h2, h3⟩, c, hc => by
  subst h1
  rw [List.flatten_cons, List.mem_append] at hc
  rcases hc with hc | hc
  ·exact h2.one c hc
  ·exact zcm.ones h3 c hc
theorem got_elem (B : Base P N) (F : Fns P N) (hN : N.zpe ≠ 0) (hS : zfi P N N.zb N.zz N.zk N.zh) (hI : zfi P N N.zy N.zhm N.zr N.zel) {loc : List Nat} {N' : Nat} {Q : Exit → Env → World → Prop}
  {w3 w : World} {b1 bR b3 : Nat} {n vs nl vl : Value} {l : List Tr} {G : Nat → Prop} {j : Nat} {σ : Env} (hj : j < l.length) (hll : l.length < 1099511627776) (hb3 : b3 < w3.heap.size) (hG : ∀ k, G k → k < b3)
  (h : G1 w3 b1 bR b3 n vs nl vl l G j σ w) (hsrc : ∃ b c css, vl = .slice (some ⟨b, 0, none⟩) l.length c ∧ G b ∧ zcm w3 G l css ∧ w3.rangeAt b 0 css.flatten) (ih : ∀ x ∈ l, GT P N x)
  (hQ : ∀ σ' w', σ' 6 = .int .i64 j → G1 w3 b1 bR b3 n vs nl vl l G (j + 1) (upd σ' 6 (.int .i64 ((j + 1 : Nat) : Int))) w' → Q .normal σ' w') :
  W P loc N' (cGotL N) Q σ w := by
 obtain ⟨f1, f2, f3, f4, f5, f6, _, mod, v, css, hr, ht, ho, hrep⟩ := h
 obtain ⟨bl, c, css0, rfl, hGb, hrs, hrg⟩ := hsrc
 obtain ⟨fs, hI1⟩ := hI.ti
 obtain ⟨fs', hS1⟩ := hS.ti
 have hx : l[j]? = some l[j] := List.getElem?_eq_getElem hj
 have hmG : ∀ k, G k → k < w3.heap.size ∧ (∀ o, ¬ blk b3 k o) ∧ G k := fun k hk => ⟨by have := hG k hk; omega, fun o e => by have : k = b3 := e; have := hG k hk; omega, hk⟩
 have hrs' := zcm.mod mod hmG l hrs
 have hrg' : w.rangeAt bl 0 css0.flatten := mod.rangeAt (hmG bl hGb).1 (fun i _ _ => (hmG bl hGb).2.1 i) hrg
 obtain ⟨cs, hcs, hxr⟩ := hrs'.get hx
 have hxg := zhb hrg' hrs'.len5 hcs
 rw [Nat.zero_add] at hxg
 have hcl : cs.length = 5 := hxr.len
 have hld := hI1.run_load (w := w) (b := bl) (o := j * 5) hxg hcl (fun h => by cases h)
 have hlv : ∀ (f : Array Field) (x : List Value), ldv (.struct f) x = .agg x.toArray := fun _ _ => rfl
 have hsz := mod.size
 obtain ⟨w5, hst, m5, s5, r5, t5⟩ := zmi (z := zT) hI1 w cs (by rw [hcl]; rfl) hxr.one
 unfold cGotL
 refine zd fun K hK => zaa fun τ => ?_
 simp +decide (disch := omega) only [bK, bE, Nat.reduceBeqDiff, BEq.rfl, Nat.reduceAdd, Nat.zero_add, f4, f6, zab hI.lt hI1, hld, hlv, hI1.run_alloc, hst]
 refine hK _ _ (zf fun σ5 hσ => ?_)
 have g1 := hσ 1
 have g2 := hσ 2
 have g3 := hσ 3
 have g4 := hσ 4
 have g5 := hσ 5
 have g6 := hσ 6
 have g8 := hσ 8
 simp +decide only [bE, Nat.reduceBeqDiff, BEq.rfl, Nat.reduceAdd, f1, f2, f3, f4, f5, f6] at g1 g2 g3 g4 g5 g6 g8
 clear hσ hK K hst hld
 have md : Mod w w5.drew zp := m5.trans' (Mod.drew _ _)
 have hv : ∀ k, ¬ zao v k → w3.heap.size ≤ k ∧ k < w.heap.size := fun k hk => ho.blk hk
 have hone := ho.one
 have cell3 : w.cell? ⟨b3, 3, none⟩ = some v := hr 3 v rfl
 refine zfx B.mixed [true, true, true, false, false, false, false, false] (by kernel_rfl) (fun w' => w'.cell? ⟨b3, 3, none⟩ = some v ∧ w'.rangeAt w.heap.size 0 cs) ?_ fun τ => ?_
 ·refine ⟨?_, zv (Mod.drew _ _) r5⟩
  rw [md.cell _ _ (by omega) (fun h => h)]; exact cell3
 have e3 : zdm σ5 τ 103 = .pointer (some ⟨b3, 0, none⟩) := by rw [← g3]; exact envOf_var σ5 τ 3
 have e8 : zdm σ5 τ 108 = .pointer (some ⟨w.heap.size, 0, none⟩) := by rw [← g8]; exact envOf_var σ5 τ 8
 refine zc (.pointer (some ⟨b3, 3, none⟩)) (fun w' _ => zn (by
  simp +decide only [ev_tmp, e3, hS.h3.run])) rfl ?_
 refine zc v (fun w' hw => zn (by
  simp +decide only [bE, BEq.rfl, ev_tmp, hS.lt.run_load1 rfl, hw.1, ldc_some])) rfl ?_
 refine zc (.agg cs.toArray) (fun w' hw => zn (by
  have := hI1.run_load (w := w') (b := w.heap.size) (o := 0) hw.2 hcl (fun h => by cases h)
  simp +decide only [bE, Nat.reduceBeqDiff, Nat.reduceAdd, ev_tmp, g8, this, hlv])) rfl ?_
 simp only [zde, zdd, List.zip_cons_cons, List.zip_nil_right, List.zipWith_cons_cons, List.zipWith_nil_right, List.filter, Bool.not_true, Bool.not_false, List.map, zdn]
 rw [zal (F.got hN).has]
 simp +decide only [bK, bE, Nat.reduceBeqDiff, BEq.rfl, Nat.reduceAdd]
 have hxr5 : RepT w5.drew G l[j] cs := RepT.stay md _ hxr
 refine (ih l[j] (List.getElem_mem hj) w5.drew G cs (fun k hk => ?_) hxr5).mono ?_
 ·have := hG k hk
  show k < w5.heap.size
  omega
 rintro _ w6 ⟨cs', rfl, hrep6, m6⟩
 have s6 := m6.size
 have s6' : w5.heap.size ≤ w6.heap.size := s6
 have m06 : Mod w w6 zp := md.trans' m6
 have keep : ∀ {w' : World}, Mod w w' zp → w'.cell? ⟨b3, 3, none⟩ = some v ∧ w'.rangeAt w.heap.size 0 cs → True := fun _ _ => trivial
 clear keep
 have c6 : w6.cell? ⟨b3, 3, none⟩ = some v ∧ w6.rangeAt w.heap.size 0 cs :=
  ⟨by rw [m06.cell _ _ (by omega) (fun h => h)]; exact cell3, zv m6 (zv (Mod.drew _ _) r5)⟩
 refine ⟨c6, ?_⟩
 have hcl' : cs'.length = 5 := hrep6.len
 have hbs := zfl (w := w6) (v := .agg cs'.toArray) (cs := cs') hS.lt hS1 rfl hcl' (by decide) (by decide)
 have e9 : ∀ ρ : Env, (#[(0, T 3)] : Array (Nat × Operand)).map (fun p => (p.1, ev ρ p.2)) = #[(0, ρ 3)] := fun ρ => by simp
 simp +decide only [bK, bE, BEq.rfl, e9, hbs]
 obtain ⟨w7, hw7⟩ : ∃ w7, w7 = w6.alloc (.cells cs'.toArray N.zb) := ⟨_, rfl⟩
 have m7 : Mod w6 w7 zp := by rw [hw7]; exact Mod.alloc _ _ _
 have s7 : w7.heap.size = w6.heap.size + 1 := by rw [hw7]; exact zan _ _
 have r7 : w7.rangeAt w6.heap.size 0 cs' := by rw [hw7]; exact zw w6 _ _ _
 rw [← hw7]
 clear hw7 hbs
 have m07 : Mod w w7 zp := m06.trans' m7
 have c7 : w7.cell? ⟨b3, 3, none⟩ = some v ∧ w7.rangeAt w.heap.size 0 cs :=
  ⟨by rw [m07.cell _ _ (by omega) (fun h => h)]; exact cell3, zv m7 c6.2⟩
 refine ⟨c7, ?_⟩
 have ho7 : Own w7 w3.heap.size 5 v j css.flatten := ho.stay m07 fun _ _ _ h => h
 obtain ⟨v', w8, happ, ho8, m8, hone', hnb⟩ := zfv (P := P) (ty := N.zk) (m := 1) (cb := 1) hS.lt hS1 ho7 r7 (by rw [hcl']) hrep6.one (by omega) rfl (zcm.ones hrep) (by omega) (by decide) (by decide)
 simp +decide only [bK, happ]
 clear happ
 have nb3 : ¬ ¬ zao v b3 := fun h => by have := (hv b3 h).1; omega
 have nb8 : ¬ ¬ zao v w.heap.size := fun h => by have := (hv _ h).2; omega
 have c8 : w8.cell? ⟨b3, 3, none⟩ = some v ∧ w8.rangeAt w.heap.size 0 cs :=
  ⟨by rw [m8.cell _ _ (by omega) nb3]; exact c7.1, m8.rangeAt (by omega) (fun _ _ _ => nb8) c7.2⟩
 refine ⟨c8, ?_⟩
 simp +decide only [bK, Nat.zero_add, g3, hS.h3.run]
 refine ⟨c8, ?_⟩
 have s8 := m8.size
 have h8 : w8.there b3 0 5 := m8.there (by omega) (m07.there (by omega) ht)
 have t8 : w8.there b3 3 1 := fun i hi => by
  have := h8 (3 + i) (by omega)
  rwa [show 0 + (3 + i) = 3 + i by omega] at this
 have hsto := hS.lt.run_store1 (w := w8) (b := b3) (o := 3) (v := v') hone' t8
 simp +decide only [bK, hsto]
 obtain ⟨w9, hw9⟩ : ∃ w9, w9 = w8.setCell ⟨b3, 3, none⟩ v' := ⟨_, rfl⟩
 have m9 : Mod w8 w9 fun k _ => k = b3 := by rw [hw9]; exact Mod.setCell fun _ => rfl
 have s9 : w9.heap.size = w8.heap.size := by rw [hw9]; simp [World.setCell]
 have r8 : w8.rangeAt b3 0 [n, vs, nl, v, .slice none 0 0] := m8.rangeAt (by omega) (fun _ _ _ => nb3) (zv m07 hr)
 have r9 : w9.rangeAt b3 0 [n, vs, nl, v', .slice none 0 0] := by
  have q := zak [v'] 3 w8 [v, .slice none 0 0] ((zq (cs := [n, vs, nl])).1 r8).2 (by simp)
  rw [hw9]
  refine (zq (cs := [n, vs, nl])).2 ⟨?_, q⟩
  exact (Mod.setCell (M := rng b3 3 1) fun _ => ⟨rfl, Nat.le_refl _, by omega⟩ : Mod w8 _ (rng b3 3 1)).rangeAt (by omega) (fun i h1 h2 h => by have := h.2.1; simp at h2; omega) ((zq (cs := [n, vs, nl])).1 r8).1
 rw [← hw9]
 clear hw9 hsto
 obtain ⟨q1, q2, q3, q4⟩ := zol (w := w) (w6 := w6) (w7 := w7) (w8 := w8) (w9 := w9) (G := G) (lo := w3.heap.size) (v := v) (v' := v') (b3 := b3) (a := w5.heap.size) hG hb3 hsz m06 (by omega) m7 m8 m9 hv hnb
 refine zf (K := fun σ' w' => Q .normal σ' w') fun σ9 hσ => hQ _ _ ?_ ?_
 ·have := hσ 6
  simp +decide only [bE, Nat.reduceBeqDiff, Nat.reduceAdd, g6] at this
  exact this
 ·have p1 := hσ 1
  have p2 := hσ 2
  have p3 := hσ 3
  have p4 := hσ 4
  have p5 := hσ 5
  simp +decide only [bE, Nat.reduceBeqDiff, Nat.reduceAdd, g1, g2, g3, g4, g5] at p1 p2 p3 p4 p5
  refine ⟨by rw [zi (by decide)]; exact p1, by rw [zi (by decide)]; exact p2, by rw [zi (by decide)]; exact p3, by rw [zi (by decide)]; exact p4, by rw [zi (by decide)]; exact p5, upd_same _ _ _, by omega, ?_, v', css ++ [cs'], r9, m9.there (by omega) h8, ?_, ?_⟩
  ·exact mod.trans q1 fun k _ hk h => h.elim id fun h => h.elim (fun h => by have := (hv k h).1; omega) id
  ·have := ho8.stay m9 (fun k o h e => by have : k = b3 := e; have := ho8.blk h; omega)
   simpa using this
  ·rw [List.take_add_one, hx]
   exact (zcm.mod q1 q2 _ hrep).append ⟨cs', [], rfl, RepT.mod q3 q4 _ hrep6, rfl⟩
end
section
variable {P : Program} {N : Nums}
theorem UsG.append {w : World} {G : Nat → Prop} : ∀ {l : List (Nat × List UInt8)} {cs : List Value} {l' : List (Nat × List UInt8)} {cs' : List Value}, UsG w G l cs → UsG w G l' cs' → UsG w G (l ++ l') (cs ++ cs')
 | [], _, _, _, h, h' => by simp only [UsG] at h; subst h; exact h'
 | (k, x) :: l, _, _, _, ⟨v, r, h1, h2, h3⟩, h' => by subst h1; exact ⟨v, r ++ _, rfl, h2, UsG.append h3 h'⟩
theorem UsG.ones {w : World} {G : Nat → Prop} : ∀ {l : List (Nat × List UInt8)} {cs : List Value}, UsG w G l cs → ∀ c ∈ cs, c.oneCell' = true
 | [], _, h, c, hc => by simp only [UsG] at h; subst h; simp at hc
 | (k, x) :: l, _, ⟨v, r, h1, h2, h3⟩, c, hc => by
  subst h1
  rcases List.mem_cons.1 hc with rfl | hc
  ·rfl
  ·rcases List.mem_cons.1 hc with rfl | hc
   ·exact h2.one
   ·exact UsG.ones h3 c hc
structure G2 (w4 : World) (bR b3 : Nat) (n vs nl v1 vu : Value) (u : List (Nat × List UInt8)) (G : Nat → Prop) (j : Nat) (σ : Env) (w : World) : Prop where
 f2 : σ 2 = .pointer (some ⟨bR, 0, none⟩)
 f3 : σ 3 = .pointer (some ⟨b3, 0, none⟩)
 f9 : σ 9 = vu
 f10 : σ 10 = .int .i64 u.length
 f11 : σ 11 = .int .i64 j
 le : j ≤ u.length
 mod : Mod w4 w (blk b3)
 ex : ∃ v cs, w.rangeAt b3 0 [n, vs, nl, v1, v] ∧ w.there b3 0 5 ∧ Own w w4.heap.size 2 v j cs ∧ UsG w (GX G w4.heap.size w v) (u.take j) cs
def cGotU (N : Nums) : C :=
 .seq (.ops [⟨some 0, .indexAddr N.zel (V 9) (V 11), 0, none, []⟩, ⟨some 1, .load N.zhm (T 0), 0, none, []⟩, ⟨some (13 + 100), .alloc N.zhm, 0, none, []⟩, ⟨none, .store N.zhm (V 13) (T 1), 0, none, []⟩])
  (.ops [⟨some 0, .fieldAddr N.zb (V 3) 4, 0, none, []⟩, ⟨some 1, .load N.zh (T 0), 0, none, []⟩, ⟨some 2, .fieldAddr N.zhm (V 13) 0, 0, none, []⟩, ⟨some 3, .load N.zj (T 2), 0, none, []⟩,
   ⟨some 4, .fieldAddr N.zhm (V 13) 1, 0, none, []⟩, ⟨some 5, .load N.za (T 4), 0, none, []⟩, ⟨some 6, .build N.zz #[(0, T 3), (1, T 5)], 0, none, []⟩, ⟨some 7, .buildSlice N.zh 1 #[(0, T 6)], 0, none, []⟩,
   ⟨some 8, .call ⟨.builtin .append, #[T 1, T 7], #[N.zh, N.zh]⟩, N.zh, none, []⟩,
   ⟨some 9, .fieldAddr N.zb (V 3) 4, 0, none, []⟩, ⟨none, .store N.zh (T 9) (T 8), 0, none, []⟩])
theorem UsG.get5 {w : World} {G : Nat → Prop} : ∀ {u : List (Nat × List UInt8)} {cs : List Value} {j : Nat} {x : Nat × List UInt8}, UsG w G u cs → u[j]? = some x → ∃ v, cs[j * 2]? = some (.int .u32 x.1) ∧ cs[j * 2 + 1]? = some v ∧ tagV w G v x.2
 | [], _, j, x, _, hj => by simp at hj
 | (k, l) :: u, _, 0, x, ⟨v, r, h1, h2, h3⟩, hj => by subst h1; simp at hj; subst hj; exact ⟨v, rfl, rfl, h2⟩
 | (k, l) :: u, _, j + 1, x, ⟨v, r, h1, h2, h3⟩, hj => by
  subst h1
  obtain ⟨v', g1, g2, g3⟩ := UsG.get5 h3 (by simpa using hj)
  refine ⟨v', ?_, ?_, g3⟩
  ·rw [show (j + 1) * 2 = j * 2 + 1 + 1 by omega]; simpa using g1
  ·rw [show (j + 1) * 2 + 1 = j * 2 + 1 + 1 + 1 by omega]; simpa using g2
theorem tagBuild {tt tg lt lg : TypeId} (h : zfi P N tt tg lt lg) (w : World) (k : Nat) {v : Value} (hv : v.oneCell' = true) : (Instr.build tg #[(0, .int .u32 k), (1, v)]).run P w = .ok (.agg #[.int .u32 k, v]) w :=
 h.tag.run_build (by simp [Instr.fill, zcn hv, zcn (show (Value.int .u32 k).oneCell' = true from rfl)])
theorem got_tag (B : Base P N) (hS : zfi P N N.zb N.zz N.zk N.zh) (hI : zfi P N N.zy N.zhm N.zr N.zel) {loc : List Nat} {N' : Nat} {Q : Exit → Env → World → Prop}
  {w4 w : World} {bR b3 : Nat} {n vs nl v1 vu : Value} {u : List (Nat × List UInt8)} {G : Nat → Prop} {j : Nat} {σ : Env} (hj : j < u.length) (hll : u.length < 1099511627776) (hb3 : b3 < w4.heap.size) (hG : ∀ k, G k → k < b3)
  (h : G2 w4 bR b3 n vs nl v1 vu u G j σ w) (hsrc : RepU w4 G vu u)
  (hQ : ∀ σ' w', σ' 11 = .int .i64 j → G2 w4 bR b3 n vs nl v1 vu u G (j + 1) (upd σ' 11 (.int .i64 ((j + 1 : Nat) : Int))) w' → Q .normal σ' w') :
  W P loc N' (cGotU N) Q σ w := by
 obtain ⟨f2, f3, f9, f10, f11, _, mod, v, cs0, hr, ht, ho, hrep⟩ := h
 have hx : u[j]? = some u[j] := List.getElem?_eq_getElem hj
 obtain ⟨fs, hI1⟩ := hI.tu
 obtain ⟨fs', hS1⟩ := hS.tu
 have hmG : ∀ k, G k → k < w4.heap.size ∧ (∀ o, ¬ blk b3 k o) ∧ G k := fun k hk => ⟨by have := hG k hk; omega, fun o e => by have : k = b3 := e; have := hG k hk; omega, hk⟩
 have hsrc' := hsrc.mod mod hmG
 rcases hsrc' with ⟨_, h0⟩ | ⟨bl, c, cs, rfl, _, _, hus, hrg⟩
 ·rw [h0] at hj; simp at hj
 obtain ⟨tv, hk1, hk2, htv⟩ := hus.get5 hx
 have hxg : w.rangeAt bl (j * 2) [.int .u32 (u[j]).1, tv] := by
  have a := hrg _ _ hk1
  have b := hrg _ _ hk2
  rw [Nat.zero_add] at a b
  intro i x hi
  match i, hi with
  | 0, hi => simp at hi; subst hi; exact a
  | 1, hi => simp at hi; subst hi; exact b
  | i + 2, hi => simp at hi
 have hld := hI1.run_load (w := w) (b := bl) (o := j * 2) hxg rfl (fun h => by cases h)
 have hlv : ∀ (f : Array Field) (x : List Value), ldv (.struct f) x = .agg x.toArray := fun _ _ => rfl
 have hsz := mod.size
 have hone2 : ∀ c ∈ [Value.int .u32 (u[j]).1, tv], c.oneCell' = true := fun c hc => by
  simp at hc; rcases hc with rfl | rfl
  ·rfl
  ·exact htv.one
 obtain ⟨w5, hst, m5, s5, r5, t5⟩ := zmi (z := zU) hI1 w [.int .u32 (u[j]).1, tv] rfl hone2
 unfold cGotU
 refine zd fun K hK => zaa fun τ => ?_
 simp +decide (disch := omega) only [bK, bE, Nat.reduceBeqDiff, BEq.rfl, Nat.reduceAdd, Nat.zero_add, f9, f11, zab hI.lg hI1, hld, hlv, hI1.run_alloc, hst]
 refine hK _ _ (zf fun σ5 hσ => ?_)
 have g2 := hσ 2
 have g3 := hσ 3
 have g9 := hσ 9
 have g10 := hσ 10
 have g11 := hσ 11
 have g13 := hσ 13
 simp +decide only [bE, Nat.reduceBeqDiff, BEq.rfl, Nat.reduceAdd, f2, f3, f9, f10, f11] at g2 g3 g9 g10 g11 g13
 clear hσ hK K hst hld
 have hv : ∀ k, ¬ zao v k → w4.heap.size ≤ k ∧ k < w.heap.size := fun k hk => ho.blk hk
 have cell4 : w5.cell? ⟨b3, 4, none⟩ = some v := by rw [m5.cell _ _ (by omega) (fun h => h)]; exact hr 4 v rfl
 have d0 : w5.cell? ⟨w.heap.size, 0, none⟩ = some (.int .u32 (u[j]).1) := r5 0 _ rfl
 have d1 : w5.cell? ⟨w.heap.size, 1, none⟩ = some tv := r5 1 _ rfl
 have hbu := tagBuild hS w5 (u[j]).1 htv.one
 have hbs := zfl (w := w5) (v := .agg #[.int .u32 (u[j]).1, tv]) (cs := [.int .u32 (u[j]).1, tv]) hS.lg hS1 rfl rfl (by decide) (by decide)
 have e6 : ∀ ρ : Env, (#[(0, T 3), (1, T 5)] : Array (Nat × Operand)).map (fun p => (p.1, ev ρ p.2)) = #[(0, ρ 3), (1, ρ 5)] := fun ρ => by simp
 have e7 : ∀ ρ : Env, (#[(0, T 6)] : Array (Nat × Operand)).map (fun p => (p.1, ev ρ p.2)) = #[(0, ρ 6)] := fun ρ => by simp
 refine zaa fun τ => ?_
 simp +decide (disch := omega) only [bK, bE, Nat.reduceBeqDiff, BEq.rfl, Nat.reduceAdd, Nat.add_zero, Nat.zero_add, g3, g13, hS.h4.run, hS.lg.run_load1 rfl, cell4, hI.g0.run, hI.g1.run, B.uint32.run_load1 rfl, B.Lu8.run_load1 rfl, d0, d1, e6, e7, hbu, hbs]
 obtain ⟨w7, hw7⟩ : ∃ w7, w7 = w5.alloc (.cells [Value.int .u32 (u[j]).1, tv].toArray N.zz) := ⟨_, rfl⟩
 have m7 : Mod w5 w7 zp := by rw [hw7]; exact Mod.alloc _ _ _
 have s7 : w7.heap.size = w5.heap.size + 1 := by rw [hw7]; exact zan _ _
 have r7 : w7.rangeAt w5.heap.size 0 [.int .u32 (u[j]).1, tv] := by rw [hw7]; exact zw w5 _ _ _
 rw [← hw7]
 clear hw7 hbs
 have m07 : Mod w w7 zp := m5.trans' m7
 have ho7 : Own w7 w4.heap.size 2 v j cs0 := ho.stay m07 fun _ _ _ h => h
 obtain ⟨v', w8, happ, ho8, m8, hone', hnb⟩ := zfv (P := P) (ty := N.zh) (m := 1) (cb := 1) hS.lg hS1 ho7 r7 rfl hone2 (by omega) rfl hrep.ones (by omega) (by decide) (by decide)
 have s8 := m8.size
 have nb3 : ¬ ¬ zao v b3 := fun h => by have := (hv b3 h).1; omega
 have h8 : w8.there b3 0 5 := m8.there (by omega) (m07.there (by omega) ht)
 have t8 : w8.there b3 4 1 := fun i hi => by
  have := h8 (4 + i) (by omega)
  rwa [show 0 + (4 + i) = 4 + i by omega] at this
 have hsto := hS.lg.run_store1 (w := w8) (b := b3) (o := 4) (v := v') hone' t8
 simp +decide only [bK, happ, hsto]
 clear happ
 obtain ⟨w9, hw9⟩ : ∃ w9, w9 = w8.setCell ⟨b3, 4, none⟩ v' := ⟨_, rfl⟩
 have m9 : Mod w8 w9 fun k _ => k = b3 := by rw [hw9]; exact Mod.setCell fun _ => rfl
 have s9 : w9.heap.size = w8.heap.size := by rw [hw9]; simp [World.setCell]
 have r8 : w8.rangeAt b3 0 [n, vs, nl, v1, v] := m8.rangeAt (by omega) (fun _ _ _ => nb3) (zv m07 hr)
 have r9 : w9.rangeAt b3 0 [n, vs, nl, v1, v'] := by
  have q := zak [v'] 4 w8 [v] ((zq (cs := [n, vs, nl, v1])).1 r8).2 (by simp)
  rw [hw9]
  refine (zq (cs := [n, vs, nl, v1])).2 ⟨?_, q⟩
  exact (Mod.setCell (M := rng b3 4 1) fun _ => ⟨rfl, Nat.le_refl _, by omega⟩ : Mod w8 _ (rng b3 4 1)).rangeAt (by omega) (fun i h1 h2 h => by have := h.2.1; simp at h2; omega) ((zq (cs := [n, vs, nl, v1])).1 r8).1
 rw [← hw9]
 clear hw9 hsto
 obtain ⟨q1, q2, q3, q4⟩ := zol (w := w) (w6 := w5) (w7 := w7) (w8 := w8) (w9 := w9) (G := G) (lo := w4.heap.size) (v := v) (v' := v') (b3 := b3) (a := w5.heap.size) hG hb3 hsz m5 (by omega) m7 m8 m9 hv hnb
 refine zf (K := fun σ' w' => Q .normal σ' w') fun σ9 hσ => hQ _ _ ?_ ?_
 ·have := hσ 11
  simp +decide only [bE, Nat.reduceBeqDiff, Nat.reduceAdd, g11] at this
  exact this
 ·have p2 := hσ 2
  have p3 := hσ 3
  have p9 := hσ 9
  have p10 := hσ 10
  simp +decide only [bE, Nat.reduceBeqDiff, Nat.reduceAdd, g2, g3, g9, g10] at p2 p3 p9 p10
  refine ⟨by rw [zi (by decide)]; exact p2, by rw [zi (by decide)]; exact p3, by rw [zi (by decide)]; exact p9, by rw [zi (by decide)]; exact p10, upd_same _ _ _, by omega, ?_, v', cs0 ++ [.int .u32 (u[j]).1, tv], r9, m9.there (by omega) h8, ?_, ?_⟩
  ·exact mod.trans q1 fun k _ hk h => h.elim id fun h => h.elim (fun h => by have := (hv k h).1; omega) id
  ·exact ho8.stay m9 (fun k o h e => by have : k = b3 := e; have := ho8.blk h; omega)
  ·rw [List.take_add_one, hx]
   have htv5 : tagV w5 (GN G w5.heap.size w5.heap.size) tv (u[j]).2 := (htv.mod m5 fun k hk => ⟨by have := hG k hk; omega, fun _ h => h, .inl hk⟩)
   exact (UsG.mod q1 q2 hrep).append ⟨tv, [], rfl, htv5.mod q3 q4, rfl⟩
end
section
variable {P : Program} {N : Nums}
theorem UsG.mono {w : World} {G G' : Nat → Prop} (hG : ∀ k, G k → G' k) : ∀ {u : List (Nat × List UInt8)} {cs : List Value}, UsG w G u cs → UsG w G' u cs
 | [], _, hu => hu
 | (k, l) :: r, _, ⟨v, rest, h1, h2, h3⟩ => ⟨v, rest, h1, h2.imp (fun x => ⟨x.1, x.2⟩) (fun x => x.mono hG), UsG.mono hG h3⟩
theorem RepU.mono {w : World} {G G' : Nat → Prop} (hG : ∀ k, G k → G' k) {v : Value} {u : List (Nat × List UInt8)} (hu : RepU w G v u) : RepU w G' v u :=
 hu.imp id fun ⟨b, c, cs, h1, h2, h3, h4, h5⟩ => ⟨b, c, cs, h1, h2, fun h => hG b (h3 h), h4.mono hG, h5⟩
mutual
theorem RepT.mono {w : World} {G G' : Nat → Prop} (hG : ∀ k, G k → G' k) : ∀ (t : Tr) {cs : List Value}, RepT w G t cs → RepT w G' t cs
 | .mk n s nl l u, _, ⟨vs, vl, vu, h1, h2, h3, h4⟩ => ⟨vs, vl, vu, h1, h2.imp (fun x => ⟨x.1, x.2⟩) (fun x => x.mono hG), h3.imp id fun ⟨b, c, css, g1, g2, g3, g4, g5⟩ => ⟨b, c, css, g1, g2, fun h => hG b (g3 h), zcm.mono hG l g4, g5⟩, h4.mono hG⟩
theorem zcm.mono {w : World} {G G' : Nat → Prop} (hG : ∀ k, G k → G' k) : ∀ (l : List Tr) {css : List (List Value)}, zcm w G l css → zcm w G' l css
 | [], _, hr => hr
 | t :: l, _, ⟨c, r, h1, h2, h3⟩ => ⟨c, r, h1, RepT.mono hG t h2, zcm.mono hG l h3⟩
end
theorem treeBuild {tt tg lt lg : TypeId} (h : zfi P N tt tg lt lg) (w : World) {n vs nl : Value} (h0 : n.oneCell' = true) (h1 : vs.oneCell' = true) (h2 : nl.oneCell' = true) : (Instr.build tt #[(0, n), (1, vs), (2, nl)]).run P w = .ok (.agg [n, vs, nl, .slice none 0 0, .slice none 0 0].toArray) w :=
 h.tree.run_build (by simp [Instr.fill, zcn h0, zcn h1, zcn h2])
theorem got_step (B : Base P N) (F : Fns P N) (hN : N.zpe ≠ 0) (hS : zfi P N N.zb N.zz N.zk N.zh) (hI : zfi P N N.zy N.zhm N.zr N.zel)
  {n : Int} {s : List UInt8} {nl : Bool} {l : List Tr} {u : List (Nat × List UInt8)} (hll : l.length < 1099511627776) (hul : u.length < 1099511627776) (ih : ∀ x ∈ l, GT P N x) : GT P N (.mk n s nl l u) := by
 intro w G cs hG hrep
 simp only [RepT] at hrep
 obtain ⟨vs, vl, vu, rfl, a1, a2, a3⟩ := hrep
 obtain ⟨fs, hI1⟩ := hI.ti
 obtain ⟨fs', hS1⟩ := hS.ti
 have e2 : vl.oneCell' = true := by rcases a2 with ⟨rfl, _⟩ | ⟨b, c, css, rfl, _⟩ <;> rfl
 have e3 : vu.oneCell' = true := by rcases a3 with ⟨rfl, _⟩ | ⟨b, c, css, rfl, _⟩ <;> rfl
 refine (F.got hN).call rfl fun loc N' hlo => ?_
 unfold c_got
 refine zd fun K hK => zaa fun τ => ?_
 simp +decide only [bK, bE, Nat.reduceAdd, Nat.zero_add, hS1.run_alloc]
 obtain ⟨w1, hw1⟩ : ∃ w1, w1 = w.alloc (.cells (Value.cells (.agg [.int .i64 n, vs, .bool nl, vl, vu].toArray)) N.zy) := ⟨_, rfl⟩
 have m1 : Mod w w1 zp := by rw [hw1]; exact Mod.alloc _ _ _
 have s1 : w1.heap.size = w.heap.size + 1 := by rw [hw1]; exact zan _ _
 have r1 : w1.rangeAt w.heap.size 0 [.int .i64 n, vs, .bool nl, vl, vu] := by rw [hw1]; exact zw w _ _ _
 rw [← hw1]
 clear hw1
 obtain ⟨w2, hw2⟩ : ∃ w2, w2 = w1.alloc (.cells (Value.cells (.agg zT.toArray)) N.zb) := ⟨_, rfl⟩
 have m2 : Mod w1 w2 zp := by rw [hw2]; exact Mod.alloc _ _ _
 have s2 : w2.heap.size = w1.heap.size + 1 := by rw [hw2]; exact zan _ _
 have r2 : w2.rangeAt w1.heap.size 0 zT := by rw [hw2]; exact zw w1 _ _ _
 have t2 : w2.there w1.heap.size 0 5 := by rw [hw2]; exact zbj w1 _ _
 rw [← hw2]
 clear hw2
 have m02 : Mod w w2 zp := m1.trans' m2
 obtain ⟨b1, hb1⟩ : ∃ b, b = w.heap.size := ⟨_, rfl⟩
 obtain ⟨bR, hbR⟩ : ∃ b, b = w1.heap.size := ⟨_, rfl⟩
 obtain ⟨b3, hb3⟩ : ∃ b, b = w2.heap.size := ⟨_, rfl⟩
 rw [← hb1] at r1 ⊢
 rw [← hbR] at r2 t2 ⊢
 have r1' := zv m2 r1
 refine hK _ _ (zf fun σ hσ => ?_)
 have f1 := hσ 1
 have f2 := hσ 2
 simp +decide only [bE, Nat.reduceBeqDiff, BEq.rfl, Nat.reduceAdd] at f1 f2
 clear hσ hK K r1 m1 m2
 have x0 : w2.cell? ⟨b1, 0, none⟩ = some (.int .i64 n) := r1' 0 _ rfl
 have x1 : w2.cell? ⟨b1, 1, none⟩ = some vs := r1' 1 _ rfl
 have x2 : w2.cell? ⟨b1, 2, none⟩ = some (.bool nl) := r1' 2 _ rfl
 have hbu := treeBuild hS w2 (n := .int .i64 n) (vs := vs) (nl := .bool nl) rfl a1.one rfl
 have e6 : ∀ ρ : Env, (#[(0, T 1), (1, T 3), (2, T 5)] : Array (Nat × Operand)).map (fun p => (p.1, ev ρ p.2)) = #[(0, ρ 1), (1, ρ 3), (2, ρ 5)] := fun ρ => by simp
 obtain ⟨w3, hst, m3, s3, r3, t3⟩ := zmi (z := zT) hS1 w2 [.int .i64 n, vs, .bool nl, .slice none 0 0, .slice none 0 0] rfl (fun c hc => by
  simp at hc; rcases hc with rfl | rfl | rfl | rfl
  ·rfl
  ·exact a1.one
  ·rfl
  ·rfl)
 rw [← hb3] at r3 t3 hst
 refine zd fun K hK => zaa fun τ => ?_
 simp +decide only [bK, bE, Nat.reduceBeqDiff, BEq.rfl, Nat.reduceAdd, Nat.add_zero, Nat.zero_add, f1, hI.h0.run, hI.h1.run, hI.h2.run, B.int64.run_load1 rfl, B.Lu8.run_load1 rfl, B.bool.run_load1 rfl, x0, x1, x2, e6, hbu, hS1.run_alloc, ← hb3, hst]
 refine hK _ _ (zf fun σ3 hσ => ?_)
 have g1 := hσ 1
 have g2 := hσ 2
 have g3 := hσ 3
 simp +decide only [bE, Nat.reduceBeqDiff, BEq.rfl, Nat.reduceAdd, f1, f2] at g1 g2 g3
 clear hσ hK K hst hbu
 have r13 := zv m3 r1'
 have y3 : w3.cell? ⟨b1, 3, none⟩ = some vl := r13 3 _ rfl
 have hl1 : (vl = .slice none 0 0 ∧ l.length = 0) ∨ ∃ b c, vl = .slice (some ⟨b, 0, none⟩) l.length c := a2.imp (fun h => ⟨h.1, by rw [h.2]; rfl⟩) fun ⟨b, c, _, h, _⟩ => ⟨b, c, h⟩
 have hu1 : (vu = .slice none 0 0 ∧ u.length = 0) ∨ ∃ b c, vu = .slice (some ⟨b, 0, none⟩) u.length c := a3.imp (fun h => ⟨h.1, by rw [h.2]; rfl⟩) fun ⟨b, c, _, h, _⟩ => ⟨b, c, h⟩
 have m03 : Mod w w3 zp := m02.trans' m3
 have hGb : ∀ k, G k → k < b3 := fun k hk => by have := hG k hk; omega
 refine zd fun K hK => zd fun K1 hK1 => zaa fun τ => ?_
 simp +decide only [bK, bE, BEq.rfl, Nat.reduceAdd, Nat.zero_add, g1, hI.h3.run, hI.lt.run_load1 rfl, y3, zmu hI.lt hl1]
 refine hK1 _ _ (zf fun σ4 hσ => ?_)
 have p1 := hσ 1
 have p2 := hσ 2
 have p3 := hσ 3
 have p4 := hσ 4
 have p5 := hσ 5
 have p6 := hσ 6
 simp +decide only [bE, Nat.reduceBeqDiff, BEq.rfl, Nat.reduceAdd, g1, g2, g3] at p1 p2 p3 p4 p5 p6
 clear hσ hK1 K1
 refine zjm (i := 6) (l := 5) (c := 7) (k := 0) hlo (L := l.length) (by omega) (G1 w3 b1 bR b3 (.int .i64 n) vs (.bool nl) vl l G) (fun j σ w h => ⟨h.f6, h.f5, h.le⟩) (fun j σ w b h => ?_) ?_ (fun σ5 w5 h => hK _ _ ?_) (fun j σ' w' hj h => ?_)
 ·exact ⟨by rw [zi (by decide)]; exact h.f1, by rw [zi (by decide)]; exact h.f2, by rw [zi (by decide)]; exact h.f3, by rw [zi (by decide)]; exact h.f4, by rw [zi (by decide)]; exact h.f5, by rw [zi (by decide)]; exact h.f6, h.le, h.mod, h.ex⟩
 ·exact ⟨p1, p2, p3, p4, p5, p6, Nat.zero_le _, .refl _ _, .slice none 0 0, [], r3, t3, .inl ⟨rfl, rfl, rfl⟩, by simp only [List.take_zero, zcm]⟩
 ·
  clear hK K
  obtain ⟨h1, h2, h3, _, _, _, _, hmod, v1, css, hr5, ht5, ho5, hrep5⟩ := h
  rw [List.take_length] at hrep5
  have m05 : Mod w w5 zp := m03.fresh hmod fun k o e => by have : k = b3 := e; omega
  have s5 := hmod.size
  have y4 : w5.cell? ⟨b1, 4, none⟩ = some vu := by
   rw [hmod.cell _ _ (by omega) (fun h => by have : b1 = b3 := h; omega)]; exact r13 4 _ rfl
  refine zd fun K hK => zd fun K1 hK1 => zaa fun τ => ?_
  simp +decide only [bK, bE, BEq.rfl, Nat.reduceAdd, Nat.zero_add, h1, hI.h4.run, hI.lg.run_load1 rfl, y4, zmu hI.lg hu1]
  refine hK1 _ _ (zf fun σ6 hσ => ?_)
  have q2 := hσ 2
  have q3 := hσ 3
  have q9 := hσ 9
  have q10 := hσ 10
  have q11 := hσ 11
  simp +decide only [bE, Nat.reduceBeqDiff, BEq.rfl, Nat.reduceAdd, h2, h3] at q2 q3 q9 q10 q11
  clear hσ hK1 K1
  refine zjm (i := 11) (l := 10) (c := 12) (k := 2) hlo (L := u.length) (by omega) (G2 w5 bR b3 (.int .i64 n) vs (.bool nl) v1 vu u G) (fun j σ w h => ⟨h.f11, h.f10, h.le⟩) (fun j σ w b h => ?_) ?_ (fun σ7 w7 h => hK _ _ ?_) (fun j σ' w' hj h => ?_)
  ·exact ⟨by rw [zi (by decide)]; exact h.f2, by rw [zi (by decide)]; exact h.f3, by rw [zi (by decide)]; exact h.f9, by rw [zi (by decide)]; exact h.f10, by rw [zi (by decide)]; exact h.f11, h.le, h.mod, h.ex⟩
  ·exact ⟨q2, q3, q9, q10, q11, Nat.zero_le _, .refl _ _, .slice none 0 0, [], hr5, ht5, .inl ⟨rfl, rfl, rfl⟩, by simp only [List.take_zero, UsG]⟩
  ·
   clear hK K
   obtain ⟨k2, k3, _, _, _, _, hmod7, v2, cs2, hr7, ht7, ho7, hrep7⟩ := h
   rw [List.take_length] at hrep7
   have s7 := hmod7.size
   have m07 : Mod w w7 zp := m05.fresh hmod7 fun k o e => by have : k = b3 := e; omega
   have hld := hS1.run_load (w := w7) (b := b3) (o := 0) hr7 rfl (fun h => by cases h)
   have hlv : ∀ (f : Array Field) (x : List Value), ldv (.struct f) x = .agg x.toArray := fun _ _ => rfl
   have ones : ∀ c ∈ [Value.int .i64 n, vs, .bool nl, v1, v2], c.oneCell' = true := fun c hc => by
    simp at hc; rcases hc with rfl | rfl | rfl | rfl | rfl
    ·rfl
    ·exact a1.one
    ·rfl
    ·exact ho5.one
    ·exact ho7.one
   have m27 : Mod w2 w7 (blk b3) := (m3.mono fun _ _ _ h => h.elim).trans' (hmod.trans' hmod7)
   have rR : w7.rangeAt bR 0 zT := m27.rangeAt (by omega) (fun _ _ _ e => by have : bR = b3 := e; omega) r2
   have tR : w7.there bR 0 5 := m27.there (by omega) t2
   have hst := hS1.run_store (w := w7) (b := bR) (o := 0) (v := .agg [Value.int .i64 n, vs, .bool nl, v1, v2].toArray) (cs := [Value.int .i64 n, vs, .bool nl, v1, v2]) rfl rfl tR ones
   refine zd fun K hK => zaa fun τ => ?_
   simp +decide only [bK, bE, Nat.reduceBeqDiff, BEq.rfl, Nat.reduceAdd, k2, k3, hld, hlv, hst]
   obtain ⟨w8, hw8⟩ : ∃ w8, w8 = w7.setCells bR 0 [Value.int .i64 n, vs, .bool nl, v1, v2] := ⟨_, rfl⟩
   have m8 : Mod w7 w8 (blk bR) := by rw [hw8]; exact Mod.setCells _ 0 _ fun _ _ _ _ => rfl
   have r8 : w8.rangeAt bR 0 [Value.int .i64 n, vs, .bool nl, v1, v2] := by
    have := zak [Value.int .i64 n, vs, .bool nl, v1, v2] 0 w7 _ rR (by simp [zT])
    rw [hw8]; simpa [zT] using this
   have s8 : w8.heap.size = w7.heap.size := by rw [hw8]; exact zdo _ _ _
   rw [← hw8]
   clear hw8 hst hld
   have m08 : Mod w w8 zp := m07.fresh m8 fun k o e => by have : k = bR := e; omega
   refine hK _ _ (zf fun σ8 hσ => zbx ⟨.inr rfl, .agg [Value.int .i64 n, vs, .bool nl, v1, v2].toArray, ⟨⟨bR, 0, none⟩, ?_, ?_⟩, [Value.int .i64 n, vs, .bool nl, v1, v2], rfl, ?_, m08⟩)
   ·have := hσ 2
    simp +decide only [bE, Nat.reduceBeqDiff, Nat.reduceAdd, k2] at this
    exact this
   ·have hl2 := hS1.run_load (w := w8) (b := bR) (o := 0) r8 rfl (fun h => by cases h)
    simpa [Instr.loadAt, Instr.sureAddr, Sem.run_bind, hlv] using hl2
   ·
    have hl8 : zcm w8 (GN G w.heap.size w8.heap.size) l css ∧ w8.rangeAt b3 0 [] := by
     refine ⟨?_, fun j v hj => by simp at hj⟩
     have h7 : zcm w7 (GX G w3.heap.size w5 v1) l css := by
      refine zcm.mod hmod7 (fun k hk => ⟨?_, fun o e => ?_, hk⟩) l hrep5
      ·rcases hk with hk | hk
       ·have := hGb k hk; omega
       ·exact hk.2.1
      ·have e : k = b3 := e
       rcases hk with hk | hk
       ·have := hGb k hk; omega
       ·have := hk.1; omega
     refine zcm.mod m8 (fun k hk => ⟨?_, fun o e => ?_, ?_⟩) l h7
     ·rcases hk with hk | hk
      ·have := hGb k hk; omega
      ·have := hk.2.1; omega
     ·have e : k = bR := e
      rcases hk with hk | hk
      ·have := hG k hk; omega
      ·have := hk.1; omega
     ·rcases hk with hk | hk
      ·exact .inl hk
      ·exact .inr ⟨by have := hk.1; omega, by have := hk.2.1; omega⟩
    have keep : ∀ {b : Nat} {cs : List Value}, w3.heap.size ≤ b → b < w7.heap.size → w7.rangeAt b 0 cs → w8.rangeAt b 0 cs := fun h1 h2 hr => m8.rangeAt h2 (fun _ _ _ e => by have e : _ = bR := e; omega) hr
    simp only [RepT]
    refine ⟨vs, v1, v2, rfl, a1.mod m08 fun k hk => ⟨hG k hk, fun _ h => h, .inl hk⟩, ?_, ?_⟩
    ·rcases ho5 with ⟨e1, e2, e3⟩ | ⟨b, c, e1, c1, c2, c3, c4, c5, c6⟩
     ·exact .inl ⟨e1, List.length_eq_zero_iff.1 e2⟩
     ·refine .inr ⟨b, c, css, e1, c3, fun _ => .inr ⟨by omega, by omega⟩, hl8.1, keep c1 (by omega) (hmod7.rangeAt c2 (fun _ _ _ e => by have e : b = b3 := e; omega) c5)⟩
    ·rcases ho7 with ⟨e1, e2, e3⟩ | ⟨b, c, e1, c1, c2, c3, c4, c5, c6⟩
     ·exact .inl ⟨e1, List.length_eq_zero_iff.1 e2⟩
     ·refine .inr ⟨b, c, cs2, e1, c3, fun _ => .inr ⟨by omega, by omega⟩, hrep7.mod m8 fun k hk => ⟨?_, fun o e => ?_, ?_⟩, keep (by omega) (by omega) c5⟩
      ·rcases hk with hk | hk
       ·have := hGb k hk; omega
       ·have := hk.2.1; omega
      ·have e : k = bR := e
       rcases hk with hk | hk
       ·have := hG k hk; omega
       ·have := hk.1; omega
      ·rcases hk with hk | hk
       ·exact .inl hk
       ·exact .inr ⟨by have := hk.1; omega, by have := hk.2.1; omega⟩
  ·refine got_tag B hS hI hj hul (by omega) hGb h (a3.mod m05 fun k hk => ⟨hG k hk, fun _ h => h, hk⟩) fun σ' w' h1 h2 => ⟨h1, h2⟩
 ·have hsrc : ∃ b c css, vl = .slice (some ⟨b, 0, none⟩) l.length c ∧ G b ∧ zcm w3 G l css ∧ w3.rangeAt b 0 css.flatten := by
   rcases a2 with ⟨_, h0⟩ | ⟨b, c, css, h1, h2, h3, h4, h5⟩
   ·rw [h0] at hj; simp at hj
   ·exact ⟨b, c, css, h1, h3 (by intro e; rw [e] at hj; simp at hj), zcm.mod m03 (fun k hk => ⟨hG k hk, fun _ h => h, hk⟩) l h4, zv m03 h5⟩
  exact got_elem B F hN hS hI hj hll (by omega) hGb h hsrc ih fun σ' w' h1 h2 => ⟨h1, h2⟩
def shortT : Tr → Prop
 | .mk _ _ _ l u => l.length < 1099511627776 ∧ u.length < 1099511627776
mutual
def okS : Tr → Prop
 | .mk n s nl l u => shortT (.mk n s nl l u) ∧ okSs l
def okSs : List Tr → Prop
 | [] => True
 | t :: l => okS t ∧ okSs l
end
mutual
theorem gotT (B : Base P N) (F : Fns P N) (hN : N.zpe ≠ 0) (hS : zfi P N N.zb N.zz N.zk N.zh) (hI : zfi P N N.zy N.zhm N.zr N.zel) : ∀ (t : Tr), okS t → GT P N t
 | .mk n s nl l u, h => got_step B F hN hS hI h.1.1 h.1.2 (gotTs B F hN hS hI l h.2)
theorem gotTs (B : Base P N) (F : Fns P N) (hN : N.zpe ≠ 0) (hS : zfi P N N.zb N.zz N.zk N.zh) (hI : zfi P N N.zy N.zhm N.zr N.zel) : ∀ (l : List Tr), okSs l → ∀ x ∈ l, GT P N x
 | [], _, x, hx => by simp at hx
 | t :: l, h, x, hx => by
  rcases List.mem_cons.1 hx with e | hx
  ·rw [e]; exact gotT B F hN hS hI t h.1
  ·exact gotTs B F hN hS hI l h.2 x hx
end
end
def NB (a b : Nat) : Nat → Prop := fun k => a ≤ k ∧ k < b
section
variable {P : Program} {N : Nums}
theorem zng {st ty et : TypeId} {a b sz by' : Nat} {z z' : Value} {d : TypeDesc} (hS : TI P st (.slice et) a b z') (ht : TI P et d sz by' z) {w : World} {ad : Option Addr} {c : Nat} :
  (Builtin.append_ #[st, st] ty #[.slice none 0 0, .slice ad 0 c]).run P w = .ok (.slice none 0 0) w := by
 obtain ⟨i, hi, _, _, _⟩ := ht.info
 cases ad with
 | none => simp [Builtin.append_, run_underlying hS.und, sizeOf, typeInfo, hi, Builtin.lenOf, Builtin.firstCells]
 | some a =>
  have : (loadCells a 0).run P w = .ok #[] w := by
   have := run_loadCells_list (P := P) w a [] (fun j v hj => by simp at hj)
   simpa using this
  simp [Builtin.append_, run_underlying hS.und, sizeOf, typeInfo, hi, Builtin.lenOf, Builtin.firstCells, this]
theorem ztk (l : List UInt8) : ∀ c ∈ l.map zbf, c.oneCell' = true := fun c hc => by
 obtain ⟨x, _, rfl⟩ := List.mem_map.1 hc
 rfl
theorem zgz (B : Base P N) {w : World} {G : Nat → Prop} {v : Value} {l : List UInt8} {ty : TypeId} (h : tagV w G v l) (hl : l.length < 1099511627776) :
  ∃ v' w', (Builtin.append_ #[N.za, N.za] ty #[.slice none 0 0, v]).run P w = .ok v' w' ∧ tagV w' (NB w.heap.size w'.heap.size) v' l ∧ Mod w w' zp := by
 have empty : ∀ {ad : Option Addr} {c : Nat}, v = .slice ad 0 c → l = [] → ∃ v' w', (Builtin.append_ #[N.za, N.za] ty #[.slice none 0 0, v]).run P w = .ok v' w' ∧ tagV w' (NB w.heap.size w'.heap.size) v' l ∧ Mod w w' zp := by
  intro ad c e1 e2
  subst e1 e2
  exact ⟨_, _, zng B.Lu8 B.uint8, .inl ⟨rfl, _, _, rfl⟩, .refl _ _⟩
 rcases h with ⟨e, _, _, h⟩ | ⟨b, o, c, e, h1, h2, h3⟩
 ·exact empty h e
 ·cases l with
  | nil => exact empty e rfl
  | cons x l =>
   obtain ⟨i, hi, hsz, hbytes, hzero⟩ := B.uint8.info
   have hsrc : Src P i.size N.za v (x :: l).length ((x :: l).map zbf) w := by
    rw [e]
    exact Src.ofSlice w B.Lu8.und ⟨b, o, none⟩ _ c _ (by rw [hsz]; simp) (fun j u hj => by rw [Addr.add_mid]; exact h3 j u hj) (ztk _)
   have hfit : Builtin.nextslicecap (0 + (x :: l).length) 0 * i.bytes ≤ 281474976710656 := by
    have := nextslicecap_le (show 0 < 0 + (x :: l).length by simp)
    rw [hbytes]; omega
   have hrun := run_append_grow_src (P := P) w N.za N.za ty N.zx i _ B.Lu8.und hi hzero none 0 0 [] rfl v _ _ hsrc (by simp) (by omega) hfit
   refine ⟨_, _, hrun, .inr ⟨w.heap.size, 0, _, by rw [Nat.zero_add], by exact grownCap_ge w (x :: l).length 0 N.zx, fun _ => ⟨Nat.le_refl _, by rw [zan]; exact Nat.lt_succ_self _⟩, ?_⟩, (Mod.drew w _).trans' (Mod.alloc _ _ _)⟩
   have hr := zw w.drew (([] ++ (x :: l).map zbf).toArray ++ Builtin.zeroCells (Value.cells (.int .u8 0)) (grownCap w (0 + (x :: l).length) 0 N.zx - (0 + (x :: l).length))) N.zx (0, 0)
   exact (zq.1 (by simpa using hr)).1
theorem zjs (B : Base P N) (w : World) (l : List UInt8) : ∃ v' w', (convert N.zau N.za (strV l)).run P w = .ok v' w' ∧ tagV w' (NB w.heap.size w'.heap.size) v' l ∧ Mod w w' zp := by
 have h := run_bytes_of_string (P := P) w N.zau N.za N.zx ⟨l.toArray⟩ B.string.und B.Lu8.und B.uint8.und
 have hs : (⟨l.toArray⟩ : ByteArray).size = l.length := by simp [ByteArray.size]
 refine ⟨_, _, h, .inr ⟨w.heap.size, 0, _, by rw [hs], ?_, fun _ => ⟨Nat.le_refl _, by rw [zan]; exact Nat.lt_succ_self _⟩, ?_⟩, (Mod.drew w _).trans' (Mod.alloc _ _ _)⟩
 ·rw [← hs]; exact grownCap_ge _ _ _ _
 ·have hr := zw w.drew (bytesRow ⟨l.toArray⟩ (grownCap w (⟨l.toArray⟩ : ByteArray).size 0 N.zx)) N.zx ((bytesRow ⟨l.toArray⟩ (grownCap w (⟨l.toArray⟩ : ByteArray).size 0 N.zx)).size, (bytesRow ⟨l.toArray⟩ (grownCap w (⟨l.toArray⟩ : ByteArray).size 0 N.zx)).size + 1)
  have e : (bytesRow ⟨l.toArray⟩ (grownCap w (⟨l.toArray⟩ : ByteArray).size 0 N.zx)).toList = l.map zbf ++ List.replicate (grownCap w (⟨l.toArray⟩ : ByteArray).size 0 N.zx - (⟨l.toArray⟩ : ByteArray).size) (.int .u8 0) := by
   simp [bytesRow, zbf]
  rw [e] at hr
  exact (zq.1 hr).1
def zdq (n : Int) (s : List UInt8) (nl : Bool) : Tr := .mk n s nl [] []
theorem zfk {w : World} {G : Nat → Prop} {n : Int} {s : List UInt8} {nl : Bool} {v : Value} (h : tagV w G v s) : RepT w G (zdq n s nl) [.int .i64 n, v, .bool nl, .slice none 0 0, .slice none 0 0] := by
 simp only [zdq, RepT]
 exact ⟨v, _, _, rfl, h, .inl ⟨rfl, trivial⟩, .inl ⟨rfl, rfl⟩⟩
theorem zhz {w : World} {G : Nat → Prop} : tagV w G (.slice none 0 0) [] := .inl ⟨rfl, none, 0, rfl⟩
def Told (w : World) (t : Tr) (v : Value) (w' : World) : Prop := ∃ cs, v = .agg cs.toArray ∧ RepT w' (NB w.heap.size w'.heap.size) t cs ∧ Mod w w' zp
theorem zoi {tt tg lt lg : TypeId} (hT : zfi P N tt tg lt lg) {w1 : World} {b : Nat} {cs : List Value} (hr : w1.rangeAt b 0 cs) (hl : cs.length = 5) : (loadVar tt ⟨b, 0, none⟩).run P w1 = .ok (.agg cs.toArray) w1 := by
 obtain ⟨fs, h⟩ := hT.ti
 have hlv : ∀ (f : Array Field) (x : List Value), ldv (.struct f) x = .agg x.toArray := fun _ _ => rfl
 have hl2 := h.run_load (w := w1) (b := b) (o := 0) hr hl (fun h => by cases h)
 simpa [Instr.loadAt, Instr.sureAddr, Sem.run_bind, hlv] using hl2
theorem zhh {tt tg lt lg : TypeId} (hT : zfi P N tt tg lt lg) {w : World} {b : Nat} {old cs : List Value} (hr : w.rangeAt b 0 old) (ho : old.length = 5) (ht : w.there b 0 5) (hl : cs.length = 5) (h1 : ∀ c ∈ cs, c.oneCell' = true) :
  ∃ w', (Instr.storeAt tt (.pointer (some ⟨b, 0, none⟩)) (.agg cs.toArray)).run P w = .ok () w' ∧ Mod w w' (blk b) ∧ w'.heap.size = w.heap.size ∧ w'.rangeAt b 0 cs ∧ w'.there b 0 5 := by
 obtain ⟨fs, h⟩ := hT.ti
 have m : Mod w (w.setCells b 0 cs) (blk b) := Mod.setCells cs 0 w fun _ _ _ _ => rfl
 refine ⟨_, h.run_store (w := w) (b := b) (o := 0) (v := .agg cs.toArray) (cs := cs) rfl hl ht h1, m, zdo _ _ _, ?_, m.there (ztu ht (by decide)) ht⟩
 have := zak cs 0 w _ hr (by omega)
 rwa [List.drop_of_length_le (by omega), List.append_nil] at this
theorem zwa {n : Int} {v : Value} {nl : Bool} (h : v.oneCell' = true) : ∀ c ∈ [Value.int .i64 n, v, .bool nl, .slice none 0 0, .slice none 0 0], c.oneCell' = true := fun c hc => by
 simp at hc
 rcases hc with rfl | rfl | rfl | rfl
 ·rfl
 ·exact h
 ·rfl
 ·rfl
theorem build0 {tt tg lt lg : TypeId} (hT : zfi P N tt tg lt lg) (w : World) : (Instr.build tt #[]).run P w = .ok (.agg zT.toArray) w :=
 hT.tree.run_build (by simp [Instr.fill, zT])
theorem zwp {tt tg lt lg : TypeId} (hT : zfi P N tt tg lt lg) (w : World) (n : Int) : (Instr.build tt #[(0, .int .i64 n)]).run P w = .ok (.agg [.int .i64 n, .slice none 0 0, .bool false, .slice none 0 0, .slice none 0 0].toArray) w :=
 hT.tree.run_build (by simp [Instr.fill, zcn (show (Value.int .i64 n).oneCell' = true from rfl)])
theorem zlu {tt tg lt lg : TypeId} (hT : zfi P N tt tg lt lg) (w : World) {v : Value} (h : v.oneCell' = true) : (Instr.build tt #[(1, v)]).run P w = .ok (.agg [.int .i64 0, v, .bool false, .slice none 0 0, .slice none 0 0].toArray) w :=
 hT.tree.run_build (by simp [Instr.fill, zcn h])
theorem buildB {tt tg lt lg : TypeId} (hT : zfi P N tt tg lt lg) (w : World) (b : Bool) : (Instr.build tt #[(2, .bool b)]).run P w = .ok (.agg [.int .i64 0, .slice none 0 0, .bool b, .slice none 0 0, .slice none 0 0].toArray) w :=
 hT.tree.run_build (by simp [Instr.fill, zcn (show (Value.bool b).oneCell' = true from rfl)])
theorem buildSB {tt tg lt lg : TypeId} (hT : zfi P N tt tg lt lg) (w : World) {v : Value} (h : v.oneCell' = true) (b : Bool) : (Instr.build tt #[(1, v), (2, .bool b)]).run P w = .ok (.agg [.int .i64 0, v, .bool b, .slice none 0 0, .slice none 0 0].toArray) w :=
 hT.tree.run_build (by simp [Instr.fill, zcn h, zcn (show (Value.bool b).oneCell' = true from rfl)])
theorem buildL {tt tg lt lg : TypeId} (hT : zfi P N tt tg lt lg) (w : World) {v : Value} (h : v.oneCell' = true) : (Instr.build tt #[(3, v)]).run P w = .ok (.agg [.int .i64 0, .slice none 0 0, .bool false, v, .slice none 0 0].toArray) w :=
 hT.tree.run_build (by simp [Instr.fill, zcn h])
abbrev zeu (P : Program) (N : Nums) : Prop := zfi P N N.zy N.zhm N.zr N.zel
structure ResAt (w : World) (b : Nat) : Prop where
 r : w.rangeAt b 0 zT
 t : w.there b 0 5
theorem zgg (hI : zeu P N) (w : World) : ∃ w1, (∀ old : Value, (Instr.alloc N.zy true old).run P w = .ok (.pointer (some ⟨w.heap.size, 0, none⟩)) w1) ∧ Mod w w1 zp ∧ w1.heap.size = w.heap.size + 1 ∧ ResAt w1 w.heap.size := by
 obtain ⟨fs, h⟩ := hI.ti
 exact ⟨_, fun old => h.run_alloc old, Mod.alloc _ _ _, zan _ _, zw w zT.toArray N.zy (0, 0), zbj w zT.toArray N.zy⟩
theorem W_hand (hI : zeu P N) {loc : List Nat} {N' : Nat} {σ : Env} {w0 w : World} {b : Nat} {t : Tr} (hb : w0.heap.size ≤ b) (hw : Mod w0 w zp) {cs : List Value} (hrep : RepT w (fun k => NB w0.heap.size w.heap.size k ∧ k ≠ b) t cs) {w' : World} (m : Mod w w' (blk b)) (hs : w'.heap.size = w.heap.size) (hr : w'.rangeAt b 0 cs) (h1 : σ 1 = .pointer (some ⟨b, 0, none⟩)) (hbw : b < w.heap.size) :
  retQ P [.cell 1 N.zy] (Told w0 t) .ret σ w' := by
 refine ⟨.inr rfl, .agg cs.toArray, ⟨⟨b, 0, none⟩, h1, zoi hI hr hrep.len⟩, cs, rfl, RepT.mod m (fun k hk => ⟨hk.1.2, fun o e => hk.2 e, hk.1.1, by have := hk.1.2; omega⟩) t hrep, hw.fresh m fun k o e => by have : k = b := e; omega⟩
theorem zuq (B : Base P N) (F : Fns P N) (hI : zeu P N) (hN : N.zhd ≠ 0) (w : World) (x : Bool) : Call P N.zhd #[.bool x] w (Told w (zdq (if x then 1 else 0) [] false)) := by
 refine (F.boolTree hN).call rfl fun loc N' hlo => ?_
 unfold ztj
 obtain ⟨w1, hal, m1, s1, hres⟩ := zgg hI w
 have store : ∀ n : Int, ∃ w', (Instr.storeAt N.zy (.pointer (some ⟨w.heap.size, 0, none⟩)) (.agg [.int .i64 n, .slice none 0 0, .bool false, .slice none 0 0, .slice none 0 0].toArray)).run P w1 = .ok () w' ∧ ∀ σ : Env, σ 1 = .pointer (some ⟨w.heap.size, 0, none⟩) → retQ P [.cell 1 N.zy] (Told w (zdq n [] false)) .ret σ w' := by
  intro n
  obtain ⟨w', h1, h2, h3, h4, h5⟩ := zhh hI (cs := [.int .i64 n, .slice none 0 0, .bool false, .slice none 0 0, .slice none 0 0]) hres.r rfl hres.t rfl (zwa rfl)
  exact ⟨w', h1, fun σ hσ => W_hand hI (loc := loc) (N' := N') (Nat.le_refl _) m1 (zfk zhz) h2 h3 h4 hσ (by omega)⟩
 refine zd fun K hK => zaa fun τ => ?_
 simp +decide only [bK, Nat.reduceAdd, hal]
 refine hK _ _ (zf fun σ hσ => ?_)
 have f0 := hσ 0
 have f1 := hσ 1
 simp +decide only [bE, Nat.reduceBeqDiff, BEq.rfl, Nat.reduceAdd, Nat.zero_add] at f0 f1
 clear hσ hK K
 refine zd fun K hK => zd fun K1 hK1 => zaa fun τ => ?_
 simp +decide only [bK, bE, Nat.reduceAdd, Nat.zero_add, f0]
 refine hK1 _ _ (zf fun σ2 hσ => ?_)
 have g1 := hσ 1
 have g2 := hσ 2
 simp +decide only [bE, Nat.reduceBeqDiff, BEq.rfl, Nat.reduceAdd, f1] at g1 g2
 clear hσ hK1 K1
 refine W_if hlo g2 ?_
 cases x with
 | true =>
  rw [if_pos rfl]
  obtain ⟨w', hst, hfin⟩ := store 1
  refine zd fun K2 hK2 => zaa fun τ => ?_
  have e1 : ∀ ρ : Env, (#[(0, .const (.int .i64 1))] : Array (Nat × Operand)).map (fun p => (p.1, ev ρ p.2)) = #[(0, .int .i64 1)] := fun ρ => by simp
  simp +decide only [bK, bE, Nat.reduceBeqDiff, BEq.rfl, Nat.reduceAdd, if_true, g1, e1, zwp hI, hst]
  refine hK2 _ _ (zf fun σ3 hσ => zbx ?_)
  have k1 := hσ 1
  simp +decide only [bE, Nat.reduceBeqDiff, Nat.reduceAdd, g1] at k1
  exact hfin _ k1
 | false =>
  rw [if_neg (by simp)]
  refine zbw (hK _ _ ?_)
  obtain ⟨w', hst, hfin⟩ := store 0
  refine zd fun K2 hK2 => zaa fun τ => ?_
  have e1 : ∀ ρ : Env, (#[] : Array (Nat × Operand)).map (fun p => (p.1, ev ρ p.2)) = #[] := fun ρ => by simp
  have hst' : (Instr.storeAt N.zy (.pointer (some ⟨w.heap.size, 0, none⟩)) (.agg zT.toArray)).run P w1 = .ok () w' := hst
  simp +decide only [bK, bE, Nat.reduceBeqDiff, BEq.rfl, Nat.reduceAdd, if_false, g1, e1, build0 hI, hst']
  refine hK2 _ _ (zf fun σ3 hσ => zbx ?_)
  have k1 := hσ 1
  simp +decide only [bE, Nat.reduceBeqDiff, Nat.reduceAdd, g1] at k1
  exact hfin _ k1
end
section
variable {P : Program} {N : Nums}
theorem run_eqlP {t a : TypeId} (h : P.underlying t = some (.pointer a)) {x y : Operand} {m : Option Addr} {w : World} :
  (do eqGuard .eql t x y (.pointer m) (.pointer none); binOp .eql t (.pointer m) (.pointer none) : Sem Value).run P w = .ok (.bool m.isNone) w := by
 have e : (Op.equal t (.pointer m) (.pointer none)).run P w = .ok m.isNone w := by
  unfold Op.equal Op.maxDepth
  rw [show (10000 : Nat) = 9999 + 1 from rfl]
  unfold Op.equalIn
  rw [Sem.run_bind, run_underlying h, Result.andThen_ok]
  cases m <;> rfl
 have e1 : (eqGuard .eql t x y (.pointer m) (.pointer none)).run P w = .ok () w := rfl
 rw [Sem.run_bind, e1, Result.andThen_ok]
 show ((do pure (.bool (← Op.equal t (.pointer m) (.pointer none))) : Sem Value)).run P w = _
 rw [Sem.run_bind, e, Result.andThen_ok]
 rfl
theorem run_eqlS {t a : TypeId} (h : P.underlying t = some (.slice a)) {x y : Operand} {m : Option Addr} {n c : Nat} {w : World} :
  (do eqGuard .eql t x y (.slice m n c) (.slice none 0 0); binOp .eql t (.slice m n c) (.slice none 0 0) : Sem Value).run P w = .ok (.bool m.isNone) w := by
 have e : (Op.equal t (.slice m n c) (.slice none 0 0)).run P w = .ok m.isNone w := by
  unfold Op.equal Op.maxDepth
  rw [show (10000 : Nat) = 9999 + 1 from rfl]
  unfold Op.equalIn
  rw [Sem.run_bind, run_underlying h, Result.andThen_ok]
  cases m <;> rfl
 have e1 : (eqGuard .eql t x y (.slice m n c) (.slice none 0 0)).run P w = .ok () w := rfl
 rw [Sem.run_bind, e1, Result.andThen_ok]
 show ((do pure (.bool (← Op.equal t (.slice m n c) (.slice none 0 0))) : Sem Value)).run P w = _
 rw [Sem.run_bind, e, Result.andThen_ok]
 rfl
theorem OctG.tagV {w : World} {G : Nat → Prop} {v : Value} {o : Option (List UInt8)} (h : OctG w G v o) : tagV w G v (o.getD []) := by
 cases o with
 | none => exact .inl ⟨rfl, _, _, h⟩
 | some l => exact .inr h
theorem zul (hI : zeu P N) {w w1 w2 : World} {b : Nat} (hb : b = w.heap.size) (m1 : Mod w w1 zp) (s1 : w1.heap.size = w.heap.size + 1) (hres : ResAt w1 b) (m2 : Mod w1 w2 zp) {v : Value} {s : List UInt8} (hv : tagV w2 (NB w1.heap.size w2.heap.size) v s) (n : Int) (nl : Bool) :
  ∃ w', (Instr.storeAt N.zy (.pointer (some ⟨b, 0, none⟩)) (.agg [.int .i64 n, v, .bool nl, .slice none 0 0, .slice none 0 0].toArray)).run P w2 = .ok () w' ∧ ∀ σ : Env, σ 1 = .pointer (some ⟨b, 0, none⟩) → retQ P [.cell 1 N.zy] (Told w (zdq n s nl)) .ret σ w' := by
 have s2 := m2.size
 obtain ⟨w', h1, h2, h3, h4, h5⟩ := zhh hI (cs := [.int .i64 n, v, .bool nl, .slice none 0 0, .slice none 0 0]) (zv m2 hres.r) rfl (m2.there (by omega) hres.t) rfl (zwa hv.one)
 refine ⟨w', h1, fun σ hσ => W_hand hI (loc := []) (N' := 0) (by omega) (m1.trans' m2) (zfk (hv.imp (fun x => ⟨x.1, x.2⟩) fun x => x.mono ?_)) h2 h3 h4 hσ (by omega)⟩
 all_goals exact fun k hk => ⟨⟨by have := hk.1; omega, hk.2⟩, by have := hk.1; omega⟩
theorem zup (B : Base P N) (F : Fns P N) (hI : zeu P N) (hN : N.zgc ≠ 0) (hp : N.zcb ≠ 0) {w : World} {G : Nat → Prop} {o : Option (List UInt8)} {cs : List Value} (hG : ∀ k, G k → k < w.heap.size) (h : Rep w G (.nstr o) cs) :
  ∃ v, cs = [v] ∧ Call P N.zgc #[v] w (Told w (zdq 0 (o.getD []) o.isNone)) := by
 have hv : ∃ m : Option Addr, cs = [.pointer m] ∧ m.isNone = o.isNone ∧ ∀ l, o = some l → ∃ b, m = some ⟨b, 0, none⟩ ∧ b < w.heap.size ∧ w.cell? ⟨b, 0, none⟩ = some (strV l) := by
  cases o with
  | none => exact ⟨none, by simpa only [Rep] using h, rfl, fun l e => by cases e⟩
  | some l =>
   simp only [Rep] at h
   obtain ⟨b, e, g, hr⟩ := h
   exact ⟨_, e, rfl, fun l' e' => by cases e'; exact ⟨b, rfl, hG b g, hr 0 _ rfl⟩⟩
 obtain ⟨m, rfl, hm, hsome⟩ := hv
 refine ⟨_, rfl, ?_⟩
 refine (F.textTree hN).call rfl fun loc N' hlo => ?_
 unfold zti
 obtain ⟨w1, hal, m1, s1, hres⟩ := zgg hI w
 refine zd fun K hK => zaa fun τ => ?_
 simp +decide only [bK, Nat.reduceAdd, hal]
 refine hK _ _ (zf fun σ hσ => ?_)
 have f0 := hσ 0
 have f1 := hσ 1
 simp +decide only [bE, Nat.reduceBeqDiff, BEq.rfl, Nat.reduceAdd, Nat.zero_add] at f0 f1
 clear hσ hK K
 refine zd fun K hK => zd fun K1 hK1 => zaa fun τ => ?_
 simp +decide only [bK, bE, BEq.rfl, Nat.reduceAdd, Nat.zero_add, f0, run_eqlP (B.pstring hp).und]
 refine hK1 _ _ (zf fun σ2 hσ => ?_)
 have g0 := hσ 0
 have g1 := hσ 1
 have g2 := hσ 2
 simp +decide only [bE, Nat.reduceBeqDiff, BEq.rfl, Nat.reduceAdd, Nat.zero_add, f0, f1] at g0 g1 g2
 clear hσ hK1 K1
 refine W_if hlo g2 ?_
 cases o with
 | none =>
  rw [if_pos (by rw [hm]; rfl)]
  obtain ⟨w', hst, hfin⟩ := zul hI rfl m1 s1 hres (.refl w1 _) (zhz) 0 true
  refine zd fun K2 hK2 => zaa fun τ => ?_
  have e1 : ∀ ρ : Env, (#[(2, .const (.bool true))] : Array (Nat × Operand)).map (fun p => (p.1, ev ρ p.2)) = #[(2, .bool true)] := fun ρ => by simp
  simp +decide only [bK, bE, Nat.reduceBeqDiff, BEq.rfl, Nat.reduceAdd, g1, e1, buildB hI, hst]
  refine hK2 _ _ (zf fun σ3 hσ => zbx ?_)
  have k1 := hσ 1
  simp +decide only [bE, Nat.reduceBeqDiff, Nat.reduceAdd, g1] at k1
  exact hfin _ k1
 | some l =>
  rw [if_neg (by rw [hm]; simp)]
  refine zbw (hK _ _ ?_)
  obtain ⟨b, rfl, hbw, hcell⟩ := hsome l rfl
  have hcell1 : w1.cell? ⟨b, 0, none⟩ = some (strV l) := by rw [m1.cell _ _ hbw (fun h => h)]; exact hcell
  obtain ⟨v', w2, hconv, htv, m2⟩ := zjs B w1 l
  obtain ⟨w', hst, hfin⟩ := zul hI rfl m1 s1 hres m2 htv 0 false
  refine zd fun K2 hK2 => zaa fun τ => ?_
  have e1 : ∀ ρ : Env, (#[(1, T 3)] : Array (Nat × Operand)).map (fun p => (p.1, ev ρ p.2)) = #[(1, ρ 3)] := fun ρ => by simp
  simp +decide only [bK, bE, Nat.reduceBeqDiff, BEq.rfl, Nat.reduceAdd, Nat.zero_add, g0]
  rw [zai rfl]
  simp +decide only [bK, bE, Nat.reduceBeqDiff, BEq.rfl, g1, B.string.run_load1 rfl, hcell1, hconv, e1, zlu hI _ htv.one, hst]
  refine hK2 _ _ (zf fun σ3 hσ => zbx ?_)
  have k1 := hσ 1
  simp +decide only [bE, Nat.reduceBeqDiff, Nat.reduceAdd, g1] at k1
  exact hfin _ k1
theorem zrn (B : Base P N) (F : Fns P N) (hI : zeu P N) (hN : N.zfg ≠ 0) {w : World} {G : Nat → Prop} {o : Option (List UInt8)} {v : Value} (hG : ∀ k, G k → k < w.heap.size) (h : OctG w G v o) (hl : (o.getD []).length < 1099511627776) :
  Call P N.zfg #[v] w (Told w (zdq 0 (o.getD []) o.isNone)) := by
 have hv : ∃ m n c, v = .slice m n c ∧ m.isNone = o.isNone := by
  cases o with
  | none => exact ⟨none, 0, 0, h, rfl⟩
  | some l => obtain ⟨b, o', c, e, _⟩ := h; exact ⟨_, _, _, e, rfl⟩
 obtain ⟨m, n, c, hv, hm⟩ := hv
 refine (F.octetsTree hN).call rfl fun loc N' hlo => ?_
 unfold zpx
 obtain ⟨w1, hal, m1, s1, hres⟩ := zgg hI w
 refine zd fun K hK => zaa fun τ => ?_
 simp +decide only [bK, Nat.reduceAdd, hal]
 refine hK _ _ (zf fun σ hσ => ?_)
 have f0 := hσ 0
 have f1 := hσ 1
 simp +decide only [bE, Nat.reduceBeqDiff, BEq.rfl, Nat.reduceAdd, Nat.zero_add] at f0 f1
 clear hσ hK K
 have htv1 : tagV w1 G v (o.getD []) := h.tagV.mod m1 fun k hk => ⟨hG k hk, fun _ h => h, hk⟩
 obtain ⟨v', w2, happ, htv, m2⟩ := zgz (ty := N.za) B htv1 hl
 obtain ⟨w', hst, hfin⟩ := zul hI rfl m1 s1 hres m2 htv 0 o.isNone
 have heq : ∀ {x y : Operand} {w : World}, (do eqGuard .eql N.za x y v (.slice none 0 0); binOp .eql N.za v (.slice none 0 0) : Sem Value).run P w = .ok (.bool o.isNone) w := by
  intro x y w
  rw [← hm, hv]
  exact run_eqlS B.Lu8.und
 refine zd fun K2 hK2 => zaa fun τ => ?_
 have e1 : ∀ ρ : Env, (#[(1, T 1), (2, T 3)] : Array (Nat × Operand)).map (fun p => (p.1, ev ρ p.2)) = #[(1, ρ 1), (2, ρ 3)] := fun ρ => by simp
 simp +decide only [bK, bE, Nat.reduceBeqDiff, BEq.rfl, Nat.reduceAdd, Nat.zero_add, f0, f1, happ, heq, e1, buildSB hI _ htv.one, hst]
 refine hK2 _ _ (zf fun σ3 hσ => zbx ?_)
 have k1 := hσ 1
 simp +decide only [bE, Nat.reduceBeqDiff, Nat.reduceAdd, f1] at k1
 exact hfin _ k1
end
section
variable {P : Program} {N : Nums}
def cLess (N : Nums) : C := .draw [
 ⟨some 0, .move (V 5), 0, none, []⟩,
 ⟨some 1, .binOp .gtr N.ze (T 0) (.const (.int .i64 0)) N.ze, 0, none, [0]⟩,
 ⟨some 2, .move (T 1), 0, none, [1]⟩,
 ⟨some 3, .move (V 0), 0, (some (some 2, true)), [2]⟩,
 ⟨some 4, .move (V 5), 0, (some (some 2, true)), [2]⟩,
 ⟨some 5, .indexAddr N.zel (T 3) (T 4), 0, (some (some 2, true)), [3, 4, 2]⟩,
 ⟨some 6, .fieldAddr N.zhm (T 5) 0, 0, (some (some 2, true)), [5, 2]⟩,
 ⟨some 7, .load N.zj (T 6), 0, (some (some 2, true)), [6, 2]⟩,
 ⟨some 8, .move (V 0), 0, (some (some 2, true)), [2]⟩,
 ⟨some 9, .move (V 5), 0, (some (some 2, true)), [2]⟩,
 ⟨some 10, .binOp .sub N.ze (T 9) (.const (.int .i64 1)) N.ze, 0, (some (some 2, true)), [9, 2]⟩,
 ⟨some 11, .indexAddr N.zel (T 8) (T 10), 0, (some (some 2, true)), [8, 10, 2]⟩,
 ⟨some 12, .fieldAddr N.zhm (T 11) 0, 0, (some (some 2, true)), [11, 2]⟩,
 ⟨some 13, .load N.zj (T 12), 0, (some (some 2, true)), [12, 2]⟩,
 ⟨some 14, .binOp .lss N.zj (T 7) (T 13) N.zj, 0, (some (some 2, true)), [7, 13, 2]⟩,
 ⟨some (6+100), .pick (T 2) (T 14) (.const (.bool false)), 0, none, [2, 14]⟩]
theorem W_less (B : Base P N) (hI : zeu P N) {loc : List Nat} {N' : Nat} {Q : Exit → Env → World → Prop} {σ : Env} {w : World} {b c j : Nat} {u : List (Nat × List UInt8)} (f0 : σ 0 = .slice (some ⟨b, 0, none⟩) u.length c) (f5 : σ 5 = .int .i64 j) (hj : j < u.length) (hu : u.length < 4611686018427387904)
  (hc : ∀ i x, u[i]? = some x → w.drew.cell? ⟨b, i * 2, none⟩ = some (.int .u32 x.1)) (hs : (u.map Prod.fst).Pairwise (· < ·))
  (hQ : ∀ σ' : Env, σ' 6 = .bool false → (∀ i, i < 6 → σ' i = σ i) → Q .normal σ' w.drew) : W P loc N' (cLess N) Q σ w := by
 obtain ⟨fs, hI1⟩ := hI.tu
 refine zse B.mixed (by kernel_rfl) fun τ => ?_
 have same : ∀ {σ' : Env}, (∀ i, σ' i = σ' i) → True := fun _ => trivial
 clear same
 by_cases h0 : j = 0
 ·subst h0
  have e0 : decide (((0 : Nat) : Int) > 0) = false := by decide
  simp +decide only [bK, bE, zfa, Nat.reduceBeqDiff, decide_false, BEq.rfl, Nat.reduceAdd, if_false, true_and, f5, zbs, Bool.not_true, zcc]
  refine zf (K := fun σ' w' => Q .normal σ' w') fun σ' hσ => hQ _ ?_ fun i hi => ?_
  ·have := hσ 6
   simp +decide only [bE, BEq.rfl, Nat.reduceAdd] at this
   exact this
  ·rw [hσ]
   match i, hi with
   | 0, _ => simp +decide only [bE, Nat.reduceBeqDiff, Nat.zero_add]
   | 1, _ => simp +decide only [bE, Nat.reduceBeqDiff, Nat.reduceAdd]
   | 2, _ => simp +decide only [bE, Nat.reduceBeqDiff, Nat.reduceAdd]
   | 3, _ => simp +decide only [bE, Nat.reduceBeqDiff, Nat.reduceAdd]
   | 4, _ => simp +decide only [bE, Nat.reduceBeqDiff, Nat.reduceAdd]
   | 5, _ => simp +decide only [bE, Nat.reduceBeqDiff, Nat.reduceAdd]
 ·have e0 : decide ((j : Int) > 0) = true := by simp; omega
  have hx := List.getElem?_eq_getElem hj
  have hj1 : j - 1 < u.length := by omega
  have hx1 := List.getElem?_eq_getElem hj1
  have c1 := hc _ _ hx
  have c2 := hc _ _ hx1
  have hlt : (u[j - 1]).1 < (u[j]).1 := by
   have := List.pairwise_iff_getElem.1 hs (j - 1) j (by simpa using hj1) (by simpa using hj) (by omega)
   simpa using this
  have hw : IntKind.i64.wrap ((j : Int) - 1) = ((j - 1 : Nat) : Int) := by
   rw [show ((j : Int) - 1) = ((j - 1 : Nat) : Int) by omega]
   exact wrap_i64 (by omega) (by omega)
  have hd : decide (((u[j]).1 : Int) < ((u[j - 1]).1 : Int)) = false := by simp; omega
  simp +decide only [bK, bE, zfa, Nat.reduceBeqDiff, BEq.rfl, Nat.reduceAdd, Nat.add_zero, Nat.zero_add, if_true, true_and, f0, f5, e0, zas, zcc, zab hI.lg hI1 hj, zab hI.lg hI1 hj1, hI.g0.run, B.uint32.run_load1 rfl, c1, c2, hw, hd]
  refine zf (K := fun σ' w' => Q .normal σ' w') fun σ' hσ => hQ _ ?_ fun i hi => ?_
  ·have := hσ 6
   simp +decide only [bE, BEq.rfl, Nat.reduceAdd] at this
   exact this
  ·rw [hσ]
   match i, hi with
   | 0, _ => simp +decide only [bE, Nat.reduceBeqDiff, Nat.zero_add]
   | 1, _ => simp +decide only [bE, Nat.reduceBeqDiff, Nat.reduceAdd]
   | 2, _ => simp +decide only [bE, Nat.reduceBeqDiff, Nat.reduceAdd]
   | 3, _ => simp +decide only [bE, Nat.reduceBeqDiff, Nat.reduceAdd]
   | 4, _ => simp +decide only [bE, Nat.reduceBeqDiff, Nat.reduceAdd]
   | 5, _ => simp +decide only [bE, Nat.reduceBeqDiff, Nat.reduceAdd]
theorem zxw (B : Base P N) (F : Fns P N) (hI : zeu P N) (hN : N.zml ≠ 0) {w : World} {G : Nat → Prop} {v : Value} {u : List (Nat × List UInt8)} (h : RepU w G v u) (hu : u.length < 4611686018427387904) (hs : (u.map Prod.fst).Pairwise (· < ·)) :
  Call P N.zml #[v] w fun _ w' => Mod w w' zp := by
 have hu1 : (v = .slice none 0 0 ∧ u.length = 0) ∨ ∃ b c, v = .slice (some ⟨b, 0, none⟩) u.length c := h.imp (fun h => ⟨h.1, by rw [h.2]; rfl⟩) fun ⟨b, c, _, h, _⟩ => ⟨b, c, h⟩
 refine (F.sorted hN).call rfl fun loc N' hlo => ?_
 unfold c_sorted
 refine zd fun K hK => zaa fun τ => ?_
 simp +decide only [bK, bE, BEq.rfl, Nat.reduceAdd, Nat.zero_add, zmu hI.lg hu1]
 refine hK _ _ (zf fun σ hσ => ?_)
 have f0 := hσ 0
 have f1 := hσ 1
 have f2 := hσ 2
 simp +decide only [bE, Nat.reduceBeqDiff, BEq.rfl, Nat.reduceAdd, Nat.zero_add] at f0 f1 f2
 clear hσ hK K
 refine zjm (i := 2) (l := 1) (c := 3) (k := 0) hlo hu (fun j σ w' => σ 0 = v ∧ σ 1 = .int .i64 u.length ∧ σ 2 = .int .i64 j ∧ j ≤ u.length ∧ Mod w w' zp) (fun j σ w h => ⟨h.2.2.1, h.2.1, h.2.2.2.1⟩) (fun j σ w b h => ?_) ⟨f0, f1, f2, Nat.zero_le _, .refl _ _⟩ (fun σ' w' h => ⟨.inl rfl, .tuple #[], rfl, h.2.2.2.2⟩) (fun j σ' w' hj h => ?_)
 ·obtain ⟨a, b, c, d, e⟩ := h
  exact ⟨by rw [zi (by decide)]; exact a, by rw [zi (by decide)]; exact b, by rw [zi (by decide)]; exact c, d, e⟩
 ·obtain ⟨a, b, c, d, e⟩ := h
  rcases h with ⟨_, h0⟩ | ⟨bl, cp, cs, hv, _, _, hus, hrg⟩
  ·rw [h0] at hj; simp at hj
  rw [hv] at a
  refine zd fun K hK => zaa fun τ => ?_
  simp +decide only [bK, bE, BEq.rfl, Nat.reduceAdd, c]
  refine hK _ _ (zf fun σ4 hσ => ?_)
  have g0 := hσ 0
  have g1 := hσ 1
  have g2 := hσ 2
  have g4 := hσ 4
  simp +decide only [bE, Nat.reduceBeqDiff, BEq.rfl, Nat.reduceAdd, Nat.zero_add, a, b, c] at g0 g1 g2 g4
  clear hσ hK K
  refine zd fun K hK => zaa fun τ => ?_
  simp +decide only [bK, bE, BEq.rfl, Nat.reduceAdd, g4]
  refine hK _ _ (zf fun σ5 hσ => ?_)
  have p0 := hσ 0
  have p1 := hσ 1
  have p2 := hσ 2
  have p5 := hσ 5
  simp +decide only [bE, Nat.reduceBeqDiff, BEq.rfl, Nat.reduceAdd, Nat.zero_add, g0, g1, g2] at p0 p1 p2 p5
  clear hσ hK K
  refine zeb (zna (fun _ σ w1 => σ = σ5 ∧ w1 = w') (n := 0) ⟨rfl, rfl⟩ ?_)
  rintro n σ6 w6 ⟨rfl, rfl⟩
  have md : Mod w w6.drew zp := e.trans' (Mod.drew _ _)
  refine zd fun K hK => zd fun K1 hK1 => W_less B hI p0 p5 hj hu (fun i x hx => ?_) hs fun σ7 h6 hag => hK1 _ _ (W_if hlo h6 ?_)
  ·obtain ⟨v', q1, _, _⟩ := hus.get5 hx
   have := zv md hrg _ _ q1
   rwa [Nat.zero_add] at this
  ·rw [if_neg (by simp)]
   refine zlx ?_
   simp only [zdy, inB, if_true]
   have k0 := hag 0 (by decide)
   have k1 := hag 1 (by decide)
   have k2 := hag 2 (by decide)
   rw [p0] at k0; rw [p1] at k1; rw [p2] at k2
   exact ⟨k2, by rw [zi (by decide), k0, hv], by rw [zi (by decide)]; exact k1, upd_same _ _ _, by omega, md⟩
end
section
variable {P : Program} {N : Nums}
theorem call_less (B : Base P N) (F : Fns P N) (hN : N.zcz ≠ 0) {st : TI P N.zbg (.slice N.zj) 1 24 (.slice none 0 0)} {w : World} {bv blk n c : Nat} (hv : w.cell? ⟨bv, 0, none⟩ = some (.slice (some ⟨blk, 0, none⟩) n c)) {g : Nat → Int}
  (hc : ∀ t, t < n → w.cell? ⟨blk, t, none⟩ = some (.int .u32 (g t))) {i j : Nat} (hi : i < n) (hj : j < n) :
  Call P N.zcz #[.int .i64 i, .int .i64 j, .pointer (some ⟨bv, 0, none⟩)] w fun v w' => v = .bool (decide (g i < g j)) ∧ w' = w.drew := by
 refine (F.PTags_Each_1 hN).call rfl fun loc N' hlo => ?_
 unfold zmx
 refine zd fun K hK => zav (hK _ _ ?_)
 clear hK K
 obtain ⟨σ, hσ⟩ : ∃ σ, σ = upd (zda #[.int .i64 i, .int .i64 j, .pointer (some ⟨bv, 0, none⟩)]) 3 (.bool false) := ⟨_, rfl⟩
 have f0 : σ 0 = .int .i64 i := by rw [hσ, zi (by decide)]; rfl
 have f1 : σ 1 = .int .i64 j := by rw [hσ, zi (by decide)]; rfl
 have f2 : σ 2 = .pointer (some ⟨bv, 0, none⟩) := by rw [hσ, zi (by decide)]; rfl
 rw [← hσ]
 clear hσ
 have hv' : w.drew.cell? ⟨bv, 0, none⟩ = some (.slice (some ⟨blk, 0, none⟩) n c) := hv
 have ci : w.drew.cell? ⟨blk, i, none⟩ = some (.int .u32 (g i)) := hc i hi
 have cj : w.drew.cell? ⟨blk, j, none⟩ = some (.int .u32 (g j)) := hc j hj
 refine zd fun K hK => zse B.mixed (by kernel_rfl) fun τ => ?_
 simp +decide only [bK, bE, zfa, Nat.reduceBeqDiff, BEq.rfl, Nat.reduceAdd, Nat.zero_add, Nat.mul_one, true_and, f0, f1, f2, st.run_load1 rfl, hv', zab st B.uint32 hi, zab st B.uint32 hj, B.uint32.run_load1 rfl, ci, cj]
 refine hK _ _ (zf fun σ4 hσ => zbx ⟨.inr rfl, _, rfl, ?_, rfl⟩)
 have := hσ 3
 simp +decide only [bE, BEq.rfl, Nat.reduceAdd] at this
 exact this
end
open Go.ChangeMaps (setBlock)
theorem nodup_le : ∀ (l m : List Nat), l.Nodup → (∀ x ∈ l, x ∈ m) → l.length ≤ m.length
 | [], _, _, _ => Nat.zero_le _
 | x :: l, m, hn, hs => by
  have hx := hs x (by simp)
  have hn2 := List.nodup_cons.1 hn
  have h1 := nodup_le l (m.erase x) hn2.2 fun y hy => (List.mem_erase_of_ne fun e => by subst e; exact hn2.1 hy).2 (hs y (by simp [hy]))
  rw [List.length_erase_of_mem hx] at h1
  have := List.length_pos_of_mem hx
  simp only [List.length_cons]
  omega
theorem ztm {l : List MapEntry} (h : (l.map MapEntry.born).Nodup) : l.Nodup := List.Pairwise.of_map MapEntry.born (fun _ _ h e => h (by rw [e])) h
section
variable {P : Program} {N : Nums}
theorem zxl {t a b : TypeId} (h : P.underlying t = some (.map a b)) {ty : TypeId} {w : World} : (Builtin.len_ #[t] ty #[.map none]).run P w = .ok (.int .i64 0) w := by
 simp [Builtin.len_, run_underlying h, goInt]
theorem zsx {t a b : TypeId} (h : P.underlying t = some (.map a b)) {ty : TypeId} {w : World} {m : Nat} {es : Array MapEntry} {ck : Nat} (hm : w.heap[m]? = some (.map es ck)) : (Builtin.len_ #[t] ty #[.map (some m)]).run P w = .ok (.int .i64 es.size) w := by
 simp [Builtin.len_, run_underlying h, MapKept.run_getObj_map hm, goInt]
theorem Mod.setIter {w : World} {r : Nat} {m m' : Option Nat} {a a' c c' : Nat} {s s' : Array Nat} (h : w.heap[r]? = some (.mapIter m a s c)) : Mod w (setBlock w r (.mapIter m' a' s' c')) (blk r) ∧ (setBlock w r (.mapIter m' a' s' c')).heap[r]? = some (.mapIter m' a' s' c') ∧ (setBlock w r (.mapIter m' a' s' c')).heap.size = w.heap.size := by
 have hlt : r < w.heap.size := (Array.getElem?_eq_some_iff.1 h).1
 have h1 : (setBlock w r (.mapIter m' a' s' c')).heap[r]? = some (.mapIter m' a' s' c') := by simp [setBlock, hlt]
 have h2 : ∀ k, k ≠ r → (setBlock w r (.mapIter m' a' s' c')).heap[k]? = w.heap[k]? := fun k hk => by
  simp only [setBlock]
  rw [Array.getElem?_setIfInBounds_ne (fun e => hk e.symm)]
 refine ⟨⟨rfl, rfl, rfl, by simp [setBlock], fun k hk hn => h2 k fun e => hn 0 e, fun k o hk hn => ?_, fun k o hk => ?_, fun k o hk => ?_, fun k hk => ?_⟩, h1, by simp [setBlock]⟩
 ·exact World.cell?_of_block (h2 k fun e => hn e)
 ·by_cases e : k = r
  ·subst e; simp only [World.cell?, h1, h]
  ·rw [World.cell?_of_block (h2 k e)]
 ·by_cases e : k = r
  ·subst e; simp only [World.frozen?, h1, h]
  ·rw [World.frozen?_of_block (h2 k e)]
 ·by_cases e : k = r
  ·subst e; simp only [World.shape?, h1, h]
  ·simp only [World.shape?, h2 k e]
theorem zvp {st et : TypeId} {a b sz by' : Nat} {z z' : Value} {d : TypeDesc} (hS : TI P st (.slice et) a b z') (ht : TI P et d sz by' z) (hz : z.cells.size = sz) {w : World} {n : Nat} (hn : by' * n ≤ 281474976710656) (hn2 : n < 4611686018427387904) :
  ∃ w', (Instr.makeSlice st (.int .i64 0) (.int .i64 n)).run P w = .ok (.slice (some ⟨w.heap.size, 0, none⟩) 0 n) w' ∧ Own w' w.heap.size sz (.slice (some ⟨w.heap.size, 0, none⟩) 0 n) 0 [] ∧ Mod w w' zp ∧ w'.heap.size = w.heap.size + 1 := by
 obtain ⟨i, hi, hsz, hbytes, hzero⟩ := ht.info
 have hb : (i.bytes : Int) * (n : Int) ≤ 281474976710656 := by
  have : ((i.bytes * n : Nat) : Int) ≤ 281474976710656 := by rw [hbytes]; omega
  rwa [Int.natCast_mul] at this
 have hr := run_make (P := P) w st et i z hS.und hi hzero .i64 .i64 0 n (Int.le_refl _) (by omega) hb (by omega)
 simp only [Int.toNat_zero, Int.toNat_natCast] at hr
 refine ⟨_, hr, .inr ⟨w.heap.size, n, rfl, Nat.le_refl _, by rw [zan]; exact Nat.lt_succ_self _, Nat.zero_le _, ?_, fun j v hj => by simp at hj, by simp⟩, Mod.alloc _ _ _, zan _ _⟩
 have := zbj w (madeCells z.cells (n * i.size)) et
 rw [size_madeCells, hsz] at this
 rw [hsz]
 exact this
structure LU (P : Program) (N : Nums) : Prop where
 lu : TI P N.zbg (.slice N.zj) 1 24 (.slice none 0 0)
structure EC (es : List MapEntry) (ck mr : Nat) (w0 : World) (lo b3 rI : Nat) (v0 v1 : Value) (picked : List MapEntry) (σ : Env) (w : World) : Prop where
 f0 : σ 0 = v0
 f1 : σ 1 = v1
 f3 : σ 3 = .pointer (some ⟨b3, 0, none⟩)
 f4 : σ 4 = .pointer (some ⟨rI, 0, none⟩)
 mod : Mod w0 w zp
 map : w.heap[mr]? = some (.map es.toArray ck)
 iter : ∃ seen, w.heap[rI]? = some (.mapIter (some mr) ck seen ck) ∧ seen.toList = picked.map MapEntry.born
 mem : ∀ e ∈ picked, e ∈ es
 nd : (picked.map MapEntry.born).Nodup
 row : ∃ v, w.cell? ⟨b3, 0, none⟩ = some v ∧ w.there b3 0 1 ∧ Own w lo 1 v picked.length (picked.map MapEntry.key) ∧ zao v b3 ∧ zao v rI
 lt : b3 < w.heap.size ∧ rI < w.heap.size ∧ w0.heap.size ≤ b3 ∧ w0.heap.size ≤ rI ∧ mr < w0.heap.size ∧ w0.heap.size ≤ lo ∧ lo ≤ w.heap.size ∧ b3 ≠ rI
def cCollect (N : Nums) : C :=
 .seq (.ops [⟨some 0, .next (V 4) false, N.t_, none, []⟩, ⟨some (5+100), .extract (T 0) 0, 0, none, []⟩])
  (.seq (.cond 5 .skip (.exit 0))
   (.block 1 (.seq (.ops [⟨some 0, .entry (V 4), 0, none, []⟩, ⟨some 1, .extract (T 0) 0, 0, none, []⟩, ⟨some (6+100), .assign (T 1), 0, none, []⟩])
    (.ops [⟨some 0, .load N.zbg (V 3), 0, none, []⟩, ⟨some 1, .move (V 6), 0, none, []⟩, ⟨some 2, .buildSlice N.zbg 1 #[(0, (T 1))], 0, none, []⟩,
     ⟨some 3, .call ⟨.builtin .append, #[T 0, T 2], #[N.zbg, N.zbg]⟩, N.zbg, none, []⟩, ⟨none, .store N.zbg (V 3) (T 3), 0, none, []⟩]))))
theorem zue {a b c : Value} {w : World} : (Instr.extract (.tuple #[a, b, c]) 0).run P w = .ok a w := rfl
theorem zsj {a : Value} {w : World} : (Instr.extract (.tuple #[a]) 0).run P w = .ok a w := rfl
theorem zun (B : Base P N) (hL : LU P N) {loc : List Nat} {N' : Nat} (hlo : zfo loc N') {Q : Exit → Env → World → Prop} {es : List MapEntry} {ck mr : Nat} {w0 w : World} {lo b3 rI : Nat} {v0 v1 : Value} {picked : List MapEntry} {σ : Env}
  (hes : ∀ e ∈ es, e.born < ck) (hnd : (es.map MapEntry.born).Nodup) (hkey : ∀ e ∈ es, e.key.oneCell' = true) (hsz : es.length < 1099511627776)
  (h : EC es ck mr w0 lo b3 rI v0 v1 picked σ w)
  (hend : ∀ σ' w', EC es ck mr w0 lo b3 rI v0 v1 picked σ' w' → picked.Perm es → Q (.exit 0) σ' w')
  (hstep : ∀ σ' w' e, picked.length < es.length → EC es ck mr w0 lo b3 rI v0 v1 (picked ++ [e]) σ' w' → Q .normal σ' w') : W P loc N' (cCollect N) Q σ w := by
 obtain ⟨f0, f1, f3, f4, mod, map, ⟨seen, iter, hseen⟩, mem, nd, ⟨v, hc, ht, ho, nb3, nbI⟩, l1, l2, l3, l4, l5, l6, l7, l8⟩ := h
 have hnx := run_next_at (P := P) w N.t_ rI mr ck ck seen es.toArray ck iter map (by simpa using hes) (Nat.le_refl _)
 unfold cCollect
 rcases hnx with ⟨h0, hrun⟩ | ⟨e, he, w1, hw1, hrun⟩
 ·
  refine zd fun K hK => zaa fun τ => ?_
  simp +decide only [bK, bE, BEq.rfl, Nat.reduceAdd, f4, zvk, hrun, zsj]
  refine hK _ _ (zf fun σ' hσ => ?_)
  have g0 := hσ 0
  have g1 := hσ 1
  have g3 := hσ 3
  have g4 := hσ 4
  have g5 := hσ 5
  simp +decide only [bE, Nat.reduceBeqDiff, BEq.rfl, Nat.reduceAdd, Nat.zero_add, f0, f1, f3, f4] at g0 g1 g3 g4 g5
  clear hσ hK K
  refine zd fun K hK => W_if hlo g5 ?_
  rw [if_neg (by simp)]
  refine zlx ?_
  refine hend _ _ ⟨g0, g1, g3, g4, mod, map, ⟨seen, iter, hseen⟩, mem, nd, ⟨v, hc, ht, ho, nb3, nbI⟩, l1, l2, l3, l4, l5, l6, l7, l8⟩ ?_
  have hall := all_seen es.toArray seen h0
  have ndp : picked.Nodup := ztm nd
  have nde : es.Nodup := ztm hnd
  rw [List.perm_ext_iff_of_nodup ndp nde]
  intro x
  refine ⟨mem x, fun hx => ?_⟩
  have hb := hall x (by simpa using hx)
  have hb2 : x.born ∈ picked.map MapEntry.born := by
   rw [← hseen]; simpa using hb
  obtain ⟨y, hy, hyb⟩ := List.mem_map.1 hb2
  have := born_inj hnd (mem y hy) hx hyb
  rw [← this]; exact hy
 ·
  obtain ⟨hem, hns⟩ := mem_left he
  have hem' : e ∈ es := by simpa using hem
  have iter1 : w1.heap[rI]? = some (.mapIter (some mr) ck seen ck) := by rcases hw1 with rfl | rfl <;> exact iter
  have m1 : Mod w w1 zp := by
   rcases hw1 with rfl | rfl
   ·exact .refl _ _
   ·exact Mod.drew _ _
  have s1 : w1.heap.size = w.heap.size := by rcases hw1 with rfl | rfl <;> rfl
  obtain ⟨m2, it2, s2⟩ := Mod.setIter (m' := some mr) (a' := ck) (s' := seen.push e.born) (c' := ck) iter1
  obtain ⟨w2, hw2⟩ : ∃ w2, w2 = setBlock w1 rI (.mapIter (some mr) ck (seen.push e.born) ck) := ⟨_, rfl⟩
  rw [← hw2] at hrun m2 it2 s2
  clear hw2
  have m02 : Mod w w2 (blk rI) := (m1.mono fun _ _ _ h => h.elim).trans' m2
  have map2 : w2.heap[mr]? = some (.map es.toArray ck) := by rw [m02.block _ (by omega) (fun o h => by have : mr = rI := h; omega)]; exact map
  have hent := run_entry_at (P := P) w2 rI mr ck seen es.toArray ck e it2 map2 hem (by simpa using hnd)
  refine zd fun K hK => zaa fun τ => ?_
  simp +decide only [bK, bE, BEq.rfl, Nat.reduceAdd, f4, zvk, hrun, zue]
  refine hK _ _ (zf fun σ2 hσ => ?_)
  have g0 := hσ 0
  have g1 := hσ 1
  have g3 := hσ 3
  have g4 := hσ 4
  have g5 := hσ 5
  simp +decide only [bE, Nat.reduceBeqDiff, BEq.rfl, Nat.reduceAdd, Nat.zero_add, f0, f1, f3, f4] at g0 g1 g3 g4 g5
  clear hσ hK K
  refine zd fun K hK => W_if hlo g5 ?_
  rw [if_pos rfl]
  refine zbw (hK _ _ (zeb ?_))
  clear hK K
  refine zd fun K hK => zaa fun τ => ?_
  simp +decide only [bK, bE, BEq.rfl, Nat.reduceAdd, g4, step_entry, hent]
  refine hK _ _ (zf fun σ3 hσ => ?_)
  have p0 := hσ 0
  have p1 := hσ 1
  have p3 := hσ 3
  have p4 := hσ 4
  have p6 := hσ 6
  simp +decide only [bE, Nat.reduceBeqDiff, BEq.rfl, Nat.reduceAdd, Nat.zero_add, g0, g1, g3, g4] at p0 p1 p3 p4 p6
  clear hσ hK K
  have hcw2 : w2.cell? ⟨b3, 0, none⟩ = some v := by rw [m02.cell _ _ (by omega) (fun h => by have : b3 = rI := h; omega)]; exact hc
  have hbs := zfl (w := w2) (v := e.key) (cs := [e.key]) hL.lu B.uint32 (zcn (hkey e hem')) rfl (by decide) (by decide)
  have e9 : ∀ ρ : Env, (#[(0, T 1)] : Array (Nat × Operand)).map (fun p => (p.1, ev ρ p.2)) = #[(0, ρ 1)] := fun ρ => by simp
  refine zaa fun τ => ?_
  simp +decide only [bK, bE, Nat.reduceBeqDiff, BEq.rfl, Nat.reduceAdd, p3, p6, hL.lu.run_load1 rfl, hcw2, e9, hbs]
  obtain ⟨w7, hw7⟩ : ∃ w7, w7 = w2.alloc (.cells [e.key].toArray N.zj) := ⟨_, rfl⟩
  have m7 : Mod w2 w7 zp := by rw [hw7]; exact Mod.alloc _ _ _
  have s7 : w7.heap.size = w2.heap.size + 1 := by rw [hw7]; exact zan _ _
  have r7 : w7.rangeAt w2.heap.size 0 [e.key] := by rw [hw7]; exact zw w2 _ _ _
  rw [← hw7]
  clear hw7 hbs
  have m07 : Mod w w7 (blk rI) := m02.trans' (m7.mono fun _ _ _ h => h.elim)
  have ho7 : Own w7 lo 1 v picked.length (picked.map MapEntry.key) := ho.stay m07 fun k o hk e => hk (by have e : k = rI := e; rw [e]; exact nbI)
  have ndE : ((picked ++ [e]).map MapEntry.born).Nodup := by
   rw [List.map_append, List.nodup_append]
   refine ⟨nd, by simp, fun a ha b hb => ?_⟩
   simp at hb
   subst hb
   intro hab
   subst hab
   rw [← hseen] at ha
   have : seen.contains e.born = true := by simpa using ha
   rw [this] at hns; cases hns
  have hple : picked.length < es.length := by
   have := nodup_le ((picked ++ [e]).map MapEntry.born) (es.map MapEntry.born) ndE fun x hx => by
    obtain ⟨y, hy, rfl⟩ := List.mem_map.1 hx
    refine List.mem_map.2 ⟨y, ?_, rfl⟩
    rcases List.mem_append.1 hy with hy | hy
    ·exact mem y hy
    ·simp at hy; subst hy; exact hem'
   simp at this
   omega
  obtain ⟨v', w8, happ, ho8, m8, hone', hnb⟩ := zfv (P := P) (ty := N.zbg) (m := 1) (cb := 1) hL.lu B.uint32 ho7 r7 rfl (fun c hc => by simp at hc; subst hc; exact hkey e hem') (by omega) rfl (fun c hc => by
   obtain ⟨x, hx, rfl⟩ := List.mem_map.1 hc; exact hkey x (mem x hx)) (by omega) (by decide) (by decide)
  have s8 := m8.size
  have t8 : w8.there b3 0 1 := m8.there (by omega) (m07.there (by omega) ht)
  have hsto := hL.lu.run_store1 (w := w8) (b := b3) (o := 0) (v := v') hone' t8
  simp +decide only [bK, happ, hsto]
  clear happ
  obtain ⟨w9, hw9⟩ : ∃ w9, w9 = w8.setCell ⟨b3, 0, none⟩ v' := ⟨_, rfl⟩
  have m9 : Mod w8 w9 (blk b3) := by rw [hw9]; exact Mod.setCell fun _ => rfl
  have s9 : w9.heap.size = w8.heap.size := by rw [hw9]; simp [World.setCell]
  have c8 : w8.cell? ⟨b3, 0, none⟩ = some v := by
   rw [m8.cell _ _ (by omega) (fun h => h nb3), m7.cell _ _ (by omega) (fun h => h)]; exact hcw2
  have c9 : w9.cell? ⟨b3, 0, none⟩ = some v' := by rw [hw9]; exact World.cell?_setCell_same _ _ _ c8
  rw [← hw9]
  clear hw9 hsto
  have hb3' : zao v' b3 := hnb b3 (by omega) nb3
  have hI' : zao v' rI := hnb rI (by omega) nbI
  have nbm : zao v mr := Classical.byContradiction fun h => by have := (ho.blk h).1; omega
  have m09 : Mod w w9 (fun k _ => k = rI ∨ ¬ zao v k ∨ k = b3) := ((m07.mono fun _ _ _ h => .inl h).trans' (m8.mono fun _ _ _ h => .inr (.inl h))).trans' (m9.mono fun _ _ _ h => .inr (.inr h))
  refine zf (K := fun σ' w' => inB 1 Q .normal σ' w') fun σ9 hσ => hstep _ _ e hple ?_
  have q0 := hσ 0
  have q1 := hσ 1
  have q3 := hσ 3
  have q4 := hσ 4
  simp +decide only [bE, Nat.reduceBeqDiff, Nat.reduceAdd, Nat.zero_add, p0, p1, p3, p4] at q0 q1 q3 q4
  refine ⟨q0, q1, q3, q4, mod.trans m09 fun k o hk h => ?_, ?_, ⟨seen.push e.born, ?_, by simp [hseen]⟩, fun x hx => ?_, ?_, ⟨v', c9, m9.there (by omega) t8, ?_, hb3', hI'⟩, by omega, by omega, l3, l4, l5, l6, by omega, l8⟩
  ·rcases h with h | h | h | h
   ·exact h
   ·omega
   ·have := (ho.blk h).1; omega
   ·omega
  ·rw [m09.block mr (by omega) (fun o h => by
    rcases h with h | h | h
    ·omega
    ·exact h nbm
    ·omega)]
   exact map
  ·rw [m9.block rI (by omega) (fun o h => by have : rI = b3 := h; omega), m8.block rI (by omega) (fun o h => h nbI), m7.block rI (by omega) (fun o h => h)]; exact it2
  ·rcases List.mem_append.1 hx with hx | hx
   ·exact mem x hx
   ·simp at hx; subst hx; exact hem'
  ·exact ndE
  ·have := ho8.stay m9 (fun k o h e => h (by have e : k = b3 := e; rw [e]; exact hb3'))
   simpa using this
end
end Go.Kf
