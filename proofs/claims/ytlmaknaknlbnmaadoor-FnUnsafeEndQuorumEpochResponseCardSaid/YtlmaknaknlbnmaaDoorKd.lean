/- A part of the calculus by which the claim's proof goes: over any program and any numbering of its functions; no condition beyond those that each theorem names. -/
import Derived.Deep.AppendSrc
import Derived.Great.BuildSlice
import Derived.Laws.IdiomStrings
import Derived.Laws.MakeOwn
import Derived.Maps.RangeRun
import Derived.Shelf.GgSortFunc.Whole
import Derived.Shelf.GgSortFunc.Tiny
import Derived.Sort.LotA
import Derived.Test.YtlmaknaknlbnmaaDoorKc
set_option linter.unusedSimpArgs false
set_option linter.unusedVariables false
namespace Go.Kf
open Go Go.RowKit
section
variable (P : Program) (N : Nums)
mutual
def Ty.dfs : Ty → Prop
 | .arr _ _ e => e.dfs
 | .row T _ f fs => FOk P f 1 (seqs (fs.dfl N T 0)) [] ∧ fs.dfs
 | _ => True
def El.dfs : El → Prop
 | .row T _ f fs => FOk P f 1 (seqs (fs.dfl N T 0)) [] ∧ fs.dfs
 | _ => True
def Fds.dfs : Fds → Prop
 | .cons _ t r => t.dfs ∧ r.dfs
 | _ => True
end
end
theorem nbeq {n : Nat} (h : (!Nat.beq n 0) = true) : n ≠ 0 := fun e => by rw [e] at h; cases h
section
variable {P : Program} {N : Nums} {fx : Bool}
theorem prB_ok {k : PK} (h : prB P N k = true) : k.f N ≠ 0 ∧ k.nt N ∧ ∀ t, k = .en t → TI P t (.int .i8) 1 1 (.int .i8 0) := by
 unfold prB at h
 simp only [Bool.and_eq_true, Bool.or_eq_true] at h
 obtain ⟨⟨h1, h2⟩, hen, h8⟩ := h
 refine ⟨nbeq h1, ⟨fun e => ?_, fun e => ?_⟩, fun t e => by subst e; exact zfw hen⟩
 ·rcases h2 with h2 | h2
  ·subst e; simp at h2
  ·exact nbeq h2
 ·rcases h8 with h8 | h8
  ·rw [e] at h8; cases h8
  ·exact nbeq h8
theorem zqi {k : Txt} (h : txB N fx k = true) : (∀ f ∈ k.fns N fx, f ≠ 0) ∧ (k = .nstr → N.zbj ≠ 0) := by
 unfold txB at h
 rw [Bool.and_eq_true, Bool.or_eq_true, List.all_eq_true] at h
 refine ⟨fun f hf => nbeq (h.1 f hf), fun e => ?_⟩
 rcases h.2 with h2 | h2
 ·subst e; simp at h2
 ·exact nbeq h2
theorem dB_ok {k : PK} {d : Option Value} (h : dB k d = true) : (d.getD k.zero).cells.toList.length = k.sz ∧ ∀ x, d = some x → k.isSg = true ∧ x.oneCell' = true := by
 cases d with
 | none => exact ⟨zgc k, fun x hx => by cases hx⟩
 | some d =>
  simp only [dB, Bool.and_eq_true] at h
  refine ⟨?_, fun x hx => by cases hx; exact h⟩
  simp only [Option.getD_some]
  rw [zbt h.2, pk_sz h.1]; rfl
theorem pk_bytes (B : Base P N) {k : PK} (hu : k.nt N) (he : ∀ t, k = .en t → TI P t (.int .i8) 1 1 (.int .i8 0)) : ∃ d by', TI P (k.t N) d k.sz by' k.zero ∧ by' ≤ 131072 := by
 cases k with
 | bool => exact ⟨_, _, B.bool, by decide⟩
 | i8 => exact ⟨_, _, B.int8 (hu.2 rfl), by decide⟩
 | i16 => exact ⟨_, _, B.int16, by decide⟩
 | u16 => exact ⟨_, _, B.uint16, by decide⟩
 | i32 => exact ⟨_, _, B.int32, by decide⟩
 | i64 => exact ⟨_, _, B.int64, by decide⟩
 | uuid => exact ⟨_, _, B.uuid (hu.1 rfl), by decide⟩
 | en t => exact ⟨_, _, he t rfl, by decide⟩
theorem tx_bytes (B : Base P N) {k : Txt} (hp : k = .nstr → N.zbj ≠ 0) : ∃ d by', TI P (k.t N) d 1 by' k.zero ∧ by' ≤ 131072 := by
 cases k with
 | str => exact ⟨_, _, B.string, by decide⟩
 | nstr => exact ⟨_, _, B.pstring (hp rfl), by decide⟩
 | byt => exact ⟨_, _, B.Lu8, by decide⟩
 | nbyt => exact ⟨_, _, B.Lu8, by decide⟩
def ElT (P : Program) (N : Nums) (e : El) : Prop := (∃ d by' z, TI P (e.ty N) d e.sz by' z ∧ z.cells.toList = e.zero ∧ by' ≤ 131072) ∧ 0 < e.sz ∧ e.zero.length = e.sz
mutual
theorem Ty.noD_zero : ∀ (t : Ty), t.noD = true → t.zero = t.ini
 | .pr k none, _ => rfl
 | .pr k (some d), h => by simp [Ty.noD] at h
 | .txt _, _ => rfl
 | .arr .., _ => rfl
 | .row _ _ _ fs, h => Fds.noD_zero fs h
 | .tv _, _ => rfl
theorem Fds.noD_zero : ∀ (fs : Fds), fs.noD = true → fs.zero = fs.ini
 | .nil, _ => rfl
 | .tags _, _ => rfl
 | .cons _ t r, h => by
  simp only [Fds.noD, Bool.and_eq_true] at h
  simp only [Fds.zero, Fds.ini]
  rw [Ty.noD_zero t h.1, Fds.noD_zero r h.2]
end
theorem ksOk_of {fs : Fds} (h : fs.kB P N fx = true) : ∀ j, fs.kt = some j → KsOk P N fx fs j := by
 intro j hj
 unfold Fds.kB at h
 rw [hj] at h
 simp only [Bool.and_eq_true] at h
 obtain ⟨⟨h1, h2, h3, h4, h5, h6⟩, h7⟩ := h
 cases ht : fs.at' j with
 | none => rw [ht] at h7; cases h7
 | some t =>
  rw [ht] at h7
  have h7 : t.kB P N fx = true := h7
  refine ⟨h1, nbeq h2, nbeq h3, nbeq h4, nbeq h5, nbeq h6, ⟨t, ht, ?_⟩, fun st nul e he => ?_⟩
  ·cases t with
   | pr k d =>
    simp only [Ty.kB, Bool.and_eq_true, Bool.not_eq_true'] at h7
    obtain ⟨a, b, _⟩ := prB_ok h7.1
    exact ⟨a, b, h7.2⟩
   | txt k => exact zqi h7
   | arr st nul e => cases h7
   | row T pT d fs => cases h7
   | tv m => cases h7
  ·rw [ht] at he
   cases he
   cases h7
mutual
theorem Ty.ok_of (B : Base P N) (F : Fns P N) : ∀ (t : Ty), t.okB P N fx = true → t.dfs P N → TyOk P N fx t ∧ t.dok
 | .pr k d, h, _ => by
  simp only [Ty.okB, Bool.and_eq_true] at h
  obtain ⟨h1, h2, h3⟩ := prB_ok h.1
  exact ⟨tyOk_pr B F h1 h2 h3 (dB_ok h.2).1, (dB_ok h.2).1⟩
 | .txt k, h, _ => by
  simp only [Ty.okB] at h
  obtain ⟨h1, h2⟩ := zqi h
  exact ⟨tyOk_txt B F h1 h2, trivial⟩
 | .arr st nul e, h, hd => by
  simp only [Ty.okB, Bool.and_eq_true, lenB, Bool.or_eq_true] at h
  obtain ⟨h1, ⟨⟨⟨⟨l1, l2⟩, l3⟩, l4⟩, h3⟩⟩ := h
  obtain ⟨he, ht, hs, hz⟩ := El.ok_of B F e h3 hd
  refine ⟨tyOk_arr B F nul ⟨zfw h1, ht, hs, hz, nbeq l1, nbeq l2, nbeq l3⟩ (fun e => ?_) he, trivial⟩
  rcases l4 with l4 | l4
  ·rw [e] at l4; cases l4
  ·exact nbeq l4
 | .tv k, h, _ => by
  simp only [Ty.okB, Bool.and_eq_true] at h
  obtain ⟨h1, h2⟩ := zqi h.1
  obtain ⟨h3, h4⟩ := zqi h.2
  exact ⟨tyOk_tv B F h1 h3 (h4 rfl), trivial⟩
 | .row T pT f fs, h, hd => by
  simp only [Ty.okB, Bool.and_eq_true] at h
  obtain ⟨h1, h2, h3⟩ := h
  obtain ⟨g1, g2, g3, g4⟩ := Fds.ok_of B F fs h3 hd.2
  exact ⟨tyOk_row (dfOk B hd.1 g4 g2) g1 g2 (Fds.noD_zero fs h2), g3⟩
theorem El.ok_of (B : Base P N) (F : Fns P N) : ∀ (e : El), e.okB P N fx = true → e.dfs P N → ElOk P N fx e ∧ ElT P N e
 | .pr k, h, _ => by
  simp only [El.okB, Bool.and_eq_true, Bool.not_eq_true'] at h
  obtain ⟨h1, h2, h3⟩ := prB_ok h.1
  obtain ⟨d, by', ht, hb⟩ := pk_bytes B h2 h3
  exact ⟨elOk_pr B F h1 h2 h.2 (zgc k), ⟨d, by', _, ht, rfl, hb⟩, by cases k <;> exact Nat.succ_pos _, zgc k⟩
 | .txt k, h, _ => by
  simp only [El.okB] at h
  obtain ⟨h1, h2⟩ := zqi h
  obtain ⟨d, by', ht, hb⟩ := tx_bytes B h2
  exact ⟨elOk_txt B F h1 h2, ⟨d, by', _, ht, by cases k <;> rfl, hb⟩, Nat.one_pos, rfl⟩
 | .row T pT f fs, h, hd => by
  simp only [El.okB, Bool.and_eq_true] at h
  obtain ⟨h1, h2, h3, h5, h4⟩ := h
  obtain ⟨fs', ht⟩ := tsB_ok h1
  obtain ⟨g1, g2, g3, g4⟩ := Fds.ok_of B F fs h4 hd.2
  have hdf := dfOk B hd.1 g4 g2
  exact ⟨elOk_row ht hdf (fdsOkR B F g1 (ksOk_of h5)) g2, ⟨_, _, _, ht, by simp [Value.cells, El.zero], by simpa using h2⟩, by simpa [El.sz] using h3, Fds.zero_length fs⟩
theorem Fds.ok_of (B : Base P N) (F : Fns P N) : ∀ (fs : Fds) {Tt : TypeId} {idx off : Nat}, fs.okB P N fx Tt idx off = true → fs.dfs P N → zqd P N fx fs ∧ fs.hf P Tt idx off ∧ fs.dok ∧ fs.plain N
 | .nil, _, _, _, _, _ => ⟨fdsOk_nil, trivial, trivial, trivial⟩
 | .tags none, Tt, idx, off, h, _ => by
  simp only [Fds.okB, Option.isSome_none, Bool.or_false, Bool.false_or, Bool.and_eq_true] at h
  obtain ⟨h1, h2, h3, h4⟩ := h
  subst h1
  exact ⟨fdsOk_tags B (nbeq h3) (tagsOk B F (nbeq h4) (nbeq h3)), znk h2, trivial, trivial⟩
 | .tags (some j), Tt, idx, off, h, _ => by
  simp only [Fds.okB, Bool.and_eq_true] at h
  exact ⟨zsx j, znk h.2.1, trivial, trivial⟩
 | .cons g t r, Tt, idx, off, h, hd => by
  simp only [Fds.okB, Bool.and_eq_true] at h
  obtain ⟨h1, h2, h3⟩ := h
  obtain ⟨g1, g2⟩ := Ty.ok_of B F t h2 hd.1
  obtain ⟨k1, k2, k3, k4⟩ := Fds.ok_of B F r h3 hd.2
  refine ⟨fdsOk_cons g1 g2 k1, ⟨znk h1, k2⟩, ⟨g2, k3⟩, ?_⟩
  cases t with
  | pr k d =>
   cases d with
   | none => exact k4
   | some d =>
    simp only [Ty.okB, Bool.and_eq_true] at h2
    obtain ⟨a, b⟩ := (dB_ok h2.2).2 d rfl
    exact ⟨⟨a, (prB_ok h2.1).2.1⟩, b, k4⟩
  | txt k => exact k4
  | arr st nul e => exact k4
  | tv k => exact k4
  | row T' pT f fs =>
   simp only [Ty.okB, Bool.and_eq_true] at h2
   exact ⟨Fds.noD_zero fs h2.2.1, k4⟩
end
theorem Fds.at_dfs : ∀ {fs : Fds} {j : Nat} {t : Ty}, fs.at' j = some t → fs.dfs P N → t.dfs P N
 | .nil, _, _, h, _ => by cases h
 | .tags _, _, _, h, _ => by cases h
 | .cons g ty r, 0, t, h, hd => by
  have h : some ty = some t := h
  cases h; exact hd.1
 | .cons g ty r, j + 1, t, h, hd => by
  have h : r.at' j = some t := h
  exact Fds.at_dfs h hd.2
theorem ksOk_ofM (B : Base P N) (F : Fns P N) {fs : Fds} (h : fs.kM P N fx = true) (hd : fs.dfs P N) : ∀ j, fs.kt = some j → KsOk P N fx fs j := by
 unfold Fds.kM at h
 rw [Bool.or_eq_true] at h
 rcases h with h | h
 ·exact ksOk_of h
 ·intro j hj
  rw [hj] at h
  simp only [Bool.and_eq_true] at h
  obtain ⟨⟨h1, h2, h3, h4, h5, h6⟩, h7⟩ := h
  unfold Fds.kA at h7
  split at h7
  ·rename_i st T pT f fs2 ht
   simp only [Bool.and_eq_true] at h7
   obtain ⟨g0, g1, g2, g3, g4, g5⟩ := h7
   simp only [lenB, Bool.and_eq_true, Bool.or_eq_true] at g2
   obtain ⟨⟨⟨l1, l2⟩, l3⟩, l4⟩ := g2
   have hde := Fds.at_dfs ht hd
   obtain ⟨e1, e2, e3, e4⟩ := El.ok_of B F (.row T pT f fs2) g3 hde
   simp only [El.okB, Bool.and_eq_true] at g3
   obtain ⟨fs', htT⟩ := tsB_ok g3.1
   refine ⟨h1, nbeq h2, nbeq h3, nbeq h4, nbeq h5, nbeq h6, ⟨_, ht, rfl, ⟨zfw g1, e2, e3, e4, nbeq l1, nbeq l2, nbeq l3⟩, fun x hx => ?_, ⟨_, _, _, htT, by simp [Value.cells, El.zero], by simpa using g4⟩, fun e => ?_, e1⟩, fun st nul e he => ?_⟩
   ·rw [List.all_eq_true] at g5
    exact g5 x hx
   ·rcases l4 with l4 | l4
    ·rw [e] at l4; cases l4
    ·exact nbeq l4
   ·split at g0
    ·rename_i hg; exact hg
    ·cases g0
  ·cases h7
theorem msgT_of (B : Base P N) (F : Fns P N) {m : Msg} (h : m.fs.okB P N fx m.tT 1 1 = true) (hkB : m.fs.kM P N fx = true) (h0 : hfB P m.tT 0 0 = true) (hc : (!Nat.beq N.zw 0) = true) (hd : m.fs.dfs P N) (hD : FOk P m.dflt 1 (seqs (m.fs.dfl N m.tT 1)) []) : MsgT P N m fx := by
 obtain ⟨k1, k2, k3, k4⟩ := Fds.ok_of B F m.fs h hd
 exact ⟨k2, znk h0, k4, hD, fdsOkR B F k1 (ksOk_ofM B F hkB hd), nbeq hc⟩
end
section
variable {P : Program} {N : Nums} {loc : List Nat} {N' : Nat} {Q : Exit → Env → World → Prop} {σ : Env} {w : World}
def cRange (N : Nums) (i l c k : Nat) (body : C) : C :=
 .block k (.loop (.seq (.ops [⟨some (c + 100), .binOp .lss N.zt (V i) (V l) N.zt, 0, none, []⟩]) (.seq (.cond c .skip (.exit k)) (.seq (.block (k + 1) body)
  (.ops [⟨some 0, .binOp .add N.zt (V i) (.const (.int .i64 1)) N.zt, 0, none, []⟩, ⟨some (i + 100), .move (T 0), 0, none, []⟩])))))
theorem zhp (hlo : zec loc N') {i l c k L : Nat} {body : C} (hL : L < 4611686018427387904) (I : Nat → Env → World → Prop)
  (hI : ∀ j σ w, I j σ w → σ i = .int .i64 j ∧ σ l = .int .i64 L ∧ j ≤ L) (hc : ∀ j σ w b, I j σ w → I j (upd σ c (.bool b)) w)
  (h0 : I 0 σ w) (hend : ∀ σ w, I L σ w → Q .normal σ w)
  (hb : ∀ j σ w, j < L → I j σ w → W P loc N' body (fun e σ' w' => match e with
   | .normal => σ' i = .int .i64 j ∧ I (j + 1) (upd σ' i (.int .i64 ((j + 1 : Nat) : Int))) w'
   | .ret => Q .ret σ' w'
   | _ => False) σ w) : W P loc N' (cRange N i l c k body) Q σ w := by
 unfold cRange
 refine zgk (zpa (fun m σ w => ∃ j, m = L - j ∧ I j σ w) (n := L) ⟨0, by omega, h0⟩ ?_)
 rintro m σ1 w1 ⟨j, rfl, hj⟩
 obtain ⟨f1, f2, f3⟩ := hI j σ1 w1 hj
 refine zc fun K hK => zad fun τ => ?_
 simp +decide (disch := omega) only [bK, bE, f1, f2, zf, locs_envOf]
 refine hK _ _ ?_
 clear hK K
 refine zc fun K hK => W_if hlo (upd_same _ _ _) ?_
 by_cases hlt : (j : Int) < L
 ·rw [decide_eq_true hlt, if_pos rfl]
  refine zca (hK _ _ ?_)
  clear hK K
  have hj2 := hc j σ1 w1 true hj
  refine zc fun K hK => zgk (zgm (hb j _ w1 (by omega) hj2) ?_)
  rintro e σ2 w2 hq
  cases e with
  | normal =>
   obtain ⟨g1, g2⟩ := hq
   refine hK _ _ (zad fun τ => ?_)
   have hw : IntKind.i64.wrap ((j : Int) + 1) = (((j + 1 : Nat) : Int)) := by
    rw [show ((j : Int) + 1) = ((j + 1 : Nat) : Int) by omega]
    exact zcw (by omega) (by omega)
   simp +decide (disch := omega) only [bK, bE, BEq.rfl, g1, hw, zf, zac, locs_envOf]
   exact ⟨L - (j + 1), by omega, j + 1, rfl, g2⟩
  | ret => exact hq
  | _ => exact hq.elim
 ·rw [decide_eq_false hlt, if_neg (by simp)]
  refine zpb ?_
  simp only [zee, inB, if_true]
  have hjL : j = L := by omega
  subst hjL
  exact hend _ _ (hc _ _ _ _ hj)
theorem tagV.get (B : Base P N) {G : Nat → Prop} {v : Value} {l : List UInt8} (h : tagV w G v l) {j : Nat} {x : UInt8} (hx : l[j]? = some x) :
  ∃ b o, (∀ w', (Instr.indexAt N.zb v (.int .i64 j)).run P w' = .ok (.pointer (some ⟨b, o, none⟩)) w') ∧ w.cell? ⟨b, o, none⟩ = some (.int .u8 x.toNat) := by
 have hj := (List.getElem?_eq_some_iff.1 hx).1
 rcases h with ⟨rfl, _⟩ | ⟨b, o, c, rfl, h2, h3, h4⟩
 ·simp at hj
 ·refine ⟨b, o + j * 1, fun w' => zx B.Lu8 B.uint8 hj, ?_⟩
  have := h4 j (zbo x) (by rw [List.getElem?_map, hx]; rfl)
  simpa [zbo] using this
theorem tagV.len (B : Base P N) {G : Nat → Prop} {v : Value} {l : List UInt8} {ty : TypeId} {w' : World} (h : tagV w G v l) : (Builtin.len_ #[N.zb] ty #[v]).run P w' = .ok (.int .i64 l.length) w' := by
 rcases h with ⟨rfl, h⟩ | ⟨b, o, c, rfl, _⟩
 ·obtain ⟨ad, c, rfl⟩ := h
  rw [B.Lu8.run_len]; rfl
 ·exact B.Lu8.run_len
end
theorem zgu {P : Program} {w : World} {K : Env → Prop} : ∀ (r : List ROp) (ρ : Env), (∀ o ∈ r, zkc o.op = true) → zfl P w K r ρ → zcs P (· = w) K (r.map fun o => (o, true)) ρ
 | [], _, _, h => h
 | o :: r, ρ, hp, h => by
  obtain ⟨v, w', hor, hw', hs⟩ := zol (hp o (by simp)) h
  refine ⟨v, fun w1 e => ?_, zgu r _ (fun o ho => hp o (by simp [ho])) hs⟩
  subst e
  rcases hor with ⟨ha, hb⟩ | ⟨ha, hb, _⟩
  ·left; refine ⟨ha, ?_⟩; rw [hb, hw']
  ·right; exact ⟨ha, hb⟩
def stillB (l : List ROp) : Bool := planM l (l.map fun _ => true) && l.all fun o => zkc o.op
theorem zri (l : List ROp) : zcu l (l.map fun _ => true) = [] := by
 unfold zcu
 have : (l.zip (l.map fun _ => true)).filter (fun p => !p.2) = [] := by
  rw [List.filter_eq_nil_iff]
  intro p hp
  have := (List.of_mem_zip hp).2
  rw [List.mem_map] at this
  obtain ⟨_, _, e⟩ := this
  simp [← e]
 rw [this]; rfl
theorem zip_true (l : List ROp) : l.zip (l.map fun _ => true) = l.map fun o => (o, true) := by
 induction l with
 | nil => rfl
 | cons o l ih => simp only [List.map_cons, List.zip_cons_cons, ih]
theorem zte {P : Program} {loc : List Nat} {N : Nat} {Q : Exit → Env → World → Prop} {σ : Env} {w : World} {l : List ROp} (hm : P.follows .mixedOrders = true) (hB : stillB l = true)
  (h : ∀ τ, zfl P w.drew (fun ρ => Q .normal (locs ρ) w.drew) l (zcp σ τ)) : W P loc N (.draw l) Q σ w := by
 unfold stillB at hB
 rw [Bool.and_eq_true, List.all_eq_true] at hB
 refine zfv hm (l.map fun _ => true) hB.1 (· = w.drew) rfl fun τ => ?_
 rw [zip_true, zri]
 exact zgu l _ hB.2 (h τ)
section
variable {P : Program} {N : Nums}
theorem zaf {w w' : World} (h : Mod w w' zu) {b o : Nat} {cs : List Value} (hr : w.rangeAt b o cs) : w'.rangeAt b o cs := fun j v hj => by
 have h1 := hr j v hj
 rw [h.cell b (o + j) (zag (by rw [h1]; rfl)) (fun h => h)]
 exact h1
theorem OctG.stay {w w' : World} (h : Mod w w' zu) {G : Nat → Prop} {v : Value} {o : Option (List UInt8)} (hb : OctG w G v o) : OctG w' G v o := by
 cases o with
 | none => exact hb
 | some l =>
  obtain ⟨b, o, c, h1, h2, h3, h4⟩ := hb
  exact ⟨b, o, c, h1, h2, h3, zaf h h4⟩
theorem tagV.stay {w w' : World} (h : Mod w w' zu) {G : Nat → Prop} {v : Value} {l : List UInt8} (hb : tagV w G v l) : tagV w' G v l := hb.imp (fun x => ⟨x.1, x.2⟩) fun x => x.stay h
theorem zrn (B : Base P N) (F : Fns P N) (hN : N.zdh ≠ 0) {w : World} {G G' : Nat → Prop} {v1 v2 : Value} {l : List UInt8} (h1 : tagV w G v1 l) (h2 : tagV w G' v2 l) (hl : l.length < 4611686018427387904) :
  Call P N.zdh #[v1, v2] w fun v w' => v = .bool true ∧ Mod w w' zu := by
 refine (F.spec_Same hN).call rfl fun loc N' hlo => ?_
 unfold znr
 refine zc fun K hK => zap (hK _ _ ?_)
 clear hK K
 obtain ⟨σ, hσ⟩ : ∃ σ, σ = upd (zcv #[v1, v2]) 2 (.bool false) := ⟨_, rfl⟩
 have f0 : σ 0 = v1 := by rw [hσ, ze (by decide)]; rfl
 have f1 : σ 1 = v2 := by rw [hσ, ze (by decide)]; rfl
 rw [← hσ]
 clear hσ
 refine zc fun K hK => zc fun K1 hK1 => zad fun τ => ?_
 simp +decide (disch := omega) only [bK, bE, Nat.reduceBeqDiff, BEq.rfl, Nat.reduceAdd, Nat.zero_add, f0, f1, h1.len B, h2.len B, zf, zac, locs_envOf]
 refine hK1 _ _ (W_if hlo (upd_same _ _ _) ?_)
 clear hK1 K1
 rw [show ((l.length : Int) != (l.length : Int)) = false from by simp, if_neg (by simp)]
 refine zca (hK _ _ ?_)
 clear hK K
 refine zc fun K hK => zc fun K1 hK1 => zad fun τ => ?_
 simp +decide (disch := omega) only [bK, bE, BEq.rfl, Nat.reduceAdd, Nat.zero_add, ze, f0, h1.len B]
 refine hK1 _ _ (zg fun σ2 hσ => ?_)
 have g0 := hσ 0
 have g1 := hσ 1
 have g4 := hσ 4
 have g5 := hσ 5
 simp +decide only [bE, Nat.reduceBeqDiff, BEq.rfl, Nat.reduceAdd, Nat.zero_add, ze, f0, f1] at g0 g1 g4 g5
 clear hσ hK1 K1
 refine zhp (i := 5) (l := 4) (c := 6) (k := 0) hlo hl (fun j σ w' => σ 0 = v1 ∧ σ 1 = v2 ∧ σ 4 = .int .i64 l.length ∧ σ 5 = .int .i64 j ∧ j ≤ l.length ∧ Mod w w' zu) (fun j σ w h => ⟨h.2.2.2.1, h.2.2.1, h.2.2.2.2.1⟩) (fun j σ w b h => ?_) ⟨g0, g1, g4, g5, Nat.zero_le _, .refl _ _⟩ (fun σ' w' h => hK _ _ ?_) (fun j σ' w' hj h => ?_)
 ·obtain ⟨a, b, c, d, e, f⟩ := h
  exact ⟨by rw [ze (by decide)]; exact a, by rw [ze (by decide)]; exact b, by rw [ze (by decide)]; exact c, by rw [ze (by decide)]; exact d, e, f⟩
 ·refine zc fun K2 hK2 => zap (hK2 _ _ (zcf ⟨.inr rfl, _, rfl, upd_same _ _ _, h.2.2.2.2.2⟩))
 ·obtain ⟨a, b, c, d, e, f⟩ := h
  have hx : l[j]? = some l[j] := List.getElem?_eq_getElem hj
  have md : Mod w w'.drew zu := f.trans' (Mod.drew _ _)
  obtain ⟨b1, o1, hi1, hc1⟩ := (h1.stay md).get B hx
  obtain ⟨b2, o2, hi2, hc2⟩ := (h2.stay md).get B hx
  refine zc fun K2 hK2 => zad fun τ => ?_
  simp +decide (disch := omega) only [bK, bE, BEq.rfl, Nat.reduceAdd, d]
  refine hK2 _ _ (zg fun σ3 hσ => ?_)
  have p0 := hσ 0
  have p1 := hσ 1
  have p4 := hσ 4
  have p5 := hσ 5
  have p7 := hσ 7
  simp +decide only [bE, Nat.reduceBeqDiff, BEq.rfl, Nat.reduceAdd, Nat.zero_add, a, b, c, d] at p0 p1 p4 p5 p7
  clear hσ hK2 K2
  refine zc fun K2 hK2 => zte B.mixed (by kernel_rfl) fun τ => ?_
  simp +decide (disch := omega) only [bK, bE, zfl, Nat.reduceBeqDiff, BEq.rfl, Nat.reduceAdd, Nat.zero_add, true_and, p0, p1, p7, hi1, hi2, B.uint8.run_load1 rfl, hc1, hc2]
  refine hK2 _ _ (zg fun σ4 hσ => ?_)
  have q0 := hσ 0
  have q1 := hσ 1
  have q4 := hσ 4
  have q5 := hσ 5
  have q8 := hσ 8
  simp +decide only [bE, Nat.reduceBeqDiff, BEq.rfl, Nat.reduceAdd, Nat.zero_add, p0, p1, p4, p5] at q0 q1 q4 q5 q8
  clear hσ hK2 K2
  refine W_if hlo q8 ?_
  rw [show ((l[j].toNat : Int) != (l[j].toNat : Int)) = false from by simp, if_neg (by simp)]
  refine zca ⟨q5, ?_⟩
  exact ⟨by rw [ze (by decide)]; exact q0, by rw [ze (by decide)]; exact q1, by rw [ze (by decide)]; exact q4, upd_same _ _ _, by omega, md⟩
end
theorem znz {P : Program} {l : List ROp} {rd : Nat → Bool} {Cw : World → Prop} {K : Env → World → Prop} : ∀ (C : List Nat) (ρ : Env) (w : World), seqB l C = true → (∀ j ∈ C, zkr l rd j = true) →
  runR P (C.map fun j => l.getD j default) ρ w K → anyC P Cw l rd K C.length C ρ w
 | [], _, _, _, _, h => h
 | i :: C, ρ, w, hs, hlast, h => by
  simp only [seqB, Bool.and_eq_true, List.all_eq_true] at hs
  intro j hj
  have hji : j = i := by
   rcases List.mem_cons.1 hj.1 with e | he
   ·exact e
   ·have h1 := hs.1 j he
    rw [List.any_eq_true] at h1
    obtain ⟨e, he1, he2⟩ := h1
    exact absurd (by simpa using he2) (hj.2 e he1)
  subst hji
  rw [List.erase_cons_head]
  exact zfc (fun ρ w hk => ⟨.inl (hlast j (by simp)), znz C ρ w hs.2 (fun k hk => hlast k (by simp [hk])) hk⟩) h
def rdK (l : List ROp) (k : Nat) : List Bool := (l.take k).map (fun _ => true) ++ (l.drop k).map fun _ => false
def drawKB (l : List ROp) (k : Nat) : Bool :=
 Nat.ble k l.length && (zkp l (rdOf (rdK l k)) && (seqB l (zqu l (rdK l k)) && ((zqu l (rdK l k)).all (fun j => zkr l (rdOf (rdK l k)) j) && (l.take k).all fun o => zkc o.op)))
theorem znc {P : Program} {Cw : World → Prop} {K : Env → Prop} : ∀ (r : List ROp) (ρ : Env), K ρ → zcs P Cw K (r.map fun o => (o, false)) ρ
 | [], _, h => h
 | _ :: r, ρ, h => znc r ρ h
theorem zii {P : Program} {Cw : World → Prop} {K : Env → Prop} : ∀ (a b : List (ROp × Bool)) (ρ : Env), zcs P Cw (fun ρ => zcs P Cw K b ρ) a ρ → zcs P Cw K (a ++ b) ρ
 | [], _, _, h => h
 | (o, true) :: a, b, ρ, ⟨v, hv, h⟩ => ⟨v, hv, zii a b _ h⟩
 | (o, false) :: a, b, ρ, h => zii a b ρ h
theorem W_drawK {P : Program} {loc : List Nat} {N : Nat} {Q : Exit → Env → World → Prop} {σ : Env} {w : World} {l : List ROp} (hm : P.follows .mixedOrders = true) (k : Nat) (hB : drawKB l k = true)
  (h : ∀ τ, zfl P w.drew (fun ρ => runR P (l.drop k) ρ w.drew fun ρ w => Q .normal (locs ρ) w) (l.take k) (zcp σ τ)) : W P loc N (.draw l) Q σ w := by
 unfold drawKB at hB
 simp only [Bool.and_eq_true, List.all_eq_true] at hB
 obtain ⟨hk, hp, hs, hlast, hpure⟩ := hB
 have hk : k ≤ l.length := by simpa using hk
 have hlen : (rdK l k).length = l.length := by simp [rdK]; omega
 have hzip : l.zip (rdK l k) = (l.take k).map (fun o => (o, true)) ++ (l.drop k).map fun o => (o, false) := by
  have : ∀ (a b : List ROp), (a ++ b).zip ((a.map fun _ => true) ++ b.map fun _ => false) = (a.map fun o => (o, true)) ++ b.map fun o => (o, false) := by
   intro a b
   induction a with
   | nil =>
    induction b with
    | nil => rfl
    | cons o b ih => simpa using ih
   | cons o a ih => simpa using ih
  have h2 := this (l.take k) (l.drop k)
  rw [List.take_append_drop] at h2
  exact h2
 have hrest : (zqu l (rdK l k)).map (fun j => l.getD j default) = l.drop k := by
  have hz : ∀ i p, (l.zip (rdK l k))[i]? = some p → l.getD (0 + i) default = p.1 ∧ rdOf (rdK l k) (0 + i) = p.2 := by
   intro i p hi
   rw [List.getElem?_zip_eq_some] at hi
   simp [List.getD, rdOf, hi.1, hi.2]
  have hcs := zia (l := l) (rd := rdOf (rdK l k)) (l.zip (rdK l k)) 0 hz
  rw [show (l.zip (rdK l k)).length = l.length by simp [hlen], ← List.range_eq_range'] at hcs
  have e : ((l.zip (rdK l k)).filter fun p => !p.2).map Prod.fst = l.drop k := by
   rw [hzip, List.filter_append]
   have e1 : ((l.take k).map fun o => (o, true)).filter (fun p : ROp × Bool => !p.2) = [] := by
    rw [List.filter_eq_nil_iff]; intro p hp; obtain ⟨o, _, rfl⟩ := List.mem_map.1 hp; simp
   have e2 : ((l.drop k).map fun o => (o, false)).filter (fun p : ROp × Bool => !p.2) = (l.drop k).map fun o => (o, false) := by
    rw [List.filter_eq_self]; intro p hp; obtain ⟨o, _, rfl⟩ := List.mem_map.1 hp; rfl
   rw [e1, e2, List.nil_append, List.map_map]
   simp [Function.comp_def]
  exact hcs.trans e
 refine zgz hm (rdK l k) hlen hp (· = w.drew) rfl fun τ => ?_
 rw [hzip]
 refine zii _ _ _ ?_
 have mono : ∀ (r : List ROp) (ρ : Env) (K K' : Env → Prop), (∀ ρ, K ρ → K' ρ) → zfl P w.drew K r ρ → zfl P w.drew K' r ρ := by
  intro r
  induction r with
  | nil => intro ρ K K' hk h; exact hk _ h
  | cons o r ih => intro ρ K K' hk h; exact zfc (fun ρ w' hh => ⟨hh.1, ih ρ K K' hk hh.2⟩) h
 refine zgu _ _ hpure (mono _ _ _ _ (fun ρ hr => ?_) (h τ))
 refine znc _ _ ?_
 refine znz _ _ _ hs hlast ?_
 rw [hrest]; exact hr
inductive Tr where
 | mk (n : Int) (s : List UInt8) (nl : Bool) (l : List Tr) (u : List (Nat × List UInt8))
def UsG (w : World) (G : Nat → Prop) : List (Nat × List UInt8) → List Value → Prop
 | [], cs => cs = []
 | (k, l) :: r, cs => ∃ v rest, cs = .int .u32 k :: v :: rest ∧ tagV w G v l ∧ UsG w G r rest
def RepU (w : World) (G : Nat → Prop) (v : Value) (u : List (Nat × List UInt8)) : Prop :=
 (v = .slice none 0 0 ∧ u = []) ∨ ∃ b c cs, v = .slice (some ⟨b, 0, none⟩) u.length c ∧ u.length ≤ c ∧ (u ≠ [] → G b) ∧ UsG w G u cs ∧ w.rangeAt b 0 cs
mutual
def RepT (w : World) (G : Nat → Prop) : Tr → List Value → Prop
 | .mk n s nl l u, cs => ∃ vs vl vu, cs = [.int .i64 n, vs, .bool nl, vl, vu] ∧ tagV w G vs s ∧
   ((vl = .slice none 0 0 ∧ l = []) ∨ ∃ b c css, vl = .slice (some ⟨b, 0, none⟩) l.length c ∧ l.length ≤ c ∧ (l ≠ [] → G b) ∧ zcb w G l css ∧ w.rangeAt b 0 css.flatten) ∧ RepU w G vu u
def zcb (w : World) (G : Nat → Prop) : List Tr → List (List Value) → Prop
 | [], css => css = []
 | t :: l, css => ∃ c r, css = c :: r ∧ RepT w G t c ∧ zcb w G l r
end
theorem RepT.len {w : World} {G : Nat → Prop} {t : Tr} {cs : List Value} (h : RepT w G t cs) : cs.length = 5 := by
 cases t
 simp only [RepT] at h
 obtain ⟨_, _, _, rfl, _⟩ := h
 rfl
theorem tagV.one {w : World} {G : Nat → Prop} {v : Value} {l : List UInt8} (h : tagV w G v l) : v.oneCell' = true := by
 rcases h with ⟨_, h⟩ | ⟨b, o, c, rfl, _⟩
 ·obtain ⟨_, _, rfl⟩ := h; rfl
 ·rfl
theorem RepT.one {w : World} {G : Nat → Prop} {t : Tr} {cs : List Value} (h : RepT w G t cs) : ∀ c ∈ cs, c.oneCell' = true := by
 cases t
 simp only [RepT] at h
 obtain ⟨vs, vl, vu, rfl, h1, h2, h3⟩ := h
 have e2 : vl.oneCell' = true := by
  rcases h2 with ⟨rfl, _⟩ | ⟨b, c, css, rfl, _⟩ <;> rfl
 have e3 : vu.oneCell' = true := by
  rcases h3 with ⟨rfl, _⟩ | ⟨b, c, css, rfl, _⟩ <;> rfl
 intro c hc
 simp at hc
 rcases hc with rfl | rfl | rfl | rfl | rfl
 ·rfl
 ·exact h1.one
 ·rfl
 ·exact e2
 ·exact e3
theorem UsG.stay {w w' : World} (h : Mod w w' zu) {G : Nat → Prop} : ∀ {u : List (Nat × List UInt8)} {cs : List Value}, UsG w G u cs → UsG w' G u cs
 | [], _, hu => hu
 | (k, l) :: r, _, ⟨v, rest, h1, h2, h3⟩ => ⟨v, rest, h1, h2.stay h, UsG.stay h h3⟩
theorem RepU.stay {w w' : World} (h : Mod w w' zu) {G : Nat → Prop} {v : Value} {u : List (Nat × List UInt8)} (hu : RepU w G v u) : RepU w' G v u :=
 hu.imp id fun ⟨b, c, cs, h1, h2, h3, h4, h5⟩ => ⟨b, c, cs, h1, h2, h3, h4.stay h, zaf h h5⟩
mutual
theorem RepT.stay {w w' : World} (h : Mod w w' zu) {G : Nat → Prop} : ∀ (t : Tr) {cs : List Value}, RepT w G t cs → RepT w' G t cs
 | .mk n s nl l u, _, ⟨vs, vl, vu, h1, h2, h3, h4⟩ => ⟨vs, vl, vu, h1, h2.stay h, h3.imp id fun ⟨b, c, css, g1, g2, g3, g4, g5⟩ => ⟨b, c, css, g1, g2, g3, zcb.stay h l g4, zaf h g5⟩, h4.stay h⟩
theorem zcb.stay {w w' : World} (h : Mod w w' zu) {G : Nat → Prop} : ∀ (l : List Tr) {css : List (List Value)}, zcb w G l css → zcb w' G l css
 | [], _, hr => hr
 | t :: l, _, ⟨c, r, h1, h2, h3⟩ => ⟨c, r, h1, RepT.stay h t h2, zcb.stay h l h3⟩
end
theorem UsG.mod {w w' : World} {M : Nat → Nat → Prop} {G G' : Nat → Prop} (h : Mod w w' M) (hG : ∀ k, G k → k < w.heap.size ∧ (∀ o, ¬ M k o) ∧ G' k) : ∀ {u : List (Nat × List UInt8)} {cs : List Value}, UsG w G u cs → UsG w' G' u cs
 | [], _, hu => hu
 | (k, l) :: r, _, ⟨v, rest, h1, h2, h3⟩ => ⟨v, rest, h1, h2.mod h hG, UsG.mod h hG h3⟩
theorem RepU.mod {w w' : World} {M : Nat → Nat → Prop} {G G' : Nat → Prop} (h : Mod w w' M) (hG : ∀ k, G k → k < w.heap.size ∧ (∀ o, ¬ M k o) ∧ G' k) {v : Value} {u : List (Nat × List UInt8)} (hu : RepU w G v u) : RepU w' G' v u := by
 rcases hu with hu | ⟨b, c, cs, h1, h2, h3, h4, h5⟩
 ·exact .inl hu
 ·refine .inr ⟨b, c, cs, h1, h2, fun hne => (hG b (h3 hne)).2.2, h4.mod h hG, ?_⟩
  cases u with
  | nil => simp only [UsG] at h4; subst h4; intro j v hj; simp at hj
  | cons x u => obtain ⟨g1, g2, _⟩ := hG b (h3 (by simp)); exact h.rangeAt g1 (fun i _ _ => g2 i) h5
mutual
theorem RepT.mod {w w' : World} {M : Nat → Nat → Prop} {G G' : Nat → Prop} (h : Mod w w' M) (hG : ∀ k, G k → k < w.heap.size ∧ (∀ o, ¬ M k o) ∧ G' k) : ∀ (t : Tr) {cs : List Value}, RepT w G t cs → RepT w' G' t cs
 | .mk n s nl l u, _, ⟨vs, vl, vu, h1, h2, h3, h4⟩ => ⟨vs, vl, vu, h1, h2.mod h hG, h3.imp id fun ⟨b, c, css, g1, g2, g3, g4, g5⟩ => ⟨b, c, css, g1, g2, fun hne => (hG b (g3 hne)).2.2, zcb.mod h hG l g4, by
   cases l with
   | nil => simp only [zcb] at g4; subst g4; intro j v hj; simp at hj
   | cons x l => obtain ⟨k1, k2, _⟩ := hG b (g3 (by simp)); exact h.rangeAt k1 (fun i _ _ => k2 i) g5⟩, h4.mod h hG⟩
theorem zcb.mod {w w' : World} {M : Nat → Nat → Prop} {G G' : Nat → Prop} (h : Mod w w' M) (hG : ∀ k, G k → k < w.heap.size ∧ (∀ o, ¬ M k o) ∧ G' k) : ∀ (l : List Tr) {css : List (List Value)}, zcb w G l css → zcb w' G' l css
 | [], _, hr => hr
 | t :: l, _, ⟨c, r, h1, h2, h3⟩ => ⟨c, r, h1, RepT.mod h hG t h2, zcb.mod h hG l h3⟩
end
theorem zcb.length {w : World} {G : Nat → Prop} : ∀ {l : List Tr} {css : List (List Value)}, zcb w G l css → css.length = l.length
 | [], _, h => by simp only [zcb] at h; subst h; rfl
 | t :: l, _, ⟨c, r, h1, h2, h3⟩ => by subst h1; simp [zcb.length h3]
theorem zcb.append {w : World} {G : Nat → Prop} : ∀ {l : List Tr} {css : List (List Value)} {l' : List Tr} {css' : List (List Value)}, zcb w G l css → zcb w G l' css' → zcb w G (l ++ l') (css ++ css')
 | [], _, _, _, h, h' => by simp only [zcb] at h; subst h; exact h'
 | t :: l, _, _, _, ⟨c, r, h1, h2, h3⟩, h' => by subst h1; exact ⟨c, r ++ _, rfl, h2, zcb.append h3 h'⟩
theorem zcb.get {w : World} {G : Nat → Prop} : ∀ {l : List Tr} {css : List (List Value)} {j : Nat} {t : Tr}, zcb w G l css → l[j]? = some t → ∃ c, css[j]? = some c ∧ RepT w G t c
 | [], _, j, t, _, hj => by simp at hj
 | t' :: l, _, 0, t, ⟨c, r, h1, h2, h3⟩, hj => by subst h1; simp at hj; subst hj; exact ⟨c, rfl, h2⟩
 | t' :: l, _, j + 1, t, ⟨c, r, h1, h2, h3⟩, hj => by subst h1; simpa using zcb.get h3 (by simpa using hj)
theorem zin {w : World} {b n : Nat} : ∀ {css : List (List Value)} {o j : Nat} {c : List Value}, w.rangeAt b o css.flatten → (∀ x ∈ css, x.length = n) → css[j]? = some c → w.rangeAt b (o + j * n) c
 | [], o, j, c, _, _, hj => by simp at hj
 | x :: css, o, 0, c, h, hn, hj => by
  simp at hj; subst hj
  rw [List.flatten_cons, zj] at h
  simpa using h.1
 | x :: css, o, j + 1, c, h, hn, hj => by
  rw [List.flatten_cons, zj] at h
  have := zin (j := j) h.2 (fun y hy => hn y (by simp [hy])) (by simpa using hj)
  rw [hn x (by simp)] at this
  rwa [show o + n + j * n = o + (j + 1) * n by rw [Nat.succ_mul]; omega] at this
theorem zcb.len5 {w : World} {G : Nat → Prop} : ∀ {l : List Tr} {css : List (List Value)}, zcb w G l css → ∀ x ∈ css, x.length = 5
 | [], _, h, x, hx => by simp only [zcb] at h; subst h; simp at hx
 | t :: l, _, ⟨c, r, h1, h2, h3⟩, x, hx => by
  subst h1
  rcases List.mem_cons.1 hx with rfl | hx
  ·exact h2.len
  ·exact zcb.len5 h3 x hx
structure zet (P : Program) (N : Nums) (tt tg lt lg : TypeId) : Prop where
 tree : SF P tt [(0, 1), (1, 1), (2, 1), (3, 1), (4, 1)] 88 [.int .i64 0, .slice none 0 0, .bool false, .slice none 0 0, .slice none 0 0]
 tag : SF P tg [(0, 1), (1, 1)] 32 [.int .u32 0, .slice none 0 0]
 h0 : HF P tt 0 0
 h1 : HF P tt 1 1
 h2 : HF P tt 2 2
 h3 : HF P tt 3 3
 h4 : HF P tt 4 4
 g0 : HF P tg 0 0
 g1 : HF P tg 1 1
 lt : TI P lt (.slice tt) 1 24 (.slice none 0 0)
 lg : TI P lg (.slice tg) 1 24 (.slice none 0 0)
section
variable {P : Program} {N : Nums}
theorem run_bneq {t : TypeId} {sz by' : Nat} {z : Value} (h : TI P t .bool sz by' z) {x y : Operand} {a b : Bool} {w : World} :
  (do eqGuard .neq t x y (.bool a) (.bool b); binOp .neq t (.bool a) (.bool b) : Sem Value).run P w = .ok (.bool (a != b)) w := by
 have e : (Op.equal t (.bool a) (.bool b)).run P w = .ok (a == b) w := by
  unfold Op.equal Op.maxDepth
  rw [show (10000 : Nat) = 9999 + 1 from rfl]
  unfold Op.equalIn
  rw [Sem.run_bind, run_underlying h.und, Result.andThen_ok]
  rfl
 have e1 : (eqGuard .neq t x y (.bool a) (.bool b)).run P w = .ok () w := rfl
 rw [Sem.run_bind, e1, Result.andThen_ok]
 show ((do pure (.bool (!(← Op.equal t (.bool a) (.bool b)))) : Sem Value)).run P w = _
 rw [Sem.run_bind, e, Result.andThen_ok]
 rfl
def smallT : Tr → Prop
 | .mk _ s _ l u => s.length < 4611686018427387904 ∧ l.length < 4611686018427387904 ∧ u.length < 4611686018427387904 ∧ ∀ x ∈ u, x.2.length < 4611686018427387904
def ST (P : Program) (N : Nums) (t : Tr) : Prop := ∀ (w : World) (G G' : Nat → Prop) (c1 c2 : List Value), RepT w G t c1 → RepT w G' t c2 → Call P N.zci #[.agg c1.toArray, .agg c2.toArray] w fun v w' => v = .bool true ∧ Mod w w' zu
theorem zke {t : TypeId} {e : TypeId} {a b : Nat} {z : Value} (h : TI P t (.slice e) a b z) {ty : TypeId} {w : World} {v : Value} {n : Nat} (hv : (v = .slice none 0 0 ∧ n = 0) ∨ ∃ b c, v = .slice (some ⟨b, 0, none⟩) n c) : (Builtin.len_ #[t] ty #[v]).run P w = .ok (.int .i64 n) w := by
 rcases hv with ⟨rfl, rfl⟩ | ⟨b, c, rfl⟩
 ·exact h.run_len
 ·exact h.run_len
theorem same_tail (B : Base P N) (hT : zet P N N.zk N.zbl N.zab N.zv) {σ : Env} {w3 : World} {bA bB nl nu : Nat} {l1 l2 u1 u2 : Value} (f2 : σ 2 = .pointer (some ⟨bA, 0, none⟩)) (f3 : σ 3 = .pointer (some ⟨bB, 0, none⟩))
  (x3 : w3.cell? ⟨bA, 3, none⟩ = some l1) (x4 : w3.cell? ⟨bA, 4, none⟩ = some u1) (y3 : w3.cell? ⟨bB, 3, none⟩ = some l2) (y4 : w3.cell? ⟨bB, 4, none⟩ = some u2)
  (hl1 : (l1 = .slice none 0 0 ∧ nl = 0) ∨ ∃ b c, l1 = .slice (some ⟨b, 0, none⟩) nl c) (hl2 : (l2 = .slice none 0 0 ∧ nl = 0) ∨ ∃ b c, l2 = .slice (some ⟨b, 0, none⟩) nl c)
  (hu1 : (u1 = .slice none 0 0 ∧ nu = 0) ∨ ∃ b c, u1 = .slice (some ⟨b, 0, none⟩) nu c) (hu2 : (u2 = .slice none 0 0 ∧ nu = 0) ∨ ∃ b c, u2 = .slice (some ⟨b, 0, none⟩) nu c)
  {ρ : Env} (hρ : ∀ i, ρ (i + 100) = σ i) (h12 : ρ 12 = .bool false) (h17 : ρ 17 = .bool true) {K : Env → World → Prop} (hK : ∀ σ' : Env, σ' 2 = .pointer (some ⟨bA, 0, none⟩) → σ' 3 = .pointer (some ⟨bB, 0, none⟩) → σ' 5 = .bool false → K σ' w3) :
  runR P [
   ⟨some 18, .unOp .not N.zbg (T 17), 0, (some (some 12, false)), []⟩,
   ⟨some 19, .pick (T 12) (.const (.bool true)) (T 18), 0, none, []⟩,
   ⟨some 20, .move (T 19), 0, none, []⟩,
   ⟨some 21, .fieldAddr N.zk (V 2) 3, 0, (some (some 20, false)), []⟩,
   ⟨some 22, .load N.zab (T 21), 0, (some (some 20, false)), []⟩,
   ⟨some 23, .call ⟨.builtin .len, #[T 22], #[N.zab]⟩, N.zt, (some (some 20, false)), []⟩,
   ⟨some 24, .fieldAddr N.zk (V 3) 3, 0, (some (some 20, false)), []⟩,
   ⟨some 25, .load N.zab (T 24), 0, (some (some 20, false)), []⟩,
   ⟨some 26, .call ⟨.builtin .len, #[T 25], #[N.zab]⟩, N.zt, (some (some 20, false)), []⟩,
   ⟨some 27, .binOp .neq N.zt (T 23) (T 26) N.zt, 0, (some (some 20, false)), []⟩,
   ⟨some 28, .pick (T 20) (.const (.bool true)) (T 27), 0, none, []⟩,
   ⟨some 29, .move (T 28), 0, none, []⟩,
   ⟨some 30, .fieldAddr N.zk (V 2) 4, 0, (some (some 29, false)), []⟩,
   ⟨some 31, .load N.zv (T 30), 0, (some (some 29, false)), []⟩,
   ⟨some 32, .call ⟨.builtin .len, #[T 31], #[N.zv]⟩, N.zt, (some (some 29, false)), []⟩,
   ⟨some 33, .fieldAddr N.zk (V 3) 4, 0, (some (some 29, false)), []⟩,
   ⟨some 34, .load N.zv (T 33), 0, (some (some 29, false)), []⟩,
   ⟨some 35, .call ⟨.builtin .len, #[T 34], #[N.zv]⟩, N.zt, (some (some 29, false)), []⟩,
   ⟨some 36, .binOp .neq N.zt (T 32) (T 35) N.zt, 0, (some (some 29, false)), []⟩,
   ⟨some (5+100), .pick (T 29) (.const (.bool true)) (T 36), 0, none, []⟩] ρ w3 fun ρ w => K (locs ρ) w := by
 have r2 : ρ 102 = .pointer (some ⟨bA, 0, none⟩) := by rw [← f2]; exact hρ 2
 have r3 : ρ 103 = .pointer (some ⟨bB, 0, none⟩) := by rw [← f3]; exact hρ 3
 simp +decide only [bK, bE, Nat.reduceBeqDiff, BEq.rfl, Nat.reduceAdd, Nat.zero_add, if_false, r2, r3, h12, h17, hT.h3.run, hT.h4.run, hT.lt.run_load1 rfl, hT.lg.run_load1 rfl, x3, x4, y3, y4, zke hT.lt hl1, zke hT.lt hl2, zke hT.lg hu1, zke hT.lg hu2, zbi, zdy, bne_self_eq_false, Bool.not_true]
 refine hK _ ?_ ?_ ?_
 ·simp +decide only [bE, Nat.reduceBeqDiff, Nat.reduceAdd, r2]
 ·simp +decide only [bE, Nat.reduceBeqDiff, Nat.reduceAdd, r3]
 ·simp +decide only [bE, BEq.rfl, Nat.reduceAdd]
theorem znb {P : Program} {K : Env → World → Prop} : ∀ (a b : List ROp) (ρ : Env) (w : World), runR P a ρ w (fun ρ w => runR P b ρ w K) → runR P (a ++ b) ρ w K
 | [], _, _, _, h => h
 | o :: a, b, ρ, w, h => by
  show zbe P o ρ w fun ρ w => runR P (a ++ b) ρ w K
  exact zfc (fun ρ w hk => znb a b ρ w hk) h
theorem same_head (B : Base P N) (F : Fns P N) (hS : N.zdh ≠ 0) (hT : zet P N N.zk N.zbl N.zab N.zv) {σ : Env} {w2 : World} {bA bB : Nat} {n : Int} {nl : Bool} {s1 s2 : Value} {s : List UInt8} {G G' : Nat → Prop} (f2 : σ 2 = .pointer (some ⟨bA, 0, none⟩)) (f3 : σ 3 = .pointer (some ⟨bB, 0, none⟩))
  (x0 : w2.cell? ⟨bA, 0, none⟩ = some (.int .i64 n)) (x1 : w2.cell? ⟨bA, 1, none⟩ = some s1) (x2 : w2.cell? ⟨bA, 2, none⟩ = some (.bool nl)) (y0 : w2.cell? ⟨bB, 0, none⟩ = some (.int .i64 n)) (y1 : w2.cell? ⟨bB, 1, none⟩ = some s2) (y2 : w2.cell? ⟨bB, 2, none⟩ = some (.bool nl))
  (a1 : tagV w2 G s1 s) (b1 : tagV w2 G' s2 s) (hs : s.length < 4611686018427387904) {τ : Env} {K : Env → World → Prop} (hK : ∀ (ρ : Env) (w3 : World), Mod w2 w3 zu → (∀ i, ρ (i + 100) = σ i) → ρ 12 = .bool false → ρ 17 = .bool true → K ρ w3) :
  runR P [
   ⟨some 0, .fieldAddr N.zk (V 2) 0, 0, none, []⟩,
   ⟨some 1, .load N.zef (T 0), 0, none, []⟩,
   ⟨some 2, .fieldAddr N.zk (V 3) 0, 0, none, []⟩,
   ⟨some 3, .load N.zef (T 2), 0, none, []⟩,
   ⟨some 4, .binOp .neq N.zef (T 1) (T 3) N.zef, 0, none, []⟩,
   ⟨some 5, .move (T 4), 0, none, []⟩,
   ⟨some 6, .fieldAddr N.zk (V 2) 2, 0, (some (some 5, false)), []⟩,
   ⟨some 7, .load N.zbg (T 6), 0, (some (some 5, false)), []⟩,
   ⟨some 8, .fieldAddr N.zk (V 3) 2, 0, (some (some 5, false)), []⟩,
   ⟨some 9, .load N.zbg (T 8), 0, (some (some 5, false)), []⟩,
   ⟨some 10, .binOp .neq N.zbg (T 7) (T 9) N.zbg, 0, (some (some 5, false)), []⟩,
   ⟨some 11, .pick (T 5) (.const (.bool true)) (T 10), 0, none, []⟩,
   ⟨some 12, .move (T 11), 0, none, []⟩,
   ⟨some 13, .fieldAddr N.zk (V 2) 1, 0, (some (some 12, false)), []⟩,
   ⟨some 14, .load N.zb (T 13), 0, (some (some 12, false)), []⟩,
   ⟨some 15, .fieldAddr N.zk (V 3) 1, 0, (some (some 12, false)), []⟩,
   ⟨some 16, .load N.zb (T 15), 0, (some (some 12, false)), []⟩,
   ⟨some 17, .call ⟨.value (.func N.zdh), #[T 14, T 16], #[N.zb, N.zb]⟩, N.zbg, (some (some 12, false)), []⟩] (zcp σ τ) w2 K := by
 simp +decide only [bK, bE, Nat.reduceBeqDiff, BEq.rfl, Nat.reduceAdd, Nat.add_zero, Nat.zero_add, if_false, f2, f3, hT.h0.run, hT.h1.run, hT.h2.run, B.int64.run_load1 rfl, B.bool.run_load1 rfl, B.Lu8.run_load1 rfl, x0, x1, x2, y0, y1, y2, zbi, run_bneq B.bool, zdy, bne_self_eq_false]
 rw [zcn (F.spec_Same hS).has]
 simp +decide only [bK, bE, Nat.reduceBeqDiff, BEq.rfl]
 refine (zrn B F hS a1 b1 hs).mono ?_
 rintro v w3 ⟨rfl, m3⟩
 refine hK _ w3 m3 (fun i => ?_) ?_ ?_
 ·simp +decide only [bE, Nat.reduceBeqDiff]
 ·simp +decide only [bE, Nat.reduceBeqDiff, BEq.rfl]
 ·simp +decide only [bE, BEq.rfl]
end
section
variable {P : Program} {N : Nums}
theorem UsG.get {w : World} {G : Nat → Prop} : ∀ {u : List (Nat × List UInt8)} {cs : List Value} {j : Nat} {x : Nat × List UInt8}, UsG w G u cs → u[j]? = some x → ∃ v, cs[j * 2]? = some (.int .u32 x.1) ∧ cs[j * 2 + 1]? = some v ∧ tagV w G v x.2
 | [], _, j, x, _, hj => by simp at hj
 | (k, l) :: u, _, 0, x, ⟨v, rest, h1, h2, h3⟩, hj => by
  subst h1
  simp at hj; subst hj
  exact ⟨v, rfl, rfl, h2⟩
 | (k, l) :: u, _, j + 1, x, ⟨v, rest, h1, h2, h3⟩, hj => by
  subst h1
  obtain ⟨v', g1, g2, g3⟩ := UsG.get h3 (by simpa using hj)
  refine ⟨v', ?_, ?_, g3⟩
  ·rw [show (j + 1) * 2 = j * 2 + 1 + 1 by omega]; simpa using g1
  ·rw [show (j + 1) * 2 + 1 = j * 2 + 1 + 1 + 1 by omega]; simpa using g2
theorem W_sameTag (B : Base P N) (F : Fns P N) (hS : N.zdh ≠ 0) (hT : zet P N N.zk N.zbl N.zab N.zv) {loc : List Nat} {N' : Nat} {Q : Exit → Env → World → Prop} {σ : Env} {w : World} {bA bB b1 b2 c1 c2 nu j k : Nat} {v1 v2 : Value} {s : List UInt8} {G G' : Nat → Prop}
  (f2 : σ 2 = .pointer (some ⟨bA, 0, none⟩)) (f3 : σ 3 = .pointer (some ⟨bB, 0, none⟩)) (f14 : σ 14 = .int .i64 j) (hj : j < nu)
  (x4 : w.drew.cell? ⟨bA, 4, none⟩ = some (.slice (some ⟨b1, 0, none⟩) nu c1)) (y4 : w.drew.cell? ⟨bB, 4, none⟩ = some (.slice (some ⟨b2, 0, none⟩) nu c2))
  (k1 : w.drew.cell? ⟨b1, j * 2, none⟩ = some (.int .u32 k)) (k2 : w.drew.cell? ⟨b2, j * 2, none⟩ = some (.int .u32 k)) (e1 : w.drew.cell? ⟨b1, j * 2 + 1, none⟩ = some v1) (e2 : w.drew.cell? ⟨b2, j * 2 + 1, none⟩ = some v2)
  (a1 : tagV w.drew G v1 s) (a2 : tagV w.drew G' v2 s) (hs : s.length < 4611686018427387904)
  (hQ : ∀ (σ' : Env) (w' : World), Mod w.drew w' zu → (∀ i, i ≠ 15 → σ' i = σ i) → σ' 15 = .bool false → Q .normal σ' w') : W P loc N' (.draw [
   ⟨some 0, .fieldAddr N.zk (V 2) 4, 0, none, []⟩,
   ⟨some 1, .load N.zv (T 0), 0, none, [0]⟩,
   ⟨some 2, .move (V 14), 0, none, []⟩,
   ⟨some 3, .indexAddr N.zv (T 1) (T 2), 0, none, [1, 2]⟩,
   ⟨some 4, .fieldAddr N.zbl (T 3) 0, 0, none, [3]⟩,
   ⟨some 5, .load N.zm (T 4), 0, none, [4]⟩,
   ⟨some 6, .fieldAddr N.zk (V 3) 4, 0, none, []⟩,
   ⟨some 7, .load N.zv (T 6), 0, none, [6]⟩,
   ⟨some 8, .move (V 14), 0, none, []⟩,
   ⟨some 9, .indexAddr N.zv (T 7) (T 8), 0, none, [7, 8]⟩,
   ⟨some 10, .fieldAddr N.zbl (T 9) 0, 0, none, [9]⟩,
   ⟨some 11, .load N.zm (T 10), 0, none, [10]⟩,
   ⟨some 12, .binOp .neq N.zm (T 5) (T 11) N.zm, 0, none, [5, 11]⟩,
   ⟨some 13, .move (T 12), 0, none, [12]⟩,
   ⟨some 14, .fieldAddr N.zk (V 2) 4, 0, (some (some 13, false)), [13]⟩,
   ⟨some 15, .load N.zv (T 14), 0, (some (some 13, false)), [14, 13]⟩,
   ⟨some 16, .move (V 14), 0, (some (some 13, false)), [13]⟩,
   ⟨some 17, .indexAddr N.zv (T 15) (T 16), 0, (some (some 13, false)), [15, 16, 13]⟩,
   ⟨some 18, .fieldAddr N.zbl (T 17) 1, 0, (some (some 13, false)), [17, 13]⟩,
   ⟨some 19, .load N.zb (T 18), 0, (some (some 13, false)), [18, 13]⟩,
   ⟨some 20, .fieldAddr N.zk (V 3) 4, 0, (some (some 13, false)), [13]⟩,
   ⟨some 21, .load N.zv (T 20), 0, (some (some 13, false)), [20, 13]⟩,
   ⟨some 22, .move (V 14), 0, (some (some 13, false)), [13]⟩,
   ⟨some 23, .indexAddr N.zv (T 21) (T 22), 0, (some (some 13, false)), [21, 22, 13]⟩,
   ⟨some 24, .fieldAddr N.zbl (T 23) 1, 0, (some (some 13, false)), [23, 13]⟩,
   ⟨some 25, .load N.zb (T 24), 0, (some (some 13, false)), [24, 13]⟩,
   ⟨some 26, .call ⟨.value (.func N.zdh), #[T 19, T 25], #[N.zb, N.zb]⟩, N.zbg, (some (some 13, false)), [19, 25, 13, 13]⟩,
   ⟨some 27, .unOp .not N.zbg (T 26), 0, (some (some 13, false)), [26, 13]⟩,
   ⟨some (15+100), .pick (T 13) (.const (.bool true)) (T 27), 0, none, [13, 27]⟩]) Q σ w := by
 obtain ⟨fs, ht0, _⟩ := hT.tag.out
 have ht : TI P N.zbl (.struct fs) 2 32 (.agg [.int .u32 0, .slice none 0 0].toArray) := ht0
 have ix1 := fun w => zx (w := w) hT.lg ht (bl := b1) (o := 0) (n := nu) (c := c1) (i := j) (k := .i64) hj
 have ix2 := fun w => zx (w := w) hT.lg ht (bl := b2) (o := 0) (n := nu) (c := c2) (i := j) (k := .i64) hj
 simp only [Nat.zero_add] at ix1 ix2
 refine W_drawK B.mixed 26 (by kernel_rfl) fun τ => ?_
 simp +decide only [bK, bE, zfl, Nat.reduceBeqDiff, BEq.rfl, Nat.reduceAdd, Nat.add_zero, Nat.zero_add, List.take_succ_cons, List.take_zero, List.drop_succ_cons, List.drop_zero, true_and, f2, f3, f14, hT.h4.run, hT.g0.run, hT.g1.run, hT.lg.run_load1 rfl, B.uint32.run_load1 rfl, B.Lu8.run_load1 rfl, x4, y4, ix1, ix2, k1, k2, e1, e2, zbi, bne_self_eq_false]
 rw [zcn (F.spec_Same hS).has]
 simp +decide only [bK, bE, Nat.reduceBeqDiff, BEq.rfl]
 refine (zrn B F hS a1 a2 hs).mono ?_
 rintro v w3 ⟨rfl, m3⟩
 simp +decide only [bK, bE, Nat.reduceBeqDiff, BEq.rfl, if_false, zbi, zdy, Bool.not_true]
 refine zg (K := fun σ' w' => Q .normal σ' w') fun σ4 hσ => hQ _ _ m3 (fun i hi => ?_) ?_
 ·have := hσ i
  rw [this, zop, show (i + 100 == 15 + 100) = false from by simpa using hi]
  simp +decide only [bE, Nat.reduceBeqDiff]
 ·have := hσ 15
  simp +decide only [bE, BEq.rfl, Nat.reduceAdd] at this
  exact this
end
section
variable {P : Program} {N : Nums}
theorem same_step (B : Base P N) (F : Fns P N) (hN : N.zci ≠ 0) (hT : zet P N N.zk N.zbl N.zab N.zv) {n : Int} {s : List UInt8} {nl : Bool} {l : List Tr} {u : List (Nat × List UInt8)}
  (hsm : smallT (.mk n s nl l u)) (ih : ∀ x ∈ l, ST P N x) : ST P N (.mk n s nl l u) := by
 intro w G G' c1 c2 h1 h2
 have hF := F.spec_SameTree hN
 obtain ⟨hs, hl, hu, huv⟩ := hsm
 refine hF.1.call rfl fun loc N' hlo => ?_
 unfold zjh
 simp only [RepT] at h1 h2
 obtain ⟨s1, l1, u1, rfl, a1, a2, a3⟩ := h1
 obtain ⟨s2, l2, u2, rfl, b1, b2, b3⟩ := h2
 refine zc fun K hK => zad fun τ => ?_
 simp +decide only [bK, bE, Nat.reduceBeqDiff, Nat.reduceAdd, Nat.zero_add]
 obtain ⟨w1, hw1⟩ : ∃ w1, w1 = w.alloc (.cells (Value.cells (.agg [.int .i64 n, s1, .bool nl, l1, u1].toArray)) N.zk) := ⟨_, rfl⟩
 have m1 : Mod w w1 zu := by rw [hw1]; exact Mod.alloc _ _ _
 have r1 : w1.rangeAt w.heap.size 0 [.int .i64 n, s1, .bool nl, l1, u1] := by rw [hw1]; exact zz w _ _ _
 rw [← hw1]
 clear hw1
 obtain ⟨w2, hw2⟩ : ∃ w2, w2 = w1.alloc (.cells (Value.cells (.agg [.int .i64 n, s2, .bool nl, l2, u2].toArray)) N.zk) := ⟨_, rfl⟩
 have m2 : Mod w1 w2 zu := by rw [hw2]; exact Mod.alloc _ _ _
 have r2 : w2.rangeAt w1.heap.size 0 [.int .i64 n, s2, .bool nl, l2, u2] := by rw [hw2]; exact zz w1 _ _ _
 rw [← hw2]
 clear hw2
 have m02 : Mod w w2 zu := m1.trans' m2
 have r1' := zaf m2 r1
 obtain ⟨bA, hbA⟩ : ∃ b, b = w.heap.size := ⟨_, rfl⟩
 obtain ⟨bB, hbB⟩ : ∃ b, b = w1.heap.size := ⟨_, rfl⟩
 rw [← hbA] at r1' ⊢
 rw [← hbB] at r2 ⊢
 refine hK _ _ (zg fun σ hσ => ?_)
 have f2 := hσ 2
 have f3 := hσ 3
 simp +decide only [bE, Nat.reduceBeqDiff, BEq.rfl, Nat.reduceAdd] at f2 f3
 clear hσ hK K r1 m1 m2
 have cells : ∀ {w' : World}, Mod w2 w' zu → (w'.cell? ⟨bA, 0, none⟩ = some (.int .i64 n) ∧ w'.cell? ⟨bA, 1, none⟩ = some s1 ∧ w'.cell? ⟨bA, 2, none⟩ = some (.bool nl) ∧ w'.cell? ⟨bA, 3, none⟩ = some l1 ∧ w'.cell? ⟨bA, 4, none⟩ = some u1) ∧
   (w'.cell? ⟨bB, 0, none⟩ = some (.int .i64 n) ∧ w'.cell? ⟨bB, 1, none⟩ = some s2 ∧ w'.cell? ⟨bB, 2, none⟩ = some (.bool nl) ∧ w'.cell? ⟨bB, 3, none⟩ = some l2 ∧ w'.cell? ⟨bB, 4, none⟩ = some u2) := by
  intro w' hm
  have q1 := zaf hm r1'
  have q2 := zaf hm r2
  exact ⟨⟨q1 0 _ rfl, q1 1 _ rfl, q1 2 _ rfl, q1 3 _ rfl, q1 4 _ rfl⟩, ⟨q2 0 _ rfl, q2 1 _ rfl, q2 2 _ rfl, q2 3 _ rfl, q2 4 _ rfl⟩⟩
 obtain ⟨⟨x0, x1, x2, x3, x4⟩, ⟨y0, y1, y2, y3, y4⟩⟩ := cells (.refl w2 _)
 refine zc fun K hK => zc fun K1 hK1 => zad fun τ => znb [_, _, _, _, _, _, _, _, _, _, _, _, _, _, _, _, _, _] _ _ _ (same_head B F hF.2 hT f2 f3 x0 x1 x2 y0 y1 y2 (a1.stay m02) (b1.stay m02) hs fun ρ w3 m3 hρ h12 h17 => ?_)
 obtain ⟨⟨x0, x1, x2, x3, x4⟩, ⟨y0, y1, y2, y3, y4⟩⟩ := cells m3
 have hl1 : (l1 = .slice none 0 0 ∧ l.length = 0) ∨ ∃ b c, l1 = .slice (some ⟨b, 0, none⟩) l.length c := a2.imp (fun h => ⟨h.1, by rw [h.2]; rfl⟩) fun ⟨b, c, _, h, _⟩ => ⟨b, c, h⟩
 have hl2 : (l2 = .slice none 0 0 ∧ l.length = 0) ∨ ∃ b c, l2 = .slice (some ⟨b, 0, none⟩) l.length c := b2.imp (fun h => ⟨h.1, by rw [h.2]; rfl⟩) fun ⟨b, c, _, h, _⟩ => ⟨b, c, h⟩
 have hu1 : (u1 = .slice none 0 0 ∧ u.length = 0) ∨ ∃ b c, u1 = .slice (some ⟨b, 0, none⟩) u.length c := a3.imp (fun h => ⟨h.1, by rw [h.2]; rfl⟩) fun ⟨b, c, _, h, _⟩ => ⟨b, c, h⟩
 have hu2 : (u2 = .slice none 0 0 ∧ u.length = 0) ∨ ∃ b c, u2 = .slice (some ⟨b, 0, none⟩) u.length c := b3.imp (fun h => ⟨h.1, by rw [h.2]; rfl⟩) fun ⟨b, c, _, h, _⟩ => ⟨b, c, h⟩
 refine same_tail B hT f2 f3 x3 x4 y3 y4 hl1 hl2 hu1 hu2 hρ h12 h17 (K := K1) fun σ1 g2 g3 g5 => hK1 _ _ ?_
 clear hK1 K1
 refine W_if hlo g5 ?_
 rw [if_neg (by simp)]
 refine zca (hK _ _ ?_)
 clear hK K g5
 have m23 : Mod w2 w3 zu := m3
 refine zc fun K hK => zc fun K1 hK1 => zad fun τ => ?_
 simp +decide only [bK, bE, BEq.rfl, Nat.reduceAdd, Nat.zero_add, g2, hT.h3.run, hT.lt.run_load1 rfl, x3, zke hT.lt hl1]
 refine hK1 _ _ (zg fun σ2 hσ => ?_)
 have p2 := hσ 2
 have p3 := hσ 3
 have p6 := hσ 6
 have p7 := hσ 7
 simp +decide only [bE, Nat.reduceBeqDiff, BEq.rfl, Nat.reduceAdd, g2, g3] at p2 p3 p6 p7
 clear hσ hK1 K1
 refine zhp (i := 7) (l := 6) (c := 8) (k := 0) hlo hl (fun j σ w' => σ 2 = .pointer (some ⟨bA, 0, none⟩) ∧ σ 3 = .pointer (some ⟨bB, 0, none⟩) ∧ σ 6 = .int .i64 l.length ∧ σ 7 = .int .i64 j ∧ j ≤ l.length ∧ Mod w2 w' zu) (fun j σ w h => ⟨h.2.2.2.1, h.2.2.1, h.2.2.2.2.1⟩) (fun j σ w b h => ?_) ⟨p2, p3, p6, p7, Nat.zero_le _, m3⟩ (fun σ' w' h => hK _ _ ?_) (fun j σ' w' hj h => ?_)
 ·obtain ⟨a, b, c, d, e, f⟩ := h
  exact ⟨by rw [ze (by decide)]; exact a, by rw [ze (by decide)]; exact b, by rw [ze (by decide)]; exact c, by rw [ze (by decide)]; exact d, e, f⟩
 ·obtain ⟨c2', c3', _, _, _, m5⟩ := h
  obtain ⟨⟨z0, z1, z2, z3, z4⟩, ⟨t0, t1, t2, t3, t4⟩⟩ := cells m5
  refine zc fun K2 hK2 => zc fun K3 hK3 => zad fun τ => ?_
  simp +decide only [bK, bE, BEq.rfl, Nat.reduceAdd, Nat.zero_add, c2', hT.h4.run, hT.lg.run_load1 rfl, z4, zke hT.lg hu1]
  refine hK3 _ _ (zg fun σ5 hσ => ?_)
  have d2 := hσ 2
  have d3 := hσ 3
  have d11 := hσ 11
  have d12 := hσ 12
  simp +decide only [bE, Nat.reduceBeqDiff, BEq.rfl, Nat.reduceAdd, c2', c3'] at d2 d3 d11 d12
  clear hσ hK3 K3
  refine zhp (i := 12) (l := 11) (c := 13) (k := 2) hlo hu (fun j σ w' => σ 2 = .pointer (some ⟨bA, 0, none⟩) ∧ σ 3 = .pointer (some ⟨bB, 0, none⟩) ∧ σ 11 = .int .i64 u.length ∧ σ 12 = .int .i64 j ∧ j ≤ u.length ∧ Mod w2 w' zu) (fun j σ w h => ⟨h.2.2.2.1, h.2.2.1, h.2.2.2.2.1⟩) (fun j σ w b h => ?_) ⟨d2, d3, d11, d12, Nat.zero_le _, m5⟩ (fun σ' w' h => hK2 _ _ ?_) (fun j σ' w' hj h => ?_)
  ·obtain ⟨a, b, c, d, e, f⟩ := h
   exact ⟨by rw [ze (by decide)]; exact a, by rw [ze (by decide)]; exact b, by rw [ze (by decide)]; exact c, by rw [ze (by decide)]; exact d, e, f⟩
  ·exact zc fun K4 hK4 => zap (hK4 _ _ (zcf ⟨.inr rfl, _, rfl, upd_same _ _ _, m02.trans' h.2.2.2.2.2⟩))
  ·obtain ⟨a, b, c, d, e, f⟩ := h
   refine zc fun K4 hK4 => zad fun τ => ?_
   simp +decide only [bK, bE, BEq.rfl, Nat.reduceAdd, d]
   refine hK4 _ _ (zg fun σ3 hσ => ?_)
   have q2 := hσ 2
   have q3 := hσ 3
   have q11 := hσ 11
   have q12 := hσ 12
   have q14 := hσ 14
   simp +decide only [bE, Nat.reduceBeqDiff, BEq.rfl, Nat.reduceAdd, a, b, c, d] at q2 q3 q11 q12 q14
   clear hσ hK4 K4
   have md : Mod w2 w'.drew zu := f.trans' (Mod.drew _ _)
   obtain ⟨⟨_, _, _, _, z4⟩, ⟨_, _, _, _, t4⟩⟩ := cells md
   have hmw : Mod w w'.drew zu := m02.trans' md
   have hx : u[j]? = some u[j] := List.getElem?_eq_getElem hj
   have elem : ∀ {G : Nat → Prop} {uv : Value}, RepU w G uv u → ∃ bb cc v, uv = .slice (some ⟨bb, 0, none⟩) u.length cc ∧ w'.drew.cell? ⟨bb, j * 2, none⟩ = some (.int .u32 (u[j]).1) ∧ w'.drew.cell? ⟨bb, j * 2 + 1, none⟩ = some v ∧ tagV w'.drew G v (u[j]).2 := by
    intro G uv h
    rcases h with ⟨_, h⟩ | ⟨bb, cc, cs, h1, _, _, h4, h5⟩
    ·rw [h] at hj; simp at hj
    ·obtain ⟨v, g1, g2, g3⟩ := h4.get hx
     have r5 := zaf hmw h5
     have k1 := r5 _ _ g1
     have k2 := r5 _ _ g2
     rw [Nat.zero_add] at k1 k2
     exact ⟨bb, cc, v, h1, k1, k2, g3.stay hmw⟩
   obtain ⟨bb1, cc1, v1, e1, k1, n1, g1⟩ := elem a3
   obtain ⟨bb2, cc2, v2, e2, k2, n2, g2⟩ := elem b3
   rw [e1] at z4
   rw [e2] at t4
   refine zc fun K4 hK4 => W_sameTag B F hF.2 hT q2 q3 q14 hj z4 t4 k1 k2 n1 n2 g1 g2 (huv _ (List.getElem_mem hj)) fun σ4 w4 m4 hag h15 => hK4 _ _ (W_if hlo h15 ?_)
   rw [if_neg (by simp)]
   refine zca ⟨by rw [hag _ (by decide)]; exact q12, ?_⟩
   exact ⟨by rw [ze (by decide), hag _ (by decide)]; exact q2, by rw [ze (by decide), hag _ (by decide)]; exact q3, by rw [ze (by decide), hag _ (by decide)]; exact q11, upd_same _ _ _, by omega, md.trans' m4⟩
 ·obtain ⟨a, b, c, d, e, f⟩ := h
  refine zc fun K2 hK2 => zad fun τ => ?_
  simp +decide only [bK, bE, BEq.rfl, Nat.reduceAdd, d]
  refine hK2 _ _ (zg fun σ3 hσ => ?_)
  have q2 := hσ 2
  have q3 := hσ 3
  have q6 := hσ 6
  have q7 := hσ 7
  have q9 := hσ 9
  simp +decide only [bE, Nat.reduceBeqDiff, BEq.rfl, Nat.reduceAdd, a, b, c, d] at q2 q3 q6 q7 q9
  clear hσ hK2 K2
  have md : Mod w2 w'.drew zu := f.trans' (Mod.drew _ _)
  obtain ⟨⟨z0, z1, z2, z3, z4⟩, ⟨t0, t1, t2, t3, t4⟩⟩ := cells md
  have hx : l[j]? = some l[j] := List.getElem?_eq_getElem hj
  have elem : ∀ {G : Nat → Prop} {lv : Value}, ((lv = .slice none 0 0 ∧ l = []) ∨ ∃ b c css, lv = .slice (some ⟨b, 0, none⟩) l.length c ∧ l.length ≤ c ∧ (l ≠ [] → G b) ∧ zcb w G l css ∧ w.rangeAt b 0 css.flatten) →
    ∃ bb c cs, lv = .slice (some ⟨bb, 0, none⟩) l.length c ∧ RepT w'.drew G l[j] cs ∧ w'.drew.rangeAt bb (0 + j * 5) cs := by
   intro G lv h
   rcases h with ⟨_, h⟩ | ⟨bb, c, css, h1, _, _, h4, h5⟩
   ·rw [h] at hj; simp at hj
   ·obtain ⟨cs, hc, hr⟩ := h4.get hx
    have hmw : Mod w w'.drew zu := m02.trans' md
    exact ⟨bb, c, cs, h1, RepT.stay hmw _ hr, zaf hmw (zin h5 h4.len5 hc)⟩
  obtain ⟨bb1, cc1, cs1, e1, hr1, hg1⟩ := elem a2
  obtain ⟨bb2, cc2, cs2, e2, hr2, hg2⟩ := elem b2
  rw [e1] at z3
  rw [e2] at t3
  obtain ⟨fs, htree0, _⟩ := hT.tree.out
  have htree : TI P N.zk (.struct fs) 5 88 (.agg [.int .i64 0, .slice none 0 0, .bool false, .slice none 0 0, .slice none 0 0].toArray) := htree0
  have ix1 := fun w => zx (w := w) hT.lt htree (bl := bb1) (o := 0) (n := l.length) (c := cc1) (i := j) (k := .i64) hj
  have ix2 := fun w => zx (w := w) hT.lt htree (bl := bb2) (o := 0) (n := l.length) (c := cc2) (i := j) (k := .i64) hj
  rw [Nat.zero_add] at hg1 hg2
  simp only [Nat.zero_add] at ix1 ix2
  have ld1 := htree.run_load hg1 hr1.len (fun h => by cases h)
  have ld2 := htree.run_load hg2 hr2.len (fun h => by cases h)
  have lv1 : ∀ cs, ldv (.struct fs) cs = .agg cs.toArray := fun _ => rfl
  rw [lv1] at ld1 ld2
  refine zc fun K2 hK2 => W_drawK B.mixed 10 (by kernel_rfl) fun τ => ?_
  simp +decide (disch := omega) only [bK, bE, zfl, Nat.reduceBeqDiff, BEq.rfl, Nat.reduceAdd, Nat.zero_add, List.take_succ_cons, List.take_zero, List.drop_succ_cons, List.drop_zero, true_and, q2, q3, q9, hT.h3.run, hT.lt.run_load1 rfl, z3, t3, ix1, ix2, ld1, ld2]
  rw [zcn hF.1.has]
  simp +decide only [bK, bE, Nat.reduceBeqDiff, BEq.rfl]
  refine (ih _ (List.getElem_mem hj) w'.drew G G' cs1 cs2 hr1 hr2).mono ?_
  rintro v w4 ⟨rfl, m4⟩
  simp +decide only [bK, Bool.not_true]
  refine hK2 _ _ (zg fun σ4 hσ => ?_)
  have t2 := hσ 2
  have t3 := hσ 3
  have t6 := hσ 6
  have t7 := hσ 7
  have t10 := hσ 10
  simp +decide only [bE, Nat.reduceBeqDiff, BEq.rfl, Nat.reduceAdd, q2, q3, q6, q7] at t2 t3 t6 t7 t10
  clear hσ hK2 K2
  refine W_if hlo t10 ?_
  rw [if_neg (by simp)]
  refine zca ⟨t7, ?_⟩
  exact ⟨by rw [ze (by decide)]; exact t2, by rw [ze (by decide)]; exact t3, by rw [ze (by decide)]; exact t6, upd_same _ _ _, by omega, md.trans' m4⟩
end
mutual
def okT : Tr → Prop
 | .mk n s nl l u => smallT (.mk n s nl l u) ∧ okTs l
def okTs : List Tr → Prop
 | [] => True
 | t :: l => okT t ∧ okTs l
end
section
variable {P : Program} {N : Nums}
mutual
theorem sameTree (B : Base P N) (F : Fns P N) (hN : N.zci ≠ 0) (hT : zet P N N.zk N.zbl N.zab N.zv) : ∀ (t : Tr), okT t → ST P N t
 | .mk n s nl l u, h => same_step B F hN hT h.1 (zqp B F hN hT l h.2)
theorem zqp (B : Base P N) (F : Fns P N) (hN : N.zci ≠ 0) (hT : zet P N N.zk N.zbl N.zab N.zv) : ∀ (l : List Tr), okTs l → ∀ x ∈ l, ST P N x
 | [], _, x, hx => by simp at hx
 | t :: l, h, x, hx => by
  rcases List.mem_cons.1 hx with e | hx
  ·rw [e]; exact sameTree B F hN hT t h.1
  ·exact zqp B F hN hT l h.2 x hx
end
end
def Own (w : World) (lo sz : Nat) (v : Value) (n : Nat) (cs : List Value) : Prop :=
 (v = .slice none 0 0 ∧ n = 0 ∧ cs = []) ∨ ∃ b c, v = .slice (some ⟨b, 0, none⟩) n c ∧ lo ≤ b ∧ b < w.heap.size ∧ n ≤ c ∧ w.there b 0 (c * sz) ∧ w.rangeAt b 0 cs ∧ cs.length = n * sz
def zao (v : Value) (k : Nat) : Prop := ∀ b o s n c, v = .slice (some ⟨b, o, s⟩) n c → k ≠ b
section
variable {P : Program} {N : Nums}
theorem zgb {st et ty : TypeId} {a b sz by' : Nat} {z z' : Value} {d : TypeDesc} (hS : TI P st (.slice et) a b z') (ht : TI P et d sz by' z) {w : World} {lo n bs cb m : Nat} {v : Value} {cs new : List Value} (ho : Own w lo sz v n cs)
  (hn : w.rangeAt bs 0 new) (hnl : new.length = m * sz) (h1 : ∀ c ∈ new, c.oneCell' = true) (hlo : lo ≤ w.heap.size) (hz : z.cells.size = sz) (hold : ∀ c ∈ cs, c.oneCell' = true)
  (hbig : n + m < 1099511627776) (hby : by' ≤ 128) (hm : 0 < m) :
  ∃ v' w', (Builtin.append_ #[st, st] ty #[v, .slice (some ⟨bs, 0, none⟩) m cb]).run P w = .ok v' w' ∧ Own w' lo sz v' (n + m) (cs ++ new) ∧ Mod w w' (fun i _ => ¬ zao v i) ∧ v'.oneCell' = true ∧ (∀ k, k < w.heap.size → zao v k → zao v' k) := by
 obtain ⟨i, hi, hsz, hbytes, hzero⟩ := ht.info
 subst hsz
 have hsrc : Src P i.size st (.slice (some ⟨bs, 0, none⟩) m cb) m new w := Src.ofSlice w hS.und ⟨bs, 0, none⟩ m cb new hnl (fun j u hj => by rw [Addr.add_mid]; exact hn j u hj) h1
 have fits : ∀ c, c < n + m → Builtin.nextslicecap (n + m) c * i.bytes ≤ 281474976710656 := by
  intro c hc
  have h1 := nextslicecap_le hc
  have h2 : Builtin.nextslicecap (n + m) c * i.bytes ≤ (2 * (n + m)) * 128 := Nat.mul_le_mul h1 (by omega)
  omega
 have grown : ∀ (base : Option Addr) (c : Nat), v = .slice base n c → c < n + m → (Builtin.firstCells i.size n (.slice base n c)).run P w.drew = .ok cs.toArray w.drew → cs.length = n * i.size →
   ∃ v' w', (Builtin.append_ #[st, st] ty #[v, .slice (some ⟨bs, 0, none⟩) m cb]).run P w = .ok v' w' ∧ Own w' lo i.size v' (n + m) (cs ++ new) ∧ Mod w w' (fun i _ => ¬ zao v i) ∧ v'.oneCell' = true ∧ (∀ k, k < w.heap.size → zao v k → zao v' k) := by
  intro base c hv hc hold' hcl
  have hrun := run_append_grow_src (P := P) w st st ty et i z hS.und hi hzero base n c cs hold' (.slice (some ⟨bs, 0, none⟩) m cb) m new hsrc hc (by omega) (fits c hc)
  refine ⟨_, _, by rw [hv]; exact hrun, .inr ⟨w.heap.size, _, rfl, hlo, by rw [zal]; exact Nat.lt_succ_self _, grownCap_ge w (n + m) c et, ?_, ?_, by rw [List.length_append, hcl, hnl, Nat.add_mul]⟩, (Mod.drew w _).trans' (Mod.alloc _ _ _), rfl, fun k hk _ b o s n c e => by injection e with e1 _ _; injection e1 with e2; injection e2 with e3; omega⟩
  ·have ht2 := zbq w.drew ((cs ++ new).toArray ++ Builtin.zeroCells z.cells (grownCap w (n + m) c et - (n + m))) et
   intro j hj
   refine ht2 j ?_
   have hzc : (Builtin.zeroCells z.cells (grownCap w (n + m) c et - (n + m))).size = (grownCap w (n + m) c et - (n + m)) * i.size := by simp [Builtin.zeroCells, hz]
   rw [Array.size_append, hzc, List.size_toArray, List.length_append, hcl, hnl, ← Nat.add_mul, ← Nat.add_mul]
   have hge := grownCap_ge w (n + m) c et
   rwa [show n + m + (grownCap w (n + m) c et - (n + m)) = grownCap w (n + m) c et by omega]
  ·have hr := zz w.drew ((cs ++ new).toArray ++ Builtin.zeroCells z.cells (grownCap w (n + m) c et - (n + m))) et (0, 0)
   exact (zj.1 (by simpa using hr)).1
 rcases ho with ⟨hv, hn0, hcs⟩ | ⟨b, c, hv, hb1, hb2, hnc, hth, hrg, hcl⟩
 ·subst hcs
  exact grown none 0 (by rw [hv, hn0]) (by omega) (by rw [hn0]; rfl) (by rw [hn0]; simp)
 ·by_cases hroom : n + m ≤ c
  ·have hle : n * i.size + new.length ≤ c * i.size := by
    rw [hnl, ← Nat.add_mul]; exact Nat.mul_le_mul_right _ hroom
   have hrun := run_append_room_src (P := P) w st st ty et i hS.und hi b 0 n c (.slice (some ⟨bs, 0, none⟩) m cb) m new hsrc hroom (fun j hj => by
    have := (hth (n * i.size + j) (by omega)).1; simpa [Nat.add_assoc] using this) (fun j hj => by
    have := (hth (n * i.size + j) (by omega)).2; simpa [Nat.add_assoc] using this)
   have ms : Mod w (w.setCells b (0 + n * i.size) new) (rng b (0 + n * i.size) new.length) := Mod.setCells _ _ _ fun _ k h1 h2 => ⟨rfl, h1, h2⟩
   refine ⟨_, _, by rw [hv]; exact hrun, .inr ⟨b, c, rfl, hb1, Nat.lt_of_lt_of_le hb2 ms.size, hroom, ms.there hb2 hth, ?_, by rw [List.length_append, hcl, hnl, Nat.add_mul]⟩, ms.mono (fun k o _ h hn => hn b 0 none n c hv h.1), rfl, fun k hk hn b' o' s' n' c' e => by
    injection e with e1 _ _; injection e1 with e2; injection e2 with e3; subst e3; exact hn b 0 none n c hv⟩
   rw [zj]
   refine ⟨ms.rangeAt hb2 (fun k h1 h2 h => by have := h.2.1; omega) hrg, ?_⟩
   rw [hcl]
   have hset : ∀ (l : List Value) (o : Nat) (w : World), (∀ j, j < l.length → (w.cell? ⟨b, o + j, none⟩).isSome = true) → (w.setCells b o l).rangeAt b o l := by
    intro l o w hl
    have hex : ∃ old : List Value, old.length = l.length ∧ w.rangeAt b o old := by
     refine ⟨(List.range l.length).map fun j => (w.cell? ⟨b, o + j, none⟩).getD undef, by simp, fun j v hj => ?_⟩
     rw [List.getElem?_map] at hj
     cases hr : (List.range l.length)[j]? with
     | none => rw [hr] at hj; simp at hj
     | some k =>
      rw [hr] at hj
      have hk : k = j := by
       have := List.getElem?_eq_some_iff.1 hr
       obtain ⟨h1, h2⟩ := this
       simpa using h2.symm
      subst hk
      have hlt : k < l.length := by have := (List.getElem?_eq_some_iff.1 hr).1; simpa using this
      have hs := hl k hlt
      simp only [Option.map_some, Option.some.injEq] at hj
      cases hc : w.cell? ⟨b, o + k, none⟩ with
      | none => rw [hc] at hs; cases hs
      | some x => rw [hc] at hj; simp at hj; rw [hj]
    obtain ⟨old, ho1, ho2⟩ := hex
    have := zah l o w old ho2 (by omega)
    rwa [List.drop_of_length_le (by omega), List.append_nil] at this
   exact hset new _ w (fun j hj => by have := (hth (n * i.size + j) (by omega)).1; simpa [Nat.add_assoc] using this)
  ·have hfc : (Builtin.firstCells i.size n (.slice (some ⟨b, 0, none⟩) n c)).run P w.drew = .ok cs.toArray w.drew :=
    run_firstCells_some w.drew i.size n ⟨b, 0, none⟩ n c cs hcl (fun j u hj => by rw [Addr.add_mid]; exact hrg j u hj)
   exact grown (some ⟨b, 0, none⟩) c hv (by omega) hfc hcl
end
theorem zos : ∀ (l : List Value) (k : Nat) (arr : Array Value), k + l.length ≤ arr.size →
  ((l.zipIdx k).foldl (fun cs (x : Value × Nat) => cs.setIfInBounds x.2 x.1) arr).toList = arr.toList.take k ++ l ++ arr.toList.drop (k + l.length)
 | [], k, arr, _ => by simp
 | v :: l, k, arr, h => by
  simp only [List.length_cons] at h
  rw [List.zipIdx_cons, List.foldl_cons, zos l (k + 1) _ (by simp; omega)]
  simp only [Array.toList_setIfInBounds, List.length_cons]
  have hk : k < arr.toList.length := by simp; omega
  rw [List.set_eq_take_append_cons_drop, if_pos hk]
  have e1 : (arr.toList.take k ++ v :: arr.toList.drop (k + 1)).take (k + 1) = arr.toList.take k ++ [v] := by
   rw [List.take_append, List.length_take, Nat.min_eq_left (by omega)]
   rw [List.take_of_length_le (by simp; omega)]
   simp
  have e2 : (arr.toList.take k ++ v :: arr.toList.drop (k + 1)).drop (k + 1 + l.length) = arr.toList.drop (k + (l.length + 1)) := by
   rw [List.drop_append, List.length_take, Nat.min_eq_left (by omega)]
   rw [List.drop_of_length_le (by simp; omega)]
   simp only [List.nil_append]
   rw [show k + 1 + l.length - k = l.length + 1 by omega, List.drop_succ_cons, List.drop_drop]
   congr 1; omega
  rw [e1, e2]
  simp
section
variable {P : Program}
theorem zfn {st et : TypeId} {a b sz by' : Nat} {z z' : Value} {d : TypeDesc} (hS : TI P st (.slice et) a b z') (ht : TI P et d sz by' z) {w : World} {v : Value} {cs : List Value} (hv : v.cells = cs.toArray) (hl : cs.length = sz) (h0 : 0 < sz) (hsz : sz ≤ 16777216) :
  (Instr.buildSlice st 1 #[(0, v)]).run P w = .ok (.slice (some ⟨w.heap.size, 0, none⟩) 1 1) (w.alloc (.cells cs.toArray et)) := by
 obtain ⟨i, hi, h1, h2, h3⟩ := ht.info
 refine run_buildSlice w st et 1 _ cs.toArray i z hS.und hi h3 (by omega) (by omega) ?_
 have hsz2 : ((Array.range (1 * i.size)).map (z.cells[· % z.cells.size]!)).size = sz := by simp [h1]
 have hv2 : v.cells.size = sz := by rw [hv]; simpa using hl
 simp only [Instr.fill, h1, hv2, Nat.zero_mul, Nat.zero_add]
 rw [if_neg (by simp [h1] at hsz2 ⊢)]
 congr 1
 apply Array.ext'
 have := zos cs 0 ((Array.range (1 * i.size)).map (z.cells[· % z.cells.size]!)) (by rw [hsz2]; omega)
 rw [h1] at this
 rw [hv]
 have e : cs.toArray.zipIdx = (cs.zipIdx 0).toArray := by simp
 rw [e, List.foldl_toArray]
 rw [this]
 simp
 omega
end
def GN (G : Nat → Prop) (a b : Nat) : Nat → Prop := fun k => G k ∨ (a ≤ k ∧ k < b)
def GX (G : Nat → Prop) (lo : Nat) (w : World) (v : Value) : Nat → Prop := fun k => G k ∨ (lo ≤ k ∧ k < w.heap.size ∧ zao v k)
theorem zep {b : Nat} : ∀ (vs : List Value) (o : Nat) (w : World), (w.setCells b o vs).heap.size = w.heap.size
 | [], _, _ => rfl
 | v :: vs, o, w => by
  show ((w.setCell ⟨b, o, none⟩ v).setCells b (o + 1) vs).heap.size = _
  rw [zep vs (o + 1)]
  simp [World.setCell]
section
variable {P : Program} {N : Nums}
def zT : List Value := [.int .i64 0, .slice none 0 0, .bool false, .slice none 0 0, .slice none 0 0]
def zU : List Value := [.int .u32 0, .slice none 0 0]
theorem zet.ti {tt tg lt lg : TypeId} (h : zet P N tt tg lt lg) : ∃ fs, TI P tt (.struct fs) 5 88 (.agg zT.toArray) := by
 obtain ⟨fs, h, _⟩ := h.tree.out
 exact ⟨fs, h⟩
theorem zet.tu {tt tg lt lg : TypeId} (h : zet P N tt tg lt lg) : ∃ fs, TI P tg (.struct fs) 2 32 (.agg zU.toArray) := by
 obtain ⟨fs, h, _⟩ := h.tag.out
 exact ⟨fs, h⟩
theorem zjr {t : TypeId} {by' : Nat} {z : List Value} {fs : Array Field} (h : TI P t (.struct fs) z.length by' (.agg z.toArray)) (w : World) (cs : List Value) (hl : cs.length = z.length) (h1 : ∀ c ∈ cs, c.oneCell' = true) :
  ∃ w2, (Instr.storeAt t (.pointer (some ⟨w.heap.size, 0, none⟩)) (.agg cs.toArray)).run P (w.alloc (.cells (Value.cells (.agg z.toArray)) t)) = .ok () w2 ∧ Mod w w2 zu ∧ w2.heap.size = w.heap.size + 1 ∧ w2.rangeAt w.heap.size 0 cs ∧ w2.there w.heap.size 0 z.length := by
 obtain ⟨w1, hw1⟩ : ∃ w1, w1 = w.alloc (.cells (Value.cells (.agg z.toArray)) t) := ⟨_, rfl⟩
 have m1 : Mod w w1 zu := by rw [hw1]; exact Mod.alloc _ _ _
 have s1 : w1.heap.size = w.heap.size + 1 := by rw [hw1]; exact zal _ _
 have r1 : w1.rangeAt w.heap.size 0 z := by rw [hw1]; exact zz w z.toArray t (0, 0)
 have t1 : w1.there w.heap.size 0 z.length := by
  have := zbq w z.toArray t
  rw [hw1]
  have e : z.toArray.size = z.length := by simp
  rw [e] at this; exact this
 rw [← hw1]
 refine ⟨_, h.run_store (w := w1) (b := w.heap.size) (o := 0) (v := .agg cs.toArray) (cs := cs) rfl hl t1 h1, ?_, ?_, ?_, ?_⟩
 ·exact m1.fresh (Mod.setCells cs 0 _ fun _ _ _ _ => rfl : Mod w1 _ (blk w.heap.size)) fun k o e => by have : k = w.heap.size := e; omega
 ·rw [zep, s1]
 ·have := zah cs 0 w1 _ r1 (by omega)
  rwa [List.drop_of_length_le (by omega), List.append_nil] at this
 ·exact (Mod.setCells cs 0 _ fun _ _ _ _ => rfl : Mod w1 _ (blk w.heap.size)).there (by omega) t1
theorem Own.stay {w w' : World} {M : Nat → Nat → Prop} (h : Mod w w' M) {lo sz n : Nat} {v : Value} {cs : List Value} (hM : ∀ k o, ¬ zao v k → ¬ M k o) (ho : Own w lo sz v n cs) : Own w' lo sz v n cs := by
 rcases ho with ho | ⟨b, c, e, h1, h2, h3, h4, h5, h6⟩
 ·exact .inl ho
 ·have hb : ¬ zao v b := fun hn => hn b 0 none n c e rfl
  exact .inr ⟨b, c, e, h1, Nat.lt_of_lt_of_le h2 h.size, h3, h.there h2 h4, h.rangeAt h2 (fun i _ _ => hM b i hb) h5, h6⟩
theorem Own.blk {w : World} {lo sz n : Nat} {v : Value} {cs : List Value} (ho : Own w lo sz v n cs) {k : Nat} (hk : ¬ zao v k) : lo ≤ k ∧ k < w.heap.size := by
 rcases ho with ⟨e, _, _⟩ | ⟨b, c, e, h1, h2, _⟩
 ·exact absurd (fun b o s n c e' => by rw [e] at e'; cases e') hk
 ·by_cases hkb : k = b
  ·subst hkb; exact ⟨h1, h2⟩
  ·refine absurd (fun b' o' s' n' c' e' => ?_) hk
   rw [e] at e'
   injection e' with e1 _ _; injection e1 with e2; injection e2 with e3
   intro hh; exact hkb (hh.trans e3.symm)
theorem Own.one {w : World} {lo sz n : Nat} {v : Value} {cs : List Value} (ho : Own w lo sz v n cs) : v.oneCell' = true := by
 rcases ho with ⟨rfl, _, _⟩ | ⟨b, c, rfl, _⟩ <;> rfl
theorem zlg {w w6 w7 w8 w9 : World} {G : Nat → Prop} {lo : Nat} {v v' : Value} {b3 a : Nat}
  (hG : ∀ k, G k → k < b3) (hb3 : b3 < lo) (hlo : lo ≤ w.heap.size) (m6 : Mod w w6 zu) (ha : w.heap.size ≤ a) (m7 : Mod w6 w7 zu) (m8 : Mod w7 w8 fun i _ => ¬ zao v i) (m9 : Mod w8 w9 (fun k _ => k = b3)) (hv : ∀ k, ¬ zao v k → lo ≤ k ∧ k < w.heap.size) (hv' : ∀ k, k < w7.heap.size → zao v k → zao v' k) :
  Mod w w9 (fun k _ => ¬ zao v k ∨ k = b3) ∧ (∀ k, GX G lo w v k → k < w.heap.size ∧ (∀ _o : Nat, ¬ (¬ zao v k ∨ k = b3)) ∧ GX G lo w9 v' k) ∧ Mod w6 w9 (fun k _ => ¬ zao v k ∨ k = b3) ∧ (∀ k, GN G a w6.heap.size k → k < w6.heap.size ∧ (∀ _o : Nat, ¬ (¬ zao v k ∨ k = b3)) ∧ GX G lo w9 v' k) := by
 have s6 := m6.size
 have s7 := m7.size
 have s8 := m8.size
 have s9 := m9.size
 have m69 : Mod w6 w9 (fun k _ => ¬ zao v k ∨ k = b3) := ((m7.mono fun _ _ _ h => h.elim).trans' (m8.mono fun _ _ _ h => .inl h)).trans' (m9.mono fun _ _ _ h => .inr h)
 have nb : ∀ k, k < lo → zao v k := fun k hk => Classical.byContradiction fun h => by have := (hv k h).1; omega
 have nb2 : ∀ k, w.heap.size ≤ k → zao v k := fun k hk => Classical.byContradiction fun h => by have := (hv k h).2; omega
 refine ⟨(m6.mono fun _ _ _ h => h.elim).trans' m69, fun k hk => ?_, m69, fun k hk => ?_⟩
 ·rcases hk with hk | ⟨h1, h2, h3⟩
  ·have := hG k hk
   exact ⟨by omega, fun _ h => h.elim (fun h => h (nb k (by omega))) fun h => by omega, .inl hk⟩
  ·exact ⟨h2, fun _ h => h.elim (fun h => h h3) fun h => by omega, .inr ⟨h1, by omega, hv' k (by omega) h3⟩⟩
 ·rcases hk with hk | ⟨h1, h2⟩
  ·have := hG k hk
   exact ⟨by omega, fun _ h => h.elim (fun h => h (nb k (by omega))) fun h => by omega, .inl hk⟩
  ·exact ⟨h2, fun _ h => h.elim (fun h => h (nb2 k (by omega))) fun h => by omega, .inr ⟨by omega, by omega, hv' k (by omega) (nb2 k (by omega))⟩⟩
end
section
variable {P : Program} {N : Nums}
def GT (P : Program) (N : Nums) (t : Tr) : Prop := ∀ (w : World) (G : Nat → Prop) (cs : List Value), (∀ k, G k → k < w.heap.size) → RepT w G t cs →
 Call P N.zlv #[.agg cs.toArray] w fun v w' => ∃ cs', v = .agg cs'.toArray ∧ RepT w' (GN G w.heap.size w'.heap.size) t cs' ∧ Mod w w' zu
structure G1 (w3 : World) (b1 bR b3 : Nat) (n vs nl vl : Value) (l : List Tr) (G : Nat → Prop) (j : Nat) (σ : Env) (w : World) : Prop where
 f1 : σ 1 = .pointer (some ⟨b1, 0, none⟩)
 f2 : σ 2 = .pointer (some ⟨bR, 0, none⟩)
 f3 : σ 3 = .pointer (some ⟨b3, 0, none⟩)
 f4 : σ 4 = vl
 f5 : σ 5 = .int .i64 l.length
 f6 : σ 6 = .int .i64 j
 le : j ≤ l.length
 mod : Mod w3 w (blk b3)
 ex : ∃ v css, w.rangeAt b3 0 [n, vs, nl, v, .slice none 0 0] ∧ w.there b3 0 5 ∧ Own w w3.heap.size 5 v j css.flatten ∧ zcb w (GX G w3.heap.size w v) (l.take j) css
def cGotL (N : Nums) : C :=
 .seq (.ops [⟨some 0, .indexAddr N.zi (V 4) (V 6), 0, none, []⟩, ⟨some 1, .load N.zp (T 0), 0, none, []⟩, ⟨some (8 + 100), .alloc N.zp, 0, none, []⟩, ⟨none, .store N.zp (V 8) (T 1), 0, none, []⟩])
  (.draw [⟨some 0, .fieldAddr N.zk (V 3) 3, 0, none, []⟩, ⟨some 1, .load N.zab (T 0), 0, none, [0]⟩, ⟨some 2, .load N.zp (V 8), 0, none, []⟩,
   ⟨some 3, .call ⟨.value (.func N.zlv), #[T 2], #[N.zp]⟩, N.zk, none, [2]⟩, ⟨some 4, .buildSlice N.zab 1 #[(0, T 3)], 0, none, [3]⟩,
   ⟨some 5, .call ⟨.builtin .append, #[T 1, T 4], #[N.zab, N.zab]⟩, N.zab, none, [1, 4, 3]⟩,
   ⟨some 6, .fieldAddr N.zk (V 3) 3, 0, none, [0, 1, 2, 3, 4, 5]⟩, ⟨none, .store N.zab (T 6) (T 5), 0, none, [6, 5, 5, 0, 1, 2, 3, 4, 5]⟩])
theorem zcb.ones {w : World} {G : Nat → Prop} : ∀ {l : List Tr} {css : List (List Value)}, zcb w G l css → ∀ c ∈ css.flatten, c.oneCell' = true
 | [], _, h, c, hc => by simp only [zcb] at h; subst h; simp at hc
 | t :: l, _, ⟨c0, r, h1, h2, h3⟩, c, hc => by
  subst h1
  rw [List.flatten_cons, List.mem_append] at hc
  rcases hc with hc | hc
  ·exact h2.one c hc
  ·exact zcb.ones h3 c hc
theorem got_elem (B : Base P N) (F : Fns P N) (hN : N.zlv ≠ 0) (hS : zet P N N.zk N.zbl N.zab N.zv) (hI : zet P N N.zp N.zgi N.zi N.zdp) {loc : List Nat} {N' : Nat} {Q : Exit → Env → World → Prop}
  {w3 w : World} {b1 bR b3 : Nat} {n vs nl vl : Value} {l : List Tr} {G : Nat → Prop} {j : Nat} {σ : Env} (hj : j < l.length) (hll : l.length < 1099511627776) (hb3 : b3 < w3.heap.size) (hG : ∀ k, G k → k < b3)
  (h : G1 w3 b1 bR b3 n vs nl vl l G j σ w) (hsrc : ∃ b c css, vl = .slice (some ⟨b, 0, none⟩) l.length c ∧ G b ∧ zcb w3 G l css ∧ w3.rangeAt b 0 css.flatten) (ih : ∀ x ∈ l, GT P N x)
  (hQ : ∀ σ' w', σ' 6 = .int .i64 j → G1 w3 b1 bR b3 n vs nl vl l G (j + 1) (upd σ' 6 (.int .i64 ((j + 1 : Nat) : Int))) w' → Q .normal σ' w') :
  W P loc N' (cGotL N) Q σ w := by
 obtain ⟨f1, f2, f3, f4, f5, f6, _, mod, v, css, hr, ht, ho, hrep⟩ := h
 obtain ⟨bl, c, css0, rfl, hGb, hrs, hrg⟩ := hsrc
 obtain ⟨fs, hI1⟩ := hI.ti
 obtain ⟨fs', hS1⟩ := hS.ti
 have hx : l[j]? = some l[j] := List.getElem?_eq_getElem hj
 have hmG : ∀ k, G k → k < w3.heap.size ∧ (∀ o, ¬ blk b3 k o) ∧ G k := fun k hk => ⟨by have := hG k hk; omega, fun o e => by have : k = b3 := e; have := hG k hk; omega, hk⟩
 have hrs' := zcb.mod mod hmG l hrs
 have hrg' : w.rangeAt bl 0 css0.flatten := mod.rangeAt (hmG bl hGb).1 (fun i _ _ => (hmG bl hGb).2.1 i) hrg
 obtain ⟨cs, hcs, hxr⟩ := hrs'.get hx
 have hxg := zin hrg' hrs'.len5 hcs
 rw [Nat.zero_add] at hxg
 have hcl : cs.length = 5 := hxr.len
 have hld := hI1.run_load (w := w) (b := bl) (o := j * 5) hxg hcl (fun h => by cases h)
 have hlv : ∀ (f : Array Field) (x : List Value), ldv (.struct f) x = .agg x.toArray := fun _ _ => rfl
 have hsz := mod.size
 obtain ⟨w5, hst, m5, s5, r5, t5⟩ := zjr (z := zT) hI1 w cs (by rw [hcl]; rfl) hxr.one
 unfold cGotL
 refine zc fun K hK => zad fun τ => ?_
 simp +decide (disch := omega) only [bK, bE, Nat.reduceBeqDiff, BEq.rfl, Nat.reduceAdd, Nat.zero_add, f4, f6, zx hI.lt hI1, hld, hlv, hI1.run_alloc, hst]
 refine hK _ _ (zg fun σ5 hσ => ?_)
 have g1 := hσ 1
 have g2 := hσ 2
 have g3 := hσ 3
 have g4 := hσ 4
 have g5 := hσ 5
 have g6 := hσ 6
 have g8 := hσ 8
 simp +decide only [bE, Nat.reduceBeqDiff, BEq.rfl, Nat.reduceAdd, f1, f2, f3, f4, f5, f6] at g1 g2 g3 g4 g5 g6 g8
 clear hσ hK K hst hld
 have md : Mod w w5.drew zu := m5.trans' (Mod.drew _ _)
 have hv : ∀ k, ¬ zao v k → w3.heap.size ≤ k ∧ k < w.heap.size := fun k hk => ho.blk hk
 have hone := ho.one
 have cell3 : w.cell? ⟨b3, 3, none⟩ = some v := hr 3 v rfl
 refine zfv B.mixed [true, true, true, false, false, false, false, false] (by kernel_rfl) (fun w' => w'.cell? ⟨b3, 3, none⟩ = some v ∧ w'.rangeAt w.heap.size 0 cs) ?_ fun τ => ?_
 ·refine ⟨?_, zaf (Mod.drew _ _) r5⟩
  rw [md.cell _ _ (by omega) (fun h => h)]; exact cell3
 have e3 : zcp σ5 τ 103 = .pointer (some ⟨b3, 0, none⟩) := by rw [← g3]; exact envOf_var σ5 τ 3
 have e8 : zcp σ5 τ 108 = .pointer (some ⟨w.heap.size, 0, none⟩) := by rw [← g8]; exact envOf_var σ5 τ 8
 refine za (.pointer (some ⟨b3, 3, none⟩)) (fun w' _ => zh (by
  simp +decide only [ev_tmp, e3, hS.h3.run])) rfl ?_
 refine za v (fun w' hw => zh (by
  simp +decide only [bE, BEq.rfl, ev_tmp, hS.lt.run_load1 rfl, hw.1, ldc_some])) rfl ?_
 refine za (.agg cs.toArray) (fun w' hw => zh (by
  have := hI1.run_load (w := w') (b := w.heap.size) (o := 0) hw.2 hcl (fun h => by cases h)
  simp +decide only [bE, Nat.reduceBeqDiff, Nat.reduceAdd, ev_tmp, g8, this, hlv])) rfl ?_
 simp only [zcs, zcu, List.zip_cons_cons, List.zip_nil_right, List.zipWith_cons_cons, List.zipWith_nil_right, List.filter, Bool.not_true, Bool.not_false, List.map, zdc]
 rw [zak (F.got hN).has]
 simp +decide only [bK, bE, Nat.reduceBeqDiff, BEq.rfl, Nat.reduceAdd]
 have hxr5 : RepT w5.drew G l[j] cs := RepT.stay md _ hxr
 refine (ih l[j] (List.getElem_mem hj) w5.drew G cs (fun k hk => ?_) hxr5).mono ?_
 ·have := hG k hk
  show k < w5.heap.size
  omega
 rintro _ w6 ⟨cs', rfl, hrep6, m6⟩
 have s6 := m6.size
 have s6' : w5.heap.size ≤ w6.heap.size := s6
 have m06 : Mod w w6 zu := md.trans' m6
 have keep : ∀ {w' : World}, Mod w w' zu → w'.cell? ⟨b3, 3, none⟩ = some v ∧ w'.rangeAt w.heap.size 0 cs → True := fun _ _ => trivial
 clear keep
 have c6 : w6.cell? ⟨b3, 3, none⟩ = some v ∧ w6.rangeAt w.heap.size 0 cs :=
  ⟨by rw [m06.cell _ _ (by omega) (fun h => h)]; exact cell3, zaf m6 (zaf (Mod.drew _ _) r5)⟩
 refine ⟨c6, ?_⟩
 have hcl' : cs'.length = 5 := hrep6.len
 have hbs := zfn (w := w6) (v := .agg cs'.toArray) (cs := cs') hS.lt hS1 rfl hcl' (by decide) (by decide)
 have e9 : ∀ ρ : Env, (#[(0, T 3)] : Array (Nat × Operand)).map (fun p => (p.1, ev ρ p.2)) = #[(0, ρ 3)] := fun ρ => by simp
 simp +decide only [bK, bE, BEq.rfl, e9, hbs]
 obtain ⟨w7, hw7⟩ : ∃ w7, w7 = w6.alloc (.cells cs'.toArray N.zk) := ⟨_, rfl⟩
 have m7 : Mod w6 w7 zu := by rw [hw7]; exact Mod.alloc _ _ _
 have s7 : w7.heap.size = w6.heap.size + 1 := by rw [hw7]; exact zal _ _
 have r7 : w7.rangeAt w6.heap.size 0 cs' := by rw [hw7]; exact zz w6 _ _ _
 rw [← hw7]
 clear hw7 hbs
 have m07 : Mod w w7 zu := m06.trans' m7
 have c7 : w7.cell? ⟨b3, 3, none⟩ = some v ∧ w7.rangeAt w.heap.size 0 cs :=
  ⟨by rw [m07.cell _ _ (by omega) (fun h => h)]; exact cell3, zaf m7 c6.2⟩
 refine ⟨c7, ?_⟩
 have ho7 : Own w7 w3.heap.size 5 v j css.flatten := ho.stay m07 fun _ _ _ h => h
 obtain ⟨v', w8, happ, ho8, m8, hone', hnb⟩ := zgb (P := P) (ty := N.zab) (m := 1) (cb := 1) hS.lt hS1 ho7 r7 (by rw [hcl']) hrep6.one (by omega) rfl (zcb.ones hrep) (by omega) (by decide) (by decide)
 simp +decide only [bK, happ]
 clear happ
 have nb3 : ¬ ¬ zao v b3 := fun h => by have := (hv b3 h).1; omega
 have nb8 : ¬ ¬ zao v w.heap.size := fun h => by have := (hv _ h).2; omega
 have c8 : w8.cell? ⟨b3, 3, none⟩ = some v ∧ w8.rangeAt w.heap.size 0 cs :=
  ⟨by rw [m8.cell _ _ (by omega) nb3]; exact c7.1, m8.rangeAt (by omega) (fun _ _ _ => nb8) c7.2⟩
 refine ⟨c8, ?_⟩
 simp +decide only [bK, Nat.zero_add, g3, hS.h3.run]
 refine ⟨c8, ?_⟩
 have s8 := m8.size
 have h8 : w8.there b3 0 5 := m8.there (by omega) (m07.there (by omega) ht)
 have t8 : w8.there b3 3 1 := fun i hi => by
  have := h8 (3 + i) (by omega)
  rwa [show 0 + (3 + i) = 3 + i by omega] at this
 have hsto := hS.lt.run_store1 (w := w8) (b := b3) (o := 3) (v := v') hone' t8
 simp +decide only [bK, hsto]
 obtain ⟨w9, hw9⟩ : ∃ w9, w9 = w8.setCell ⟨b3, 3, none⟩ v' := ⟨_, rfl⟩
 have m9 : Mod w8 w9 fun k _ => k = b3 := by rw [hw9]; exact Mod.setCell fun _ => rfl
 have s9 : w9.heap.size = w8.heap.size := by rw [hw9]; simp [World.setCell]
 have r8 : w8.rangeAt b3 0 [n, vs, nl, v, .slice none 0 0] := m8.rangeAt (by omega) (fun _ _ _ => nb3) (zaf m07 hr)
 have r9 : w9.rangeAt b3 0 [n, vs, nl, v', .slice none 0 0] := by
  have q := zah [v'] 3 w8 [v, .slice none 0 0] ((zj (cs := [n, vs, nl])).1 r8).2 (by simp)
  rw [hw9]
  refine (zj (cs := [n, vs, nl])).2 ⟨?_, q⟩
  exact (Mod.setCell (M := rng b3 3 1) fun _ => ⟨rfl, Nat.le_refl _, by omega⟩ : Mod w8 _ (rng b3 3 1)).rangeAt (by omega) (fun i h1 h2 h => by have := h.2.1; simp at h2; omega) ((zj (cs := [n, vs, nl])).1 r8).1
 rw [← hw9]
 clear hw9 hsto
 obtain ⟨q1, q2, q3, q4⟩ := zlg (w := w) (w6 := w6) (w7 := w7) (w8 := w8) (w9 := w9) (G := G) (lo := w3.heap.size) (v := v) (v' := v') (b3 := b3) (a := w5.heap.size) hG hb3 hsz m06 (by omega) m7 m8 m9 hv hnb
 refine zg (K := fun σ' w' => Q .normal σ' w') fun σ9 hσ => hQ _ _ ?_ ?_
 ·have := hσ 6
  simp +decide only [bE, Nat.reduceBeqDiff, Nat.reduceAdd, g6] at this
  exact this
 ·have p1 := hσ 1
  have p2 := hσ 2
  have p3 := hσ 3
  have p4 := hσ 4
  have p5 := hσ 5
  simp +decide only [bE, Nat.reduceBeqDiff, Nat.reduceAdd, g1, g2, g3, g4, g5] at p1 p2 p3 p4 p5
  refine ⟨by rw [ze (by decide)]; exact p1, by rw [ze (by decide)]; exact p2, by rw [ze (by decide)]; exact p3, by rw [ze (by decide)]; exact p4, by rw [ze (by decide)]; exact p5, upd_same _ _ _, by omega, ?_, v', css ++ [cs'], r9, m9.there (by omega) h8, ?_, ?_⟩
  ·exact mod.trans q1 fun k _ hk h => h.elim id fun h => h.elim (fun h => by have := (hv k h).1; omega) id
  ·have := ho8.stay m9 (fun k o h e => by have : k = b3 := e; have := ho8.blk h; omega)
   simpa using this
  ·rw [List.take_add_one, hx]
   exact (zcb.mod q1 q2 _ hrep).append ⟨cs', [], rfl, RepT.mod q3 q4 _ hrep6, rfl⟩
end
section
variable {P : Program} {N : Nums}
theorem UsG.append {w : World} {G : Nat → Prop} : ∀ {l : List (Nat × List UInt8)} {cs : List Value} {l' : List (Nat × List UInt8)} {cs' : List Value}, UsG w G l cs → UsG w G l' cs' → UsG w G (l ++ l') (cs ++ cs')
 | [], _, _, _, h, h' => by simp only [UsG] at h; subst h; exact h'
 | (k, x) :: l, _, _, _, ⟨v, r, h1, h2, h3⟩, h' => by subst h1; exact ⟨v, r ++ _, rfl, h2, UsG.append h3 h'⟩
theorem UsG.ones {w : World} {G : Nat → Prop} : ∀ {l : List (Nat × List UInt8)} {cs : List Value}, UsG w G l cs → ∀ c ∈ cs, c.oneCell' = true
 | [], _, h, c, hc => by simp only [UsG] at h; subst h; simp at hc
 | (k, x) :: l, _, ⟨v, r, h1, h2, h3⟩, c, hc => by
  subst h1
  rcases List.mem_cons.1 hc with rfl | hc
  ·rfl
  ·rcases List.mem_cons.1 hc with rfl | hc
   ·exact h2.one
   ·exact UsG.ones h3 c hc
structure G2 (w4 : World) (bR b3 : Nat) (n vs nl v1 vu : Value) (u : List (Nat × List UInt8)) (G : Nat → Prop) (j : Nat) (σ : Env) (w : World) : Prop where
 f2 : σ 2 = .pointer (some ⟨bR, 0, none⟩)
 f3 : σ 3 = .pointer (some ⟨b3, 0, none⟩)
 f9 : σ 9 = vu
 f10 : σ 10 = .int .i64 u.length
 f11 : σ 11 = .int .i64 j
 le : j ≤ u.length
 mod : Mod w4 w (blk b3)
 ex : ∃ v cs, w.rangeAt b3 0 [n, vs, nl, v1, v] ∧ w.there b3 0 5 ∧ Own w w4.heap.size 2 v j cs ∧ UsG w (GX G w4.heap.size w v) (u.take j) cs
def cGotU (N : Nums) : C :=
 .seq (.ops [⟨some 0, .indexAddr N.zdp (V 9) (V 11), 0, none, []⟩, ⟨some 1, .load N.zgi (T 0), 0, none, []⟩, ⟨some (13 + 100), .alloc N.zgi, 0, none, []⟩, ⟨none, .store N.zgi (V 13) (T 1), 0, none, []⟩])
  (.ops [⟨some 0, .fieldAddr N.zk (V 3) 4, 0, none, []⟩, ⟨some 1, .load N.zv (T 0), 0, none, []⟩, ⟨some 2, .fieldAddr N.zgi (V 13) 0, 0, none, []⟩, ⟨some 3, .load N.zm (T 2), 0, none, []⟩,
   ⟨some 4, .fieldAddr N.zgi (V 13) 1, 0, none, []⟩, ⟨some 5, .load N.zb (T 4), 0, none, []⟩, ⟨some 6, .build N.zbl #[(0, T 3), (1, T 5)], 0, none, []⟩, ⟨some 7, .buildSlice N.zv 1 #[(0, T 6)], 0, none, []⟩,
   ⟨some 8, .call ⟨.builtin .append, #[T 1, T 7], #[N.zv, N.zv]⟩, N.zv, none, []⟩,
   ⟨some 9, .fieldAddr N.zk (V 3) 4, 0, none, []⟩, ⟨none, .store N.zv (T 9) (T 8), 0, none, []⟩])
theorem UsG.get5 {w : World} {G : Nat → Prop} : ∀ {u : List (Nat × List UInt8)} {cs : List Value} {j : Nat} {x : Nat × List UInt8}, UsG w G u cs → u[j]? = some x → ∃ v, cs[j * 2]? = some (.int .u32 x.1) ∧ cs[j * 2 + 1]? = some v ∧ tagV w G v x.2
 | [], _, j, x, _, hj => by simp at hj
 | (k, l) :: u, _, 0, x, ⟨v, r, h1, h2, h3⟩, hj => by subst h1; simp at hj; subst hj; exact ⟨v, rfl, rfl, h2⟩
 | (k, l) :: u, _, j + 1, x, ⟨v, r, h1, h2, h3⟩, hj => by
  subst h1
  obtain ⟨v', g1, g2, g3⟩ := UsG.get5 h3 (by simpa using hj)
  refine ⟨v', ?_, ?_, g3⟩
  ·rw [show (j + 1) * 2 = j * 2 + 1 + 1 by omega]; simpa using g1
  ·rw [show (j + 1) * 2 + 1 = j * 2 + 1 + 1 + 1 by omega]; simpa using g2
theorem tagBuild {tt tg lt lg : TypeId} (h : zet P N tt tg lt lg) (w : World) (k : Nat) {v : Value} (hv : v.oneCell' = true) : (Instr.build tg #[(0, .int .u32 k), (1, v)]).run P w = .ok (.agg #[.int .u32 k, v]) w :=
 h.tag.run_build (by simp [Instr.fill, zbt hv, zbt (show (Value.int .u32 k).oneCell' = true from rfl)])
theorem got_tag (B : Base P N) (hS : zet P N N.zk N.zbl N.zab N.zv) (hI : zet P N N.zp N.zgi N.zi N.zdp) {loc : List Nat} {N' : Nat} {Q : Exit → Env → World → Prop}
  {w4 w : World} {bR b3 : Nat} {n vs nl v1 vu : Value} {u : List (Nat × List UInt8)} {G : Nat → Prop} {j : Nat} {σ : Env} (hj : j < u.length) (hll : u.length < 1099511627776) (hb3 : b3 < w4.heap.size) (hG : ∀ k, G k → k < b3)
  (h : G2 w4 bR b3 n vs nl v1 vu u G j σ w) (hsrc : RepU w4 G vu u)
  (hQ : ∀ σ' w', σ' 11 = .int .i64 j → G2 w4 bR b3 n vs nl v1 vu u G (j + 1) (upd σ' 11 (.int .i64 ((j + 1 : Nat) : Int))) w' → Q .normal σ' w') :
  W P loc N' (cGotU N) Q σ w := by
 obtain ⟨f2, f3, f9, f10, f11, _, mod, v, cs0, hr, ht, ho, hrep⟩ := h
 have hx : u[j]? = some u[j] := List.getElem?_eq_getElem hj
 obtain ⟨fs, hI1⟩ := hI.tu
 obtain ⟨fs', hS1⟩ := hS.tu
 have hmG : ∀ k, G k → k < w4.heap.size ∧ (∀ o, ¬ blk b3 k o) ∧ G k := fun k hk => ⟨by have := hG k hk; omega, fun o e => by have : k = b3 := e; have := hG k hk; omega, hk⟩
 have hsrc' := hsrc.mod mod hmG
 rcases hsrc' with ⟨_, h0⟩ | ⟨bl, c, cs, rfl, _, _, hus, hrg⟩
 ·rw [h0] at hj; simp at hj
 obtain ⟨tv, hk1, hk2, htv⟩ := hus.get5 hx
 have hxg : w.rangeAt bl (j * 2) [.int .u32 (u[j]).1, tv] := by
  have a := hrg _ _ hk1
  have b := hrg _ _ hk2
  rw [Nat.zero_add] at a b
  intro i x hi
  match i, hi with
  | 0, hi => simp at hi; subst hi; exact a
  | 1, hi => simp at hi; subst hi; exact b
  | i + 2, hi => simp at hi
 have hld := hI1.run_load (w := w) (b := bl) (o := j * 2) hxg rfl (fun h => by cases h)
 have hlv : ∀ (f : Array Field) (x : List Value), ldv (.struct f) x = .agg x.toArray := fun _ _ => rfl
 have hsz := mod.size
 have hone2 : ∀ c ∈ [Value.int .u32 (u[j]).1, tv], c.oneCell' = true := fun c hc => by
  simp at hc; rcases hc with rfl | rfl
  ·rfl
  ·exact htv.one
 obtain ⟨w5, hst, m5, s5, r5, t5⟩ := zjr (z := zU) hI1 w [.int .u32 (u[j]).1, tv] rfl hone2
 unfold cGotU
 refine zc fun K hK => zad fun τ => ?_
 simp +decide (disch := omega) only [bK, bE, Nat.reduceBeqDiff, BEq.rfl, Nat.reduceAdd, Nat.zero_add, f9, f11, zx hI.lg hI1, hld, hlv, hI1.run_alloc, hst]
 refine hK _ _ (zg fun σ5 hσ => ?_)
 have g2 := hσ 2
 have g3 := hσ 3
 have g9 := hσ 9
 have g10 := hσ 10
 have g11 := hσ 11
 have g13 := hσ 13
 simp +decide only [bE, Nat.reduceBeqDiff, BEq.rfl, Nat.reduceAdd, f2, f3, f9, f10, f11] at g2 g3 g9 g10 g11 g13
 clear hσ hK K hst hld
 have hv : ∀ k, ¬ zao v k → w4.heap.size ≤ k ∧ k < w.heap.size := fun k hk => ho.blk hk
 have cell4 : w5.cell? ⟨b3, 4, none⟩ = some v := by rw [m5.cell _ _ (by omega) (fun h => h)]; exact hr 4 v rfl
 have d0 : w5.cell? ⟨w.heap.size, 0, none⟩ = some (.int .u32 (u[j]).1) := r5 0 _ rfl
 have d1 : w5.cell? ⟨w.heap.size, 1, none⟩ = some tv := r5 1 _ rfl
 have hbu := tagBuild hS w5 (u[j]).1 htv.one
 have hbs := zfn (w := w5) (v := .agg #[.int .u32 (u[j]).1, tv]) (cs := [.int .u32 (u[j]).1, tv]) hS.lg hS1 rfl rfl (by decide) (by decide)
 have e6 : ∀ ρ : Env, (#[(0, T 3), (1, T 5)] : Array (Nat × Operand)).map (fun p => (p.1, ev ρ p.2)) = #[(0, ρ 3), (1, ρ 5)] := fun ρ => by simp
 have e7 : ∀ ρ : Env, (#[(0, T 6)] : Array (Nat × Operand)).map (fun p => (p.1, ev ρ p.2)) = #[(0, ρ 6)] := fun ρ => by simp
 refine zad fun τ => ?_
 simp +decide (disch := omega) only [bK, bE, Nat.reduceBeqDiff, BEq.rfl, Nat.reduceAdd, Nat.add_zero, Nat.zero_add, g3, g13, hS.h4.run, hS.lg.run_load1 rfl, cell4, hI.g0.run, hI.g1.run, B.uint32.run_load1 rfl, B.Lu8.run_load1 rfl, d0, d1, e6, e7, hbu, hbs]
 obtain ⟨w7, hw7⟩ : ∃ w7, w7 = w5.alloc (.cells [Value.int .u32 (u[j]).1, tv].toArray N.zbl) := ⟨_, rfl⟩
 have m7 : Mod w5 w7 zu := by rw [hw7]; exact Mod.alloc _ _ _
 have s7 : w7.heap.size = w5.heap.size + 1 := by rw [hw7]; exact zal _ _
 have r7 : w7.rangeAt w5.heap.size 0 [.int .u32 (u[j]).1, tv] := by rw [hw7]; exact zz w5 _ _ _
 rw [← hw7]
 clear hw7 hbs
 have m07 : Mod w w7 zu := m5.trans' m7
 have ho7 : Own w7 w4.heap.size 2 v j cs0 := ho.stay m07 fun _ _ _ h => h
 obtain ⟨v', w8, happ, ho8, m8, hone', hnb⟩ := zgb (P := P) (ty := N.zv) (m := 1) (cb := 1) hS.lg hS1 ho7 r7 rfl hone2 (by omega) rfl hrep.ones (by omega) (by decide) (by decide)
 have s8 := m8.size
 have nb3 : ¬ ¬ zao v b3 := fun h => by have := (hv b3 h).1; omega
 have h8 : w8.there b3 0 5 := m8.there (by omega) (m07.there (by omega) ht)
 have t8 : w8.there b3 4 1 := fun i hi => by
  have := h8 (4 + i) (by omega)
  rwa [show 0 + (4 + i) = 4 + i by omega] at this
 have hsto := hS.lg.run_store1 (w := w8) (b := b3) (o := 4) (v := v') hone' t8
 simp +decide only [bK, happ, hsto]
 clear happ
 obtain ⟨w9, hw9⟩ : ∃ w9, w9 = w8.setCell ⟨b3, 4, none⟩ v' := ⟨_, rfl⟩
 have m9 : Mod w8 w9 fun k _ => k = b3 := by rw [hw9]; exact Mod.setCell fun _ => rfl
 have s9 : w9.heap.size = w8.heap.size := by rw [hw9]; simp [World.setCell]
 have r8 : w8.rangeAt b3 0 [n, vs, nl, v1, v] := m8.rangeAt (by omega) (fun _ _ _ => nb3) (zaf m07 hr)
 have r9 : w9.rangeAt b3 0 [n, vs, nl, v1, v'] := by
  have q := zah [v'] 4 w8 [v] ((zj (cs := [n, vs, nl, v1])).1 r8).2 (by simp)
  rw [hw9]
  refine (zj (cs := [n, vs, nl, v1])).2 ⟨?_, q⟩
  exact (Mod.setCell (M := rng b3 4 1) fun _ => ⟨rfl, Nat.le_refl _, by omega⟩ : Mod w8 _ (rng b3 4 1)).rangeAt (by omega) (fun i h1 h2 h => by have := h.2.1; simp at h2; omega) ((zj (cs := [n, vs, nl, v1])).1 r8).1
 rw [← hw9]
 clear hw9 hsto
 obtain ⟨q1, q2, q3, q4⟩ := zlg (w := w) (w6 := w5) (w7 := w7) (w8 := w8) (w9 := w9) (G := G) (lo := w4.heap.size) (v := v) (v' := v') (b3 := b3) (a := w5.heap.size) hG hb3 hsz m5 (by omega) m7 m8 m9 hv hnb
 refine zg (K := fun σ' w' => Q .normal σ' w') fun σ9 hσ => hQ _ _ ?_ ?_
 ·have := hσ 11
  simp +decide only [bE, Nat.reduceBeqDiff, Nat.reduceAdd, g11] at this
  exact this
 ·have p2 := hσ 2
  have p3 := hσ 3
  have p9 := hσ 9
  have p10 := hσ 10
  simp +decide only [bE, Nat.reduceBeqDiff, Nat.reduceAdd, g2, g3, g9, g10] at p2 p3 p9 p10
  refine ⟨by rw [ze (by decide)]; exact p2, by rw [ze (by decide)]; exact p3, by rw [ze (by decide)]; exact p9, by rw [ze (by decide)]; exact p10, upd_same _ _ _, by omega, ?_, v', cs0 ++ [.int .u32 (u[j]).1, tv], r9, m9.there (by omega) h8, ?_, ?_⟩
  ·exact mod.trans q1 fun k _ hk h => h.elim id fun h => h.elim (fun h => by have := (hv k h).1; omega) id
  ·exact ho8.stay m9 (fun k o h e => by have : k = b3 := e; have := ho8.blk h; omega)
  ·rw [List.take_add_one, hx]
   have htv5 : tagV w5 (GN G w5.heap.size w5.heap.size) tv (u[j]).2 := (htv.mod m5 fun k hk => ⟨by have := hG k hk; omega, fun _ h => h, .inl hk⟩)
   exact (UsG.mod q1 q2 hrep).append ⟨tv, [], rfl, htv5.mod q3 q4, rfl⟩
end
section
variable {P : Program} {N : Nums}
theorem UsG.mono {w : World} {G G' : Nat → Prop} (hG : ∀ k, G k → G' k) : ∀ {u : List (Nat × List UInt8)} {cs : List Value}, UsG w G u cs → UsG w G' u cs
 | [], _, hu => hu
 | (k, l) :: r, _, ⟨v, rest, h1, h2, h3⟩ => ⟨v, rest, h1, h2.imp (fun x => ⟨x.1, x.2⟩) (fun x => x.mono hG), UsG.mono hG h3⟩
theorem RepU.mono {w : World} {G G' : Nat → Prop} (hG : ∀ k, G k → G' k) {v : Value} {u : List (Nat × List UInt8)} (hu : RepU w G v u) : RepU w G' v u :=
 hu.imp id fun ⟨b, c, cs, h1, h2, h3, h4, h5⟩ => ⟨b, c, cs, h1, h2, fun h => hG b (h3 h), h4.mono hG, h5⟩
mutual
theorem RepT.mono {w : World} {G G' : Nat → Prop} (hG : ∀ k, G k → G' k) : ∀ (t : Tr) {cs : List Value}, RepT w G t cs → RepT w G' t cs
 | .mk n s nl l u, _, ⟨vs, vl, vu, h1, h2, h3, h4⟩ => ⟨vs, vl, vu, h1, h2.imp (fun x => ⟨x.1, x.2⟩) (fun x => x.mono hG), h3.imp id fun ⟨b, c, css, g1, g2, g3, g4, g5⟩ => ⟨b, c, css, g1, g2, fun h => hG b (g3 h), zcb.mono hG l g4, g5⟩, h4.mono hG⟩
theorem zcb.mono {w : World} {G G' : Nat → Prop} (hG : ∀ k, G k → G' k) : ∀ (l : List Tr) {css : List (List Value)}, zcb w G l css → zcb w G' l css
 | [], _, hr => hr
 | t :: l, _, ⟨c, r, h1, h2, h3⟩ => ⟨c, r, h1, RepT.mono hG t h2, zcb.mono hG l h3⟩
end
theorem treeBuild {tt tg lt lg : TypeId} (h : zet P N tt tg lt lg) (w : World) {n vs nl : Value} (h0 : n.oneCell' = true) (h1 : vs.oneCell' = true) (h2 : nl.oneCell' = true) : (Instr.build tt #[(0, n), (1, vs), (2, nl)]).run P w = .ok (.agg [n, vs, nl, .slice none 0 0, .slice none 0 0].toArray) w :=
 h.tree.run_build (by simp [Instr.fill, zbt h0, zbt h1, zbt h2])
theorem got_step (B : Base P N) (F : Fns P N) (hN : N.zlv ≠ 0) (hS : zet P N N.zk N.zbl N.zab N.zv) (hI : zet P N N.zp N.zgi N.zi N.zdp)
  {n : Int} {s : List UInt8} {nl : Bool} {l : List Tr} {u : List (Nat × List UInt8)} (hll : l.length < 1099511627776) (hul : u.length < 1099511627776) (ih : ∀ x ∈ l, GT P N x) : GT P N (.mk n s nl l u) := by
 intro w G cs hG hrep
 simp only [RepT] at hrep
 obtain ⟨vs, vl, vu, rfl, a1, a2, a3⟩ := hrep
 obtain ⟨fs, hI1⟩ := hI.ti
 obtain ⟨fs', hS1⟩ := hS.ti
 have e2 : vl.oneCell' = true := by rcases a2 with ⟨rfl, _⟩ | ⟨b, c, css, rfl, _⟩ <;> rfl
 have e3 : vu.oneCell' = true := by rcases a3 with ⟨rfl, _⟩ | ⟨b, c, css, rfl, _⟩ <;> rfl
 refine (F.got hN).call rfl fun loc N' hlo => ?_
 unfold c_got
 refine zc fun K hK => zad fun τ => ?_
 simp +decide only [bK, bE, Nat.reduceAdd, Nat.zero_add, hS1.run_alloc]
 obtain ⟨w1, hw1⟩ : ∃ w1, w1 = w.alloc (.cells (Value.cells (.agg [.int .i64 n, vs, .bool nl, vl, vu].toArray)) N.zp) := ⟨_, rfl⟩
 have m1 : Mod w w1 zu := by rw [hw1]; exact Mod.alloc _ _ _
 have s1 : w1.heap.size = w.heap.size + 1 := by rw [hw1]; exact zal _ _
 have r1 : w1.rangeAt w.heap.size 0 [.int .i64 n, vs, .bool nl, vl, vu] := by rw [hw1]; exact zz w _ _ _
 rw [← hw1]
 clear hw1
 obtain ⟨w2, hw2⟩ : ∃ w2, w2 = w1.alloc (.cells (Value.cells (.agg zT.toArray)) N.zk) := ⟨_, rfl⟩
 have m2 : Mod w1 w2 zu := by rw [hw2]; exact Mod.alloc _ _ _
 have s2 : w2.heap.size = w1.heap.size + 1 := by rw [hw2]; exact zal _ _
 have r2 : w2.rangeAt w1.heap.size 0 zT := by rw [hw2]; exact zz w1 _ _ _
 have t2 : w2.there w1.heap.size 0 5 := by rw [hw2]; exact zbq w1 _ _
 rw [← hw2]
 clear hw2
 have m02 : Mod w w2 zu := m1.trans' m2
 obtain ⟨b1, hb1⟩ : ∃ b, b = w.heap.size := ⟨_, rfl⟩
 obtain ⟨bR, hbR⟩ : ∃ b, b = w1.heap.size := ⟨_, rfl⟩
 obtain ⟨b3, hb3⟩ : ∃ b, b = w2.heap.size := ⟨_, rfl⟩
 rw [← hb1] at r1 ⊢
 rw [← hbR] at r2 t2 ⊢
 have r1' := zaf m2 r1
 refine hK _ _ (zg fun σ hσ => ?_)
 have f1 := hσ 1
 have f2 := hσ 2
 simp +decide only [bE, Nat.reduceBeqDiff, BEq.rfl, Nat.reduceAdd] at f1 f2
 clear hσ hK K r1 m1 m2
 have x0 : w2.cell? ⟨b1, 0, none⟩ = some (.int .i64 n) := r1' 0 _ rfl
 have x1 : w2.cell? ⟨b1, 1, none⟩ = some vs := r1' 1 _ rfl
 have x2 : w2.cell? ⟨b1, 2, none⟩ = some (.bool nl) := r1' 2 _ rfl
 have hbu := treeBuild hS w2 (n := .int .i64 n) (vs := vs) (nl := .bool nl) rfl a1.one rfl
 have e6 : ∀ ρ : Env, (#[(0, T 1), (1, T 3), (2, T 5)] : Array (Nat × Operand)).map (fun p => (p.1, ev ρ p.2)) = #[(0, ρ 1), (1, ρ 3), (2, ρ 5)] := fun ρ => by simp
 obtain ⟨w3, hst, m3, s3, r3, t3⟩ := zjr (z := zT) hS1 w2 [.int .i64 n, vs, .bool nl, .slice none 0 0, .slice none 0 0] rfl (fun c hc => by
  simp at hc; rcases hc with rfl | rfl | rfl | rfl
  ·rfl
  ·exact a1.one
  ·rfl
  ·rfl)
 rw [← hb3] at r3 t3 hst
 refine zc fun K hK => zad fun τ => ?_
 simp +decide only [bK, bE, Nat.reduceBeqDiff, BEq.rfl, Nat.reduceAdd, Nat.add_zero, Nat.zero_add, f1, hI.h0.run, hI.h1.run, hI.h2.run, B.int64.run_load1 rfl, B.Lu8.run_load1 rfl, B.bool.run_load1 rfl, x0, x1, x2, e6, hbu, hS1.run_alloc, ← hb3, hst]
 refine hK _ _ (zg fun σ3 hσ => ?_)
 have g1 := hσ 1
 have g2 := hσ 2
 have g3 := hσ 3
 simp +decide only [bE, Nat.reduceBeqDiff, BEq.rfl, Nat.reduceAdd, f1, f2] at g1 g2 g3
 clear hσ hK K hst hbu
 have r13 := zaf m3 r1'
 have y3 : w3.cell? ⟨b1, 3, none⟩ = some vl := r13 3 _ rfl
 have hl1 : (vl = .slice none 0 0 ∧ l.length = 0) ∨ ∃ b c, vl = .slice (some ⟨b, 0, none⟩) l.length c := a2.imp (fun h => ⟨h.1, by rw [h.2]; rfl⟩) fun ⟨b, c, _, h, _⟩ => ⟨b, c, h⟩
 have hu1 : (vu = .slice none 0 0 ∧ u.length = 0) ∨ ∃ b c, vu = .slice (some ⟨b, 0, none⟩) u.length c := a3.imp (fun h => ⟨h.1, by rw [h.2]; rfl⟩) fun ⟨b, c, _, h, _⟩ => ⟨b, c, h⟩
 have m03 : Mod w w3 zu := m02.trans' m3
 have hGb : ∀ k, G k → k < b3 := fun k hk => by have := hG k hk; omega
 refine zc fun K hK => zc fun K1 hK1 => zad fun τ => ?_
 simp +decide only [bK, bE, BEq.rfl, Nat.reduceAdd, Nat.zero_add, g1, hI.h3.run, hI.lt.run_load1 rfl, y3, zke hI.lt hl1]
 refine hK1 _ _ (zg fun σ4 hσ => ?_)
 have p1 := hσ 1
 have p2 := hσ 2
 have p3 := hσ 3
 have p4 := hσ 4
 have p5 := hσ 5
 have p6 := hσ 6
 simp +decide only [bE, Nat.reduceBeqDiff, BEq.rfl, Nat.reduceAdd, g1, g2, g3] at p1 p2 p3 p4 p5 p6
 clear hσ hK1 K1
 refine zhp (i := 6) (l := 5) (c := 7) (k := 0) hlo (L := l.length) (by omega) (G1 w3 b1 bR b3 (.int .i64 n) vs (.bool nl) vl l G) (fun j σ w h => ⟨h.f6, h.f5, h.le⟩) (fun j σ w b h => ?_) ?_ (fun σ5 w5 h => hK _ _ ?_) (fun j σ' w' hj h => ?_)
 ·exact ⟨by rw [ze (by decide)]; exact h.f1, by rw [ze (by decide)]; exact h.f2, by rw [ze (by decide)]; exact h.f3, by rw [ze (by decide)]; exact h.f4, by rw [ze (by decide)]; exact h.f5, by rw [ze (by decide)]; exact h.f6, h.le, h.mod, h.ex⟩
 ·exact ⟨p1, p2, p3, p4, p5, p6, Nat.zero_le _, .refl _ _, .slice none 0 0, [], r3, t3, .inl ⟨rfl, rfl, rfl⟩, by simp only [List.take_zero, zcb]⟩
 ·
  clear hK K
  obtain ⟨h1, h2, h3, _, _, _, _, hmod, v1, css, hr5, ht5, ho5, hrep5⟩ := h
  rw [List.take_length] at hrep5
  have m05 : Mod w w5 zu := m03.fresh hmod fun k o e => by have : k = b3 := e; omega
  have s5 := hmod.size
  have y4 : w5.cell? ⟨b1, 4, none⟩ = some vu := by
   rw [hmod.cell _ _ (by omega) (fun h => by have : b1 = b3 := h; omega)]; exact r13 4 _ rfl
  refine zc fun K hK => zc fun K1 hK1 => zad fun τ => ?_
  simp +decide only [bK, bE, BEq.rfl, Nat.reduceAdd, Nat.zero_add, h1, hI.h4.run, hI.lg.run_load1 rfl, y4, zke hI.lg hu1]
  refine hK1 _ _ (zg fun σ6 hσ => ?_)
  have q2 := hσ 2
  have q3 := hσ 3
  have q9 := hσ 9
  have q10 := hσ 10
  have q11 := hσ 11
  simp +decide only [bE, Nat.reduceBeqDiff, BEq.rfl, Nat.reduceAdd, h2, h3] at q2 q3 q9 q10 q11
  clear hσ hK1 K1
  refine zhp (i := 11) (l := 10) (c := 12) (k := 2) hlo (L := u.length) (by omega) (G2 w5 bR b3 (.int .i64 n) vs (.bool nl) v1 vu u G) (fun j σ w h => ⟨h.f11, h.f10, h.le⟩) (fun j σ w b h => ?_) ?_ (fun σ7 w7 h => hK _ _ ?_) (fun j σ' w' hj h => ?_)
  ·exact ⟨by rw [ze (by decide)]; exact h.f2, by rw [ze (by decide)]; exact h.f3, by rw [ze (by decide)]; exact h.f9, by rw [ze (by decide)]; exact h.f10, by rw [ze (by decide)]; exact h.f11, h.le, h.mod, h.ex⟩
  ·exact ⟨q2, q3, q9, q10, q11, Nat.zero_le _, .refl _ _, .slice none 0 0, [], hr5, ht5, .inl ⟨rfl, rfl, rfl⟩, by simp only [List.take_zero, UsG]⟩
  ·
   clear hK K
   obtain ⟨k2, k3, _, _, _, _, hmod7, v2, cs2, hr7, ht7, ho7, hrep7⟩ := h
   rw [List.take_length] at hrep7
   have s7 := hmod7.size
   have m07 : Mod w w7 zu := m05.fresh hmod7 fun k o e => by have : k = b3 := e; omega
   have hld := hS1.run_load (w := w7) (b := b3) (o := 0) hr7 rfl (fun h => by cases h)
   have hlv : ∀ (f : Array Field) (x : List Value), ldv (.struct f) x = .agg x.toArray := fun _ _ => rfl
   have ones : ∀ c ∈ [Value.int .i64 n, vs, .bool nl, v1, v2], c.oneCell' = true := fun c hc => by
    simp at hc; rcases hc with rfl | rfl | rfl | rfl | rfl
    ·rfl
    ·exact a1.one
    ·rfl
    ·exact ho5.one
    ·exact ho7.one
   have m27 : Mod w2 w7 (blk b3) := (m3.mono fun _ _ _ h => h.elim).trans' (hmod.trans' hmod7)
   have rR : w7.rangeAt bR 0 zT := m27.rangeAt (by omega) (fun _ _ _ e => by have : bR = b3 := e; omega) r2
   have tR : w7.there bR 0 5 := m27.there (by omega) t2
   have hst := hS1.run_store (w := w7) (b := bR) (o := 0) (v := .agg [Value.int .i64 n, vs, .bool nl, v1, v2].toArray) (cs := [Value.int .i64 n, vs, .bool nl, v1, v2]) rfl rfl tR ones
   refine zc fun K hK => zad fun τ => ?_
   simp +decide only [bK, bE, Nat.reduceBeqDiff, BEq.rfl, Nat.reduceAdd, k2, k3, hld, hlv, hst]
   obtain ⟨w8, hw8⟩ : ∃ w8, w8 = w7.setCells bR 0 [Value.int .i64 n, vs, .bool nl, v1, v2] := ⟨_, rfl⟩
   have m8 : Mod w7 w8 (blk bR) := by rw [hw8]; exact Mod.setCells _ 0 _ fun _ _ _ _ => rfl
   have r8 : w8.rangeAt bR 0 [Value.int .i64 n, vs, .bool nl, v1, v2] := by
    have := zah [Value.int .i64 n, vs, .bool nl, v1, v2] 0 w7 _ rR (by simp [zT])
    rw [hw8]; simpa [zT] using this
   have s8 : w8.heap.size = w7.heap.size := by rw [hw8]; exact zep _ _ _
   rw [← hw8]
   clear hw8 hst hld
   have m08 : Mod w w8 zu := m07.fresh m8 fun k o e => by have : k = bR := e; omega
   refine hK _ _ (zg fun σ8 hσ => zcf ⟨.inr rfl, .agg [Value.int .i64 n, vs, .bool nl, v1, v2].toArray, ⟨⟨bR, 0, none⟩, ?_, ?_⟩, [Value.int .i64 n, vs, .bool nl, v1, v2], rfl, ?_, m08⟩)
   ·have := hσ 2
    simp +decide only [bE, Nat.reduceBeqDiff, Nat.reduceAdd, k2] at this
    exact this
   ·have hl2 := hS1.run_load (w := w8) (b := bR) (o := 0) r8 rfl (fun h => by cases h)
    simpa [Instr.loadAt, Instr.sureAddr, Sem.run_bind, hlv] using hl2
   ·
    have hl8 : zcb w8 (GN G w.heap.size w8.heap.size) l css ∧ w8.rangeAt b3 0 [] := by
     refine ⟨?_, fun j v hj => by simp at hj⟩
     have h7 : zcb w7 (GX G w3.heap.size w5 v1) l css := by
      refine zcb.mod hmod7 (fun k hk => ⟨?_, fun o e => ?_, hk⟩) l hrep5
      ·rcases hk with hk | hk
       ·have := hGb k hk; omega
       ·exact hk.2.1
      ·have e : k = b3 := e
       rcases hk with hk | hk
       ·have := hGb k hk; omega
       ·have := hk.1; omega
     refine zcb.mod m8 (fun k hk => ⟨?_, fun o e => ?_, ?_⟩) l h7
     ·rcases hk with hk | hk
      ·have := hGb k hk; omega
      ·have := hk.2.1; omega
     ·have e : k = bR := e
      rcases hk with hk | hk
      ·have := hG k hk; omega
      ·have := hk.1; omega
     ·rcases hk with hk | hk
      ·exact .inl hk
      ·exact .inr ⟨by have := hk.1; omega, by have := hk.2.1; omega⟩
    have keep : ∀ {b : Nat} {cs : List Value}, w3.heap.size ≤ b → b < w7.heap.size → w7.rangeAt b 0 cs → w8.rangeAt b 0 cs := fun h1 h2 hr => m8.rangeAt h2 (fun _ _ _ e => by have e : _ = bR := e; omega) hr
    simp only [RepT]
    refine ⟨vs, v1, v2, rfl, a1.mod m08 fun k hk => ⟨hG k hk, fun _ h => h, .inl hk⟩, ?_, ?_⟩
    ·rcases ho5 with ⟨e1, e2, e3⟩ | ⟨b, c, e1, c1, c2, c3, c4, c5, c6⟩
     ·exact .inl ⟨e1, List.length_eq_zero_iff.1 e2⟩
     ·refine .inr ⟨b, c, css, e1, c3, fun _ => .inr ⟨by omega, by omega⟩, hl8.1, keep c1 (by omega) (hmod7.rangeAt c2 (fun _ _ _ e => by have e : b = b3 := e; omega) c5)⟩
    ·rcases ho7 with ⟨e1, e2, e3⟩ | ⟨b, c, e1, c1, c2, c3, c4, c5, c6⟩
     ·exact .inl ⟨e1, List.length_eq_zero_iff.1 e2⟩
     ·refine .inr ⟨b, c, cs2, e1, c3, fun _ => .inr ⟨by omega, by omega⟩, hrep7.mod m8 fun k hk => ⟨?_, fun o e => ?_, ?_⟩, keep (by omega) (by omega) c5⟩
      ·rcases hk with hk | hk
       ·have := hGb k hk; omega
       ·have := hk.2.1; omega
      ·have e : k = bR := e
       rcases hk with hk | hk
       ·have := hG k hk; omega
       ·have := hk.1; omega
      ·rcases hk with hk | hk
       ·exact .inl hk
       ·exact .inr ⟨by have := hk.1; omega, by have := hk.2.1; omega⟩
  ·refine got_tag B hS hI hj hul (by omega) hGb h (a3.mod m05 fun k hk => ⟨hG k hk, fun _ h => h, hk⟩) fun σ' w' h1 h2 => ⟨h1, h2⟩
 ·have hsrc : ∃ b c css, vl = .slice (some ⟨b, 0, none⟩) l.length c ∧ G b ∧ zcb w3 G l css ∧ w3.rangeAt b 0 css.flatten := by
   rcases a2 with ⟨_, h0⟩ | ⟨b, c, css, h1, h2, h3, h4, h5⟩
   ·rw [h0] at hj; simp at hj
   ·exact ⟨b, c, css, h1, h3 (by intro e; rw [e] at hj; simp at hj), zcb.mod m03 (fun k hk => ⟨hG k hk, fun _ h => h, hk⟩) l h4, zaf m03 h5⟩
  exact got_elem B F hN hS hI hj hll (by omega) hGb h hsrc ih fun σ' w' h1 h2 => ⟨h1, h2⟩
def shortT : Tr → Prop
 | .mk _ _ _ l u => l.length < 1099511627776 ∧ u.length < 1099511627776
mutual
def okS : Tr → Prop
 | .mk n s nl l u => shortT (.mk n s nl l u) ∧ okSs l
def okSs : List Tr → Prop
 | [] => True
 | t :: l => okS t ∧ okSs l
end
mutual
theorem gotT (B : Base P N) (F : Fns P N) (hN : N.zlv ≠ 0) (hS : zet P N N.zk N.zbl N.zab N.zv) (hI : zet P N N.zp N.zgi N.zi N.zdp) : ∀ (t : Tr), okS t → GT P N t
 | .mk n s nl l u, h => got_step B F hN hS hI h.1.1 h.1.2 (gotTs B F hN hS hI l h.2)
theorem gotTs (B : Base P N) (F : Fns P N) (hN : N.zlv ≠ 0) (hS : zet P N N.zk N.zbl N.zab N.zv) (hI : zet P N N.zp N.zgi N.zi N.zdp) : ∀ (l : List Tr), okSs l → ∀ x ∈ l, GT P N x
 | [], _, x, hx => by simp at hx
 | t :: l, h, x, hx => by
  rcases List.mem_cons.1 hx with e | hx
  ·rw [e]; exact gotT B F hN hS hI t h.1
  ·exact gotTs B F hN hS hI l h.2 x hx
end
end
def NB (a b : Nat) : Nat → Prop := fun k => a ≤ k ∧ k < b
section
variable {P : Program} {N : Nums}
theorem zna {st ty et : TypeId} {a b sz by' : Nat} {z z' : Value} {d : TypeDesc} (hS : TI P st (.slice et) a b z') (ht : TI P et d sz by' z) {w : World} {ad : Option Addr} {c : Nat} :
  (Builtin.append_ #[st, st] ty #[.slice none 0 0, .slice ad 0 c]).run P w = .ok (.slice none 0 0) w := by
 obtain ⟨i, hi, _, _, _⟩ := ht.info
 cases ad with
 | none => simp [Builtin.append_, run_underlying hS.und, sizeOf, typeInfo, hi, Builtin.lenOf, Builtin.firstCells]
 | some a =>
  have : (loadCells a 0).run P w = .ok #[] w := by
   have := run_loadCells_list (P := P) w a [] (fun j v hj => by simp at hj)
   simpa using this
  simp [Builtin.append_, run_underlying hS.und, sizeOf, typeInfo, hi, Builtin.lenOf, Builtin.firstCells, this]
theorem zow (l : List UInt8) : ∀ c ∈ l.map zbo, c.oneCell' = true := fun c hc => by
 obtain ⟨x, _, rfl⟩ := List.mem_map.1 hc
 rfl
theorem zga (B : Base P N) {w : World} {G : Nat → Prop} {v : Value} {l : List UInt8} {ty : TypeId} (h : tagV w G v l) (hl : l.length < 1099511627776) :
  ∃ v' w', (Builtin.append_ #[N.zb, N.zb] ty #[.slice none 0 0, v]).run P w = .ok v' w' ∧ tagV w' (NB w.heap.size w'.heap.size) v' l ∧ Mod w w' zu := by
 have empty : ∀ {ad : Option Addr} {c : Nat}, v = .slice ad 0 c → l = [] → ∃ v' w', (Builtin.append_ #[N.zb, N.zb] ty #[.slice none 0 0, v]).run P w = .ok v' w' ∧ tagV w' (NB w.heap.size w'.heap.size) v' l ∧ Mod w w' zu := by
  intro ad c e1 e2
  subst e1 e2
  exact ⟨_, _, zna B.Lu8 B.uint8, .inl ⟨rfl, _, _, rfl⟩, .refl _ _⟩
 rcases h with ⟨e, _, _, h⟩ | ⟨b, o, c, e, h1, h2, h3⟩
 ·exact empty h e
 ·cases l with
  | nil => exact empty e rfl
  | cons x l =>
   obtain ⟨i, hi, hsz, hbytes, hzero⟩ := B.uint8.info
   have hsrc : Src P i.size N.zb v (x :: l).length ((x :: l).map zbo) w := by
    rw [e]
    exact Src.ofSlice w B.Lu8.und ⟨b, o, none⟩ _ c _ (by rw [hsz]; simp) (fun j u hj => by rw [Addr.add_mid]; exact h3 j u hj) (zow _)
   have hfit : Builtin.nextslicecap (0 + (x :: l).length) 0 * i.bytes ≤ 281474976710656 := by
    have := nextslicecap_le (show 0 < 0 + (x :: l).length by simp)
    rw [hbytes]; omega
   have hrun := run_append_grow_src (P := P) w N.zb N.zb ty N.zq i _ B.Lu8.und hi hzero none 0 0 [] rfl v _ _ hsrc (by simp) (by omega) hfit
   refine ⟨_, _, hrun, .inr ⟨w.heap.size, 0, _, by rw [Nat.zero_add], by exact grownCap_ge w (x :: l).length 0 N.zq, fun _ => ⟨Nat.le_refl _, by rw [zal]; exact Nat.lt_succ_self _⟩, ?_⟩, (Mod.drew w _).trans' (Mod.alloc _ _ _)⟩
   have hr := zz w.drew (([] ++ (x :: l).map zbo).toArray ++ Builtin.zeroCells (Value.cells (.int .u8 0)) (grownCap w (0 + (x :: l).length) 0 N.zq - (0 + (x :: l).length))) N.zq (0, 0)
   exact (zj.1 (by simpa using hr)).1
theorem zhu (B : Base P N) (w : World) (l : List UInt8) : ∃ v' w', (convert N.zaj N.zb (strV l)).run P w = .ok v' w' ∧ tagV w' (NB w.heap.size w'.heap.size) v' l ∧ Mod w w' zu := by
 have h := run_bytes_of_string (P := P) w N.zaj N.zb N.zq ⟨l.toArray⟩ B.string.und B.Lu8.und B.uint8.und
 have hs : (⟨l.toArray⟩ : ByteArray).size = l.length := by simp [ByteArray.size]
 refine ⟨_, _, h, .inr ⟨w.heap.size, 0, _, by rw [hs], ?_, fun _ => ⟨Nat.le_refl _, by rw [zal]; exact Nat.lt_succ_self _⟩, ?_⟩, (Mod.drew w _).trans' (Mod.alloc _ _ _)⟩
 ·rw [← hs]; exact grownCap_ge _ _ _ _
 ·have hr := zz w.drew (bytesRow ⟨l.toArray⟩ (grownCap w (⟨l.toArray⟩ : ByteArray).size 0 N.zq)) N.zq ((bytesRow ⟨l.toArray⟩ (grownCap w (⟨l.toArray⟩ : ByteArray).size 0 N.zq)).size, (bytesRow ⟨l.toArray⟩ (grownCap w (⟨l.toArray⟩ : ByteArray).size 0 N.zq)).size + 1)
  have e : (bytesRow ⟨l.toArray⟩ (grownCap w (⟨l.toArray⟩ : ByteArray).size 0 N.zq)).toList = l.map zbo ++ List.replicate (grownCap w (⟨l.toArray⟩ : ByteArray).size 0 N.zq - (⟨l.toArray⟩ : ByteArray).size) (.int .u8 0) := by
   simp [bytesRow, zbo]
  rw [e] at hr
  exact (zj.1 hr).1
def zda (n : Int) (s : List UInt8) (nl : Bool) : Tr := .mk n s nl [] []
theorem zer {w : World} {G : Nat → Prop} {n : Int} {s : List UInt8} {nl : Bool} {v : Value} (h : tagV w G v s) : RepT w G (zda n s nl) [.int .i64 n, v, .bool nl, .slice none 0 0, .slice none 0 0] := by
 simp only [zda, RepT]
 exact ⟨v, _, _, rfl, h, .inl ⟨rfl, trivial⟩, .inl ⟨rfl, rfl⟩⟩
theorem zgp {w : World} {G : Nat → Prop} : tagV w G (.slice none 0 0) [] := .inl ⟨rfl, none, 0, rfl⟩
def Told (w : World) (t : Tr) (v : Value) (w' : World) : Prop := ∃ cs, v = .agg cs.toArray ∧ RepT w' (NB w.heap.size w'.heap.size) t cs ∧ Mod w w' zu
theorem zpl {tt tg lt lg : TypeId} (hT : zet P N tt tg lt lg) {w1 : World} {b : Nat} {cs : List Value} (hr : w1.rangeAt b 0 cs) (hl : cs.length = 5) : (loadVar tt ⟨b, 0, none⟩).run P w1 = .ok (.agg cs.toArray) w1 := by
 obtain ⟨fs, h⟩ := hT.ti
 have hlv : ∀ (f : Array Field) (x : List Value), ldv (.struct f) x = .agg x.toArray := fun _ _ => rfl
 have hl2 := h.run_load (w := w1) (b := b) (o := 0) hr hl (fun h => by cases h)
 simpa [Instr.loadAt, Instr.sureAddr, Sem.run_bind, hlv] using hl2
theorem zjo {tt tg lt lg : TypeId} (hT : zet P N tt tg lt lg) {w : World} {b : Nat} {old cs : List Value} (hr : w.rangeAt b 0 old) (ho : old.length = 5) (ht : w.there b 0 5) (hl : cs.length = 5) (h1 : ∀ c ∈ cs, c.oneCell' = true) :
  ∃ w', (Instr.storeAt tt (.pointer (some ⟨b, 0, none⟩)) (.agg cs.toArray)).run P w = .ok () w' ∧ Mod w w' (blk b) ∧ w'.heap.size = w.heap.size ∧ w'.rangeAt b 0 cs ∧ w'.there b 0 5 := by
 obtain ⟨fs, h⟩ := hT.ti
 have m : Mod w (w.setCells b 0 cs) (blk b) := Mod.setCells cs 0 w fun _ _ _ _ => rfl
 refine ⟨_, h.run_store (w := w) (b := b) (o := 0) (v := .agg cs.toArray) (cs := cs) rfl hl ht h1, m, zep _ _ _, ?_, m.there (zpf ht (by decide)) ht⟩
 have := zah cs 0 w _ hr (by omega)
 rwa [List.drop_of_length_le (by omega), List.append_nil] at this
theorem zrd {n : Int} {v : Value} {nl : Bool} (h : v.oneCell' = true) : ∀ c ∈ [Value.int .i64 n, v, .bool nl, .slice none 0 0, .slice none 0 0], c.oneCell' = true := fun c hc => by
 simp at hc
 rcases hc with rfl | rfl | rfl | rfl
 ·rfl
 ·exact h
 ·rfl
 ·rfl
theorem build0 {tt tg lt lg : TypeId} (hT : zet P N tt tg lt lg) (w : World) : (Instr.build tt #[]).run P w = .ok (.agg zT.toArray) w :=
 hT.tree.run_build (by simp [Instr.fill, zT])
theorem zrq {tt tg lt lg : TypeId} (hT : zet P N tt tg lt lg) (w : World) (n : Int) : (Instr.build tt #[(0, .int .i64 n)]).run P w = .ok (.agg [.int .i64 n, .slice none 0 0, .bool false, .slice none 0 0, .slice none 0 0].toArray) w :=
 hT.tree.run_build (by simp [Instr.fill, zbt (show (Value.int .i64 n).oneCell' = true from rfl)])
theorem zjk {tt tg lt lg : TypeId} (hT : zet P N tt tg lt lg) (w : World) {v : Value} (h : v.oneCell' = true) : (Instr.build tt #[(1, v)]).run P w = .ok (.agg [.int .i64 0, v, .bool false, .slice none 0 0, .slice none 0 0].toArray) w :=
 hT.tree.run_build (by simp [Instr.fill, zbt h])
theorem buildB {tt tg lt lg : TypeId} (hT : zet P N tt tg lt lg) (w : World) (b : Bool) : (Instr.build tt #[(2, .bool b)]).run P w = .ok (.agg [.int .i64 0, .slice none 0 0, .bool b, .slice none 0 0, .slice none 0 0].toArray) w :=
 hT.tree.run_build (by simp [Instr.fill, zbt (show (Value.bool b).oneCell' = true from rfl)])
theorem buildSB {tt tg lt lg : TypeId} (hT : zet P N tt tg lt lg) (w : World) {v : Value} (h : v.oneCell' = true) (b : Bool) : (Instr.build tt #[(1, v), (2, .bool b)]).run P w = .ok (.agg [.int .i64 0, v, .bool b, .slice none 0 0, .slice none 0 0].toArray) w :=
 hT.tree.run_build (by simp [Instr.fill, zbt h, zbt (show (Value.bool b).oneCell' = true from rfl)])
theorem buildL {tt tg lt lg : TypeId} (hT : zet P N tt tg lt lg) (w : World) {v : Value} (h : v.oneCell' = true) : (Instr.build tt #[(3, v)]).run P w = .ok (.agg [.int .i64 0, .slice none 0 0, .bool false, v, .slice none 0 0].toArray) w :=
 hT.tree.run_build (by simp [Instr.fill, zbt h])
abbrev zdx (P : Program) (N : Nums) : Prop := zet P N N.zp N.zgi N.zi N.zdp
structure ResAt (w : World) (b : Nat) : Prop where
 r : w.rangeAt b 0 zT
 t : w.there b 0 5
theorem zgs (hI : zdx P N) (w : World) : ∃ w1, (∀ old : Value, (Instr.alloc N.zp true old).run P w = .ok (.pointer (some ⟨w.heap.size, 0, none⟩)) w1) ∧ Mod w w1 zu ∧ w1.heap.size = w.heap.size + 1 ∧ ResAt w1 w.heap.size := by
 obtain ⟨fs, h⟩ := hI.ti
 exact ⟨_, fun old => h.run_alloc old, Mod.alloc _ _ _, zal _ _, zz w zT.toArray N.zp (0, 0), zbq w zT.toArray N.zp⟩
theorem W_hand (hI : zdx P N) {loc : List Nat} {N' : Nat} {σ : Env} {w0 w : World} {b : Nat} {t : Tr} (hb : w0.heap.size ≤ b) (hw : Mod w0 w zu) {cs : List Value} (hrep : RepT w (fun k => NB w0.heap.size w.heap.size k ∧ k ≠ b) t cs) {w' : World} (m : Mod w w' (blk b)) (hs : w'.heap.size = w.heap.size) (hr : w'.rangeAt b 0 cs) (h1 : σ 1 = .pointer (some ⟨b, 0, none⟩)) (hbw : b < w.heap.size) :
  retQ P [.cell 1 N.zp] (Told w0 t) .ret σ w' := by
 refine ⟨.inr rfl, .agg cs.toArray, ⟨⟨b, 0, none⟩, h1, zpl hI hr hrep.len⟩, cs, rfl, RepT.mod m (fun k hk => ⟨hk.1.2, fun o e => hk.2 e, hk.1.1, by have := hk.1.2; omega⟩) t hrep, hw.fresh m fun k o e => by have : k = b := e; omega⟩
theorem zpt (B : Base P N) (F : Fns P N) (hI : zdx P N) (hN : N.zge ≠ 0) (w : World) (x : Bool) : Call P N.zge #[.bool x] w (Told w (zda (if x then 1 else 0) [] false)) := by
 refine (F.boolTree hN).call rfl fun loc N' hlo => ?_
 unfold zov
 obtain ⟨w1, hal, m1, s1, hres⟩ := zgs hI w
 have store : ∀ n : Int, ∃ w', (Instr.storeAt N.zp (.pointer (some ⟨w.heap.size, 0, none⟩)) (.agg [.int .i64 n, .slice none 0 0, .bool false, .slice none 0 0, .slice none 0 0].toArray)).run P w1 = .ok () w' ∧ ∀ σ : Env, σ 1 = .pointer (some ⟨w.heap.size, 0, none⟩) → retQ P [.cell 1 N.zp] (Told w (zda n [] false)) .ret σ w' := by
  intro n
  obtain ⟨w', h1, h2, h3, h4, h5⟩ := zjo hI (cs := [.int .i64 n, .slice none 0 0, .bool false, .slice none 0 0, .slice none 0 0]) hres.r rfl hres.t rfl (zrd rfl)
  exact ⟨w', h1, fun σ hσ => W_hand hI (loc := loc) (N' := N') (Nat.le_refl _) m1 (zer zgp) h2 h3 h4 hσ (by omega)⟩
 refine zc fun K hK => zad fun τ => ?_
 simp +decide only [bK, Nat.reduceAdd, hal]
 refine hK _ _ (zg fun σ hσ => ?_)
 have f0 := hσ 0
 have f1 := hσ 1
 simp +decide only [bE, Nat.reduceBeqDiff, BEq.rfl, Nat.reduceAdd, Nat.zero_add] at f0 f1
 clear hσ hK K
 refine zc fun K hK => zc fun K1 hK1 => zad fun τ => ?_
 simp +decide only [bK, bE, Nat.reduceAdd, Nat.zero_add, f0]
 refine hK1 _ _ (zg fun σ2 hσ => ?_)
 have g1 := hσ 1
 have g2 := hσ 2
 simp +decide only [bE, Nat.reduceBeqDiff, BEq.rfl, Nat.reduceAdd, f1] at g1 g2
 clear hσ hK1 K1
 refine W_if hlo g2 ?_
 cases x with
 | true =>
  rw [if_pos rfl]
  obtain ⟨w', hst, hfin⟩ := store 1
  refine zc fun K2 hK2 => zad fun τ => ?_
  have e1 : ∀ ρ : Env, (#[(0, .const (.int .i64 1))] : Array (Nat × Operand)).map (fun p => (p.1, ev ρ p.2)) = #[(0, .int .i64 1)] := fun ρ => by simp
  simp +decide only [bK, bE, Nat.reduceBeqDiff, BEq.rfl, Nat.reduceAdd, if_true, g1, e1, zrq hI, hst]
  refine hK2 _ _ (zg fun σ3 hσ => zcf ?_)
  have k1 := hσ 1
  simp +decide only [bE, Nat.reduceBeqDiff, Nat.reduceAdd, g1] at k1
  exact hfin _ k1
 | false =>
  rw [if_neg (by simp)]
  refine zca (hK _ _ ?_)
  obtain ⟨w', hst, hfin⟩ := store 0
  refine zc fun K2 hK2 => zad fun τ => ?_
  have e1 : ∀ ρ : Env, (#[] : Array (Nat × Operand)).map (fun p => (p.1, ev ρ p.2)) = #[] := fun ρ => by simp
  have hst' : (Instr.storeAt N.zp (.pointer (some ⟨w.heap.size, 0, none⟩)) (.agg zT.toArray)).run P w1 = .ok () w' := hst
  simp +decide only [bK, bE, Nat.reduceBeqDiff, BEq.rfl, Nat.reduceAdd, if_false, g1, e1, build0 hI, hst']
  refine hK2 _ _ (zg fun σ3 hσ => zcf ?_)
  have k1 := hσ 1
  simp +decide only [bE, Nat.reduceBeqDiff, Nat.reduceAdd, g1] at k1
  exact hfin _ k1
end
section
variable {P : Program} {N : Nums}
theorem run_eqlP {t a : TypeId} (h : P.underlying t = some (.pointer a)) {x y : Operand} {m : Option Addr} {w : World} :
  (do eqGuard .eql t x y (.pointer m) (.pointer none); binOp .eql t (.pointer m) (.pointer none) : Sem Value).run P w = .ok (.bool m.isNone) w := by
 have e : (Op.equal t (.pointer m) (.pointer none)).run P w = .ok m.isNone w := by
  unfold Op.equal Op.maxDepth
  rw [show (10000 : Nat) = 9999 + 1 from rfl]
  unfold Op.equalIn
  rw [Sem.run_bind, run_underlying h, Result.andThen_ok]
  cases m <;> rfl
 have e1 : (eqGuard .eql t x y (.pointer m) (.pointer none)).run P w = .ok () w := rfl
 rw [Sem.run_bind, e1, Result.andThen_ok]
 show ((do pure (.bool (← Op.equal t (.pointer m) (.pointer none))) : Sem Value)).run P w = _
 rw [Sem.run_bind, e, Result.andThen_ok]
 rfl
theorem run_eqlS {t a : TypeId} (h : P.underlying t = some (.slice a)) {x y : Operand} {m : Option Addr} {n c : Nat} {w : World} :
  (do eqGuard .eql t x y (.slice m n c) (.slice none 0 0); binOp .eql t (.slice m n c) (.slice none 0 0) : Sem Value).run P w = .ok (.bool m.isNone) w := by
 have e : (Op.equal t (.slice m n c) (.slice none 0 0)).run P w = .ok m.isNone w := by
  unfold Op.equal Op.maxDepth
  rw [show (10000 : Nat) = 9999 + 1 from rfl]
  unfold Op.equalIn
  rw [Sem.run_bind, run_underlying h, Result.andThen_ok]
  cases m <;> rfl
 have e1 : (eqGuard .eql t x y (.slice m n c) (.slice none 0 0)).run P w = .ok () w := rfl
 rw [Sem.run_bind, e1, Result.andThen_ok]
 show ((do pure (.bool (← Op.equal t (.slice m n c) (.slice none 0 0))) : Sem Value)).run P w = _
 rw [Sem.run_bind, e, Result.andThen_ok]
 rfl
theorem OctG.tagV {w : World} {G : Nat → Prop} {v : Value} {o : Option (List UInt8)} (h : OctG w G v o) : tagV w G v (o.getD []) := by
 cases o with
 | none => exact .inl ⟨rfl, _, _, h⟩
 | some l => exact .inr h
theorem zpp (hI : zdx P N) {w w1 w2 : World} {b : Nat} (hb : b = w.heap.size) (m1 : Mod w w1 zu) (s1 : w1.heap.size = w.heap.size + 1) (hres : ResAt w1 b) (m2 : Mod w1 w2 zu) {v : Value} {s : List UInt8} (hv : tagV w2 (NB w1.heap.size w2.heap.size) v s) (n : Int) (nl : Bool) :
  ∃ w', (Instr.storeAt N.zp (.pointer (some ⟨b, 0, none⟩)) (.agg [.int .i64 n, v, .bool nl, .slice none 0 0, .slice none 0 0].toArray)).run P w2 = .ok () w' ∧ ∀ σ : Env, σ 1 = .pointer (some ⟨b, 0, none⟩) → retQ P [.cell 1 N.zp] (Told w (zda n s nl)) .ret σ w' := by
 have s2 := m2.size
 obtain ⟨w', h1, h2, h3, h4, h5⟩ := zjo hI (cs := [.int .i64 n, v, .bool nl, .slice none 0 0, .slice none 0 0]) (zaf m2 hres.r) rfl (m2.there (by omega) hres.t) rfl (zrd hv.one)
 refine ⟨w', h1, fun σ hσ => W_hand hI (loc := []) (N' := 0) (by omega) (m1.trans' m2) (zer (hv.imp (fun x => ⟨x.1, x.2⟩) fun x => x.mono ?_)) h2 h3 h4 hσ (by omega)⟩
 all_goals exact fun k hk => ⟨⟨by have := hk.1; omega, hk.2⟩, by have := hk.1; omega⟩
theorem zpr (B : Base P N) (F : Fns P N) (hI : zdx P N) (hN : N.zfe ≠ 0) (hp : N.zbj ≠ 0) {w : World} {G : Nat → Prop} {o : Option (List UInt8)} {cs : List Value} (hG : ∀ k, G k → k < w.heap.size) (h : Rep w G (.nstr o) cs) :
  ∃ v, cs = [v] ∧ Call P N.zfe #[v] w (Told w (zda 0 (o.getD []) o.isNone)) := by
 have hv : ∃ m : Option Addr, cs = [.pointer m] ∧ m.isNone = o.isNone ∧ ∀ l, o = some l → ∃ b, m = some ⟨b, 0, none⟩ ∧ b < w.heap.size ∧ w.cell? ⟨b, 0, none⟩ = some (strV l) := by
  cases o with
  | none => exact ⟨none, by simpa only [Rep] using h, rfl, fun l e => by cases e⟩
  | some l =>
   simp only [Rep] at h
   obtain ⟨b, e, g, hr⟩ := h
   exact ⟨_, e, rfl, fun l' e' => by cases e'; exact ⟨b, rfl, hG b g, hr 0 _ rfl⟩⟩
 obtain ⟨m, rfl, hm, hsome⟩ := hv
 refine ⟨_, rfl, ?_⟩
 refine (F.textTree hN).call rfl fun loc N' hlo => ?_
 unfold zou
 obtain ⟨w1, hal, m1, s1, hres⟩ := zgs hI w
 refine zc fun K hK => zad fun τ => ?_
 simp +decide only [bK, Nat.reduceAdd, hal]
 refine hK _ _ (zg fun σ hσ => ?_)
 have f0 := hσ 0
 have f1 := hσ 1
 simp +decide only [bE, Nat.reduceBeqDiff, BEq.rfl, Nat.reduceAdd, Nat.zero_add] at f0 f1
 clear hσ hK K
 refine zc fun K hK => zc fun K1 hK1 => zad fun τ => ?_
 simp +decide only [bK, bE, BEq.rfl, Nat.reduceAdd, Nat.zero_add, f0, run_eqlP (B.pstring hp).und]
 refine hK1 _ _ (zg fun σ2 hσ => ?_)
 have g0 := hσ 0
 have g1 := hσ 1
 have g2 := hσ 2
 simp +decide only [bE, Nat.reduceBeqDiff, BEq.rfl, Nat.reduceAdd, Nat.zero_add, f0, f1] at g0 g1 g2
 clear hσ hK1 K1
 refine W_if hlo g2 ?_
 cases o with
 | none =>
  rw [if_pos (by rw [hm]; rfl)]
  obtain ⟨w', hst, hfin⟩ := zpp hI rfl m1 s1 hres (.refl w1 _) (zgp) 0 true
  refine zc fun K2 hK2 => zad fun τ => ?_
  have e1 : ∀ ρ : Env, (#[(2, .const (.bool true))] : Array (Nat × Operand)).map (fun p => (p.1, ev ρ p.2)) = #[(2, .bool true)] := fun ρ => by simp
  simp +decide only [bK, bE, Nat.reduceBeqDiff, BEq.rfl, Nat.reduceAdd, g1, e1, buildB hI, hst]
  refine hK2 _ _ (zg fun σ3 hσ => zcf ?_)
  have k1 := hσ 1
  simp +decide only [bE, Nat.reduceBeqDiff, Nat.reduceAdd, g1] at k1
  exact hfin _ k1
 | some l =>
  rw [if_neg (by rw [hm]; simp)]
  refine zca (hK _ _ ?_)
  obtain ⟨b, rfl, hbw, hcell⟩ := hsome l rfl
  have hcell1 : w1.cell? ⟨b, 0, none⟩ = some (strV l) := by rw [m1.cell _ _ hbw (fun h => h)]; exact hcell
  obtain ⟨v', w2, hconv, htv, m2⟩ := zhu B w1 l
  obtain ⟨w', hst, hfin⟩ := zpp hI rfl m1 s1 hres m2 htv 0 false
  refine zc fun K2 hK2 => zad fun τ => ?_
  have e1 : ∀ ρ : Env, (#[(1, T 3)] : Array (Nat × Operand)).map (fun p => (p.1, ev ρ p.2)) = #[(1, ρ 3)] := fun ρ => by simp
  simp +decide only [bK, bE, Nat.reduceBeqDiff, BEq.rfl, Nat.reduceAdd, Nat.zero_add, g0]
  rw [zaa rfl]
  simp +decide only [bK, bE, Nat.reduceBeqDiff, BEq.rfl, g1, B.string.run_load1 rfl, hcell1, hconv, e1, zjk hI _ htv.one, hst]
  refine hK2 _ _ (zg fun σ3 hσ => zcf ?_)
  have k1 := hσ 1
  simp +decide only [bE, Nat.reduceBeqDiff, Nat.reduceAdd, g1] at k1
  exact hfin _ k1
theorem znq (B : Base P N) (F : Fns P N) (hI : zdx P N) (hN : N.zem ≠ 0) {w : World} {G : Nat → Prop} {o : Option (List UInt8)} {v : Value} (hG : ∀ k, G k → k < w.heap.size) (h : OctG w G v o) (hl : (o.getD []).length < 1099511627776) :
  Call P N.zem #[v] w (Told w (zda 0 (o.getD []) o.isNone)) := by
 have hv : ∃ m n c, v = .slice m n c ∧ m.isNone = o.isNone := by
  cases o with
  | none => exact ⟨none, 0, 0, h, rfl⟩
  | some l => obtain ⟨b, o', c, e, _⟩ := h; exact ⟨_, _, _, e, rfl⟩
 obtain ⟨m, n, c, hv, hm⟩ := hv
 refine (F.octetsTree hN).call rfl fun loc N' hlo => ?_
 unfold zmj
 obtain ⟨w1, hal, m1, s1, hres⟩ := zgs hI w
 refine zc fun K hK => zad fun τ => ?_
 simp +decide only [bK, Nat.reduceAdd, hal]
 refine hK _ _ (zg fun σ hσ => ?_)
 have f0 := hσ 0
 have f1 := hσ 1
 simp +decide only [bE, Nat.reduceBeqDiff, BEq.rfl, Nat.reduceAdd, Nat.zero_add] at f0 f1
 clear hσ hK K
 have htv1 : tagV w1 G v (o.getD []) := h.tagV.mod m1 fun k hk => ⟨hG k hk, fun _ h => h, hk⟩
 obtain ⟨v', w2, happ, htv, m2⟩ := zga (ty := N.zb) B htv1 hl
 obtain ⟨w', hst, hfin⟩ := zpp hI rfl m1 s1 hres m2 htv 0 o.isNone
 have heq : ∀ {x y : Operand} {w : World}, (do eqGuard .eql N.zb x y v (.slice none 0 0); binOp .eql N.zb v (.slice none 0 0) : Sem Value).run P w = .ok (.bool o.isNone) w := by
  intro x y w
  rw [← hm, hv]
  exact run_eqlS B.Lu8.und
 refine zc fun K2 hK2 => zad fun τ => ?_
 have e1 : ∀ ρ : Env, (#[(1, T 1), (2, T 3)] : Array (Nat × Operand)).map (fun p => (p.1, ev ρ p.2)) = #[(1, ρ 1), (2, ρ 3)] := fun ρ => by simp
 simp +decide only [bK, bE, Nat.reduceBeqDiff, BEq.rfl, Nat.reduceAdd, Nat.zero_add, f0, f1, happ, heq, e1, buildSB hI _ htv.one, hst]
 refine hK2 _ _ (zg fun σ3 hσ => zcf ?_)
 have k1 := hσ 1
 simp +decide only [bE, Nat.reduceBeqDiff, Nat.reduceAdd, f1] at k1
 exact hfin _ k1
end
section
variable {P : Program} {N : Nums}
def cLess (N : Nums) : C := .draw [
 ⟨some 0, .move (V 5), 0, none, []⟩,
 ⟨some 1, .binOp .gtr N.zt (T 0) (.const (.int .i64 0)) N.zt, 0, none, [0]⟩,
 ⟨some 2, .move (T 1), 0, none, [1]⟩,
 ⟨some 3, .move (V 0), 0, (some (some 2, true)), [2]⟩,
 ⟨some 4, .move (V 5), 0, (some (some 2, true)), [2]⟩,
 ⟨some 5, .indexAddr N.zdp (T 3) (T 4), 0, (some (some 2, true)), [3, 4, 2]⟩,
 ⟨some 6, .fieldAddr N.zgi (T 5) 0, 0, (some (some 2, true)), [5, 2]⟩,
 ⟨some 7, .load N.zm (T 6), 0, (some (some 2, true)), [6, 2]⟩,
 ⟨some 8, .move (V 0), 0, (some (some 2, true)), [2]⟩,
 ⟨some 9, .move (V 5), 0, (some (some 2, true)), [2]⟩,
 ⟨some 10, .binOp .sub N.zt (T 9) (.const (.int .i64 1)) N.zt, 0, (some (some 2, true)), [9, 2]⟩,
 ⟨some 11, .indexAddr N.zdp (T 8) (T 10), 0, (some (some 2, true)), [8, 10, 2]⟩,
 ⟨some 12, .fieldAddr N.zgi (T 11) 0, 0, (some (some 2, true)), [11, 2]⟩,
 ⟨some 13, .load N.zm (T 12), 0, (some (some 2, true)), [12, 2]⟩,
 ⟨some 14, .binOp .lss N.zm (T 7) (T 13) N.zm, 0, (some (some 2, true)), [7, 13, 2]⟩,
 ⟨some (6+100), .pick (T 2) (T 14) (.const (.bool false)), 0, none, [2, 14]⟩]
theorem W_less (B : Base P N) (hI : zdx P N) {loc : List Nat} {N' : Nat} {Q : Exit → Env → World → Prop} {σ : Env} {w : World} {b c j : Nat} {u : List (Nat × List UInt8)} (f0 : σ 0 = .slice (some ⟨b, 0, none⟩) u.length c) (f5 : σ 5 = .int .i64 j) (hj : j < u.length) (hu : u.length < 4611686018427387904)
  (hc : ∀ i x, u[i]? = some x → w.drew.cell? ⟨b, i * 2, none⟩ = some (.int .u32 x.1)) (hs : (u.map Prod.fst).Pairwise (· < ·))
  (hQ : ∀ σ' : Env, σ' 6 = .bool false → (∀ i, i < 6 → σ' i = σ i) → Q .normal σ' w.drew) : W P loc N' (cLess N) Q σ w := by
 obtain ⟨fs, hI1⟩ := hI.tu
 refine zte B.mixed (by kernel_rfl) fun τ => ?_
 have same : ∀ {σ' : Env}, (∀ i, σ' i = σ' i) → True := fun _ => trivial
 clear same
 by_cases h0 : j = 0
 ·subst h0
  have e0 : decide (((0 : Nat) : Int) > 0) = false := by decide
  simp +decide only [bK, bE, zfl, Nat.reduceBeqDiff, decide_false, BEq.rfl, Nat.reduceAdd, if_false, true_and, f5, zde, Bool.not_true, zdy]
  refine zg (K := fun σ' w' => Q .normal σ' w') fun σ' hσ => hQ _ ?_ fun i hi => ?_
  ·have := hσ 6
   simp +decide only [bE, BEq.rfl, Nat.reduceAdd] at this
   exact this
  ·rw [hσ]
   match i, hi with
   | 0, _ => simp +decide only [bE, Nat.reduceBeqDiff, Nat.zero_add]
   | 1, _ => simp +decide only [bE, Nat.reduceBeqDiff, Nat.reduceAdd]
   | 2, _ => simp +decide only [bE, Nat.reduceBeqDiff, Nat.reduceAdd]
   | 3, _ => simp +decide only [bE, Nat.reduceBeqDiff, Nat.reduceAdd]
   | 4, _ => simp +decide only [bE, Nat.reduceBeqDiff, Nat.reduceAdd]
   | 5, _ => simp +decide only [bE, Nat.reduceBeqDiff, Nat.reduceAdd]
 ·have e0 : decide ((j : Int) > 0) = true := by simp; omega
  have hx := List.getElem?_eq_getElem hj
  have hj1 : j - 1 < u.length := by omega
  have hx1 := List.getElem?_eq_getElem hj1
  have c1 := hc _ _ hx
  have c2 := hc _ _ hx1
  have hlt : (u[j - 1]).1 < (u[j]).1 := by
   have := List.pairwise_iff_getElem.1 hs (j - 1) j (by simpa using hj1) (by simpa using hj) (by omega)
   simpa using this
  have hw : IntKind.i64.wrap ((j : Int) - 1) = ((j - 1 : Nat) : Int) := by
   rw [show ((j : Int) - 1) = ((j - 1 : Nat) : Int) by omega]
   exact zcw (by omega) (by omega)
  have hd : decide (((u[j]).1 : Int) < ((u[j - 1]).1 : Int)) = false := by simp; omega
  simp +decide only [bK, bE, zfl, Nat.reduceBeqDiff, BEq.rfl, Nat.reduceAdd, Nat.add_zero, Nat.zero_add, if_true, true_and, f0, f5, e0, zbi, zdy, zx hI.lg hI1 hj, zx hI.lg hI1 hj1, hI.g0.run, B.uint32.run_load1 rfl, c1, c2, hw, hd]
  refine zg (K := fun σ' w' => Q .normal σ' w') fun σ' hσ => hQ _ ?_ fun i hi => ?_
  ·have := hσ 6
   simp +decide only [bE, BEq.rfl, Nat.reduceAdd] at this
   exact this
  ·rw [hσ]
   match i, hi with
   | 0, _ => simp +decide only [bE, Nat.reduceBeqDiff, Nat.zero_add]
   | 1, _ => simp +decide only [bE, Nat.reduceBeqDiff, Nat.reduceAdd]
   | 2, _ => simp +decide only [bE, Nat.reduceBeqDiff, Nat.reduceAdd]
   | 3, _ => simp +decide only [bE, Nat.reduceBeqDiff, Nat.reduceAdd]
   | 4, _ => simp +decide only [bE, Nat.reduceBeqDiff, Nat.reduceAdd]
   | 5, _ => simp +decide only [bE, Nat.reduceBeqDiff, Nat.reduceAdd]
theorem zsz (B : Base P N) (F : Fns P N) (hI : zdx P N) (hN : N.zjx ≠ 0) {w : World} {G : Nat → Prop} {v : Value} {u : List (Nat × List UInt8)} (h : RepU w G v u) (hu : u.length < 4611686018427387904) (hs : (u.map Prod.fst).Pairwise (· < ·)) :
  Call P N.zjx #[v] w fun _ w' => Mod w w' zu := by
 have hu1 : (v = .slice none 0 0 ∧ u.length = 0) ∨ ∃ b c, v = .slice (some ⟨b, 0, none⟩) u.length c := h.imp (fun h => ⟨h.1, by rw [h.2]; rfl⟩) fun ⟨b, c, _, h, _⟩ => ⟨b, c, h⟩
 refine (F.sorted hN).call rfl fun loc N' hlo => ?_
 unfold c_sorted
 refine zc fun K hK => zad fun τ => ?_
 simp +decide only [bK, bE, BEq.rfl, Nat.reduceAdd, Nat.zero_add, zke hI.lg hu1]
 refine hK _ _ (zg fun σ hσ => ?_)
 have f0 := hσ 0
 have f1 := hσ 1
 have f2 := hσ 2
 simp +decide only [bE, Nat.reduceBeqDiff, BEq.rfl, Nat.reduceAdd, Nat.zero_add] at f0 f1 f2
 clear hσ hK K
 refine zhp (i := 2) (l := 1) (c := 3) (k := 0) hlo hu (fun j σ w' => σ 0 = v ∧ σ 1 = .int .i64 u.length ∧ σ 2 = .int .i64 j ∧ j ≤ u.length ∧ Mod w w' zu) (fun j σ w h => ⟨h.2.2.1, h.2.1, h.2.2.2.1⟩) (fun j σ w b h => ?_) ⟨f0, f1, f2, Nat.zero_le _, .refl _ _⟩ (fun σ' w' h => ⟨.inl rfl, .tuple #[], rfl, h.2.2.2.2⟩) (fun j σ' w' hj h => ?_)
 ·obtain ⟨a, b, c, d, e⟩ := h
  exact ⟨by rw [ze (by decide)]; exact a, by rw [ze (by decide)]; exact b, by rw [ze (by decide)]; exact c, d, e⟩
 ·obtain ⟨a, b, c, d, e⟩ := h
  rcases h with ⟨_, h0⟩ | ⟨bl, cp, cs, hv, _, _, hus, hrg⟩
  ·rw [h0] at hj; simp at hj
  rw [hv] at a
  refine zc fun K hK => zad fun τ => ?_
  simp +decide only [bK, bE, BEq.rfl, Nat.reduceAdd, c]
  refine hK _ _ (zg fun σ4 hσ => ?_)
  have g0 := hσ 0
  have g1 := hσ 1
  have g2 := hσ 2
  have g4 := hσ 4
  simp +decide only [bE, Nat.reduceBeqDiff, BEq.rfl, Nat.reduceAdd, Nat.zero_add, a, b, c] at g0 g1 g2 g4
  clear hσ hK K
  refine zc fun K hK => zad fun τ => ?_
  simp +decide only [bK, bE, BEq.rfl, Nat.reduceAdd, g4]
  refine hK _ _ (zg fun σ5 hσ => ?_)
  have p0 := hσ 0
  have p1 := hσ 1
  have p2 := hσ 2
  have p5 := hσ 5
  simp +decide only [bE, Nat.reduceBeqDiff, BEq.rfl, Nat.reduceAdd, Nat.zero_add, g0, g1, g2] at p0 p1 p2 p5
  clear hσ hK K
  refine zgk (zpa (fun _ σ w1 => σ = σ5 ∧ w1 = w') (n := 0) ⟨rfl, rfl⟩ ?_)
  rintro n σ6 w6 ⟨rfl, rfl⟩
  have md : Mod w w6.drew zu := e.trans' (Mod.drew _ _)
  refine zc fun K hK => zc fun K1 hK1 => W_less B hI p0 p5 hj hu (fun i x hx => ?_) hs fun σ7 h6 hag => hK1 _ _ (W_if hlo h6 ?_)
  ·obtain ⟨v', q1, _, _⟩ := hus.get5 hx
   have := zaf md hrg _ _ q1
   rwa [Nat.zero_add] at this
  ·rw [if_neg (by simp)]
   refine zpb ?_
   simp only [zee, inB, if_true]
   have k0 := hag 0 (by decide)
   have k1 := hag 1 (by decide)
   have k2 := hag 2 (by decide)
   rw [p0] at k0; rw [p1] at k1; rw [p2] at k2
   exact ⟨k2, by rw [ze (by decide), k0, hv], by rw [ze (by decide)]; exact k1, upd_same _ _ _, by omega, md⟩
end
section
variable {P : Program} {N : Nums}
theorem call_less (B : Base P N) (F : Fns P N) (hN : N.zcj ≠ 0) {st : TI P N.zav (.slice N.zm) 1 24 (.slice none 0 0)} {w : World} {bv blk n c : Nat} (hv : w.cell? ⟨bv, 0, none⟩ = some (.slice (some ⟨blk, 0, none⟩) n c)) {g : Nat → Int}
  (hc : ∀ t, t < n → w.cell? ⟨blk, t, none⟩ = some (.int .u32 (g t))) {i j : Nat} (hi : i < n) (hj : j < n) :
  Call P N.zcj #[.int .i64 i, .int .i64 j, .pointer (some ⟨bv, 0, none⟩)] w fun v w' => v = .bool (decide (g i < g j)) ∧ w' = w.drew := by
 refine (F.PTags_Each_1 hN).call rfl fun loc N' hlo => ?_
 unfold zkg
 refine zc fun K hK => zap (hK _ _ ?_)
 clear hK K
 obtain ⟨σ, hσ⟩ : ∃ σ, σ = upd (zcv #[.int .i64 i, .int .i64 j, .pointer (some ⟨bv, 0, none⟩)]) 3 (.bool false) := ⟨_, rfl⟩
 have f0 : σ 0 = .int .i64 i := by rw [hσ, ze (by decide)]; rfl
 have f1 : σ 1 = .int .i64 j := by rw [hσ, ze (by decide)]; rfl
 have f2 : σ 2 = .pointer (some ⟨bv, 0, none⟩) := by rw [hσ, ze (by decide)]; rfl
 rw [← hσ]
 clear hσ
 have hv' : w.drew.cell? ⟨bv, 0, none⟩ = some (.slice (some ⟨blk, 0, none⟩) n c) := hv
 have ci : w.drew.cell? ⟨blk, i, none⟩ = some (.int .u32 (g i)) := hc i hi
 have cj : w.drew.cell? ⟨blk, j, none⟩ = some (.int .u32 (g j)) := hc j hj
 refine zc fun K hK => zte B.mixed (by kernel_rfl) fun τ => ?_
 simp +decide only [bK, bE, zfl, Nat.reduceBeqDiff, BEq.rfl, Nat.reduceAdd, Nat.zero_add, Nat.mul_one, true_and, f0, f1, f2, st.run_load1 rfl, hv', zx st B.uint32 hi, zx st B.uint32 hj, B.uint32.run_load1 rfl, ci, cj]
 refine hK _ _ (zg fun σ4 hσ => zcf ⟨.inr rfl, _, rfl, ?_, rfl⟩)
 have := hσ 3
 simp +decide only [bE, BEq.rfl, Nat.reduceAdd] at this
 exact this
end
open Go.ChangeMaps (setBlock)
theorem nodup_le : ∀ (l m : List Nat), l.Nodup → (∀ x ∈ l, x ∈ m) → l.length ≤ m.length
 | [], _, _, _ => Nat.zero_le _
 | x :: l, m, hn, hs => by
  have hx := hs x (by simp)
  have hn2 := List.nodup_cons.1 hn
  have h1 := nodup_le l (m.erase x) hn2.2 fun y hy => (List.mem_erase_of_ne fun e => by subst e; exact hn2.1 hy).2 (hs y (by simp [hy]))
  rw [List.length_erase_of_mem hx] at h1
  have := List.length_pos_of_mem hx
  simp only [List.length_cons]
  omega
theorem zox {l : List MapEntry} (h : (l.map MapEntry.born).Nodup) : l.Nodup := List.Pairwise.of_map MapEntry.born (fun _ _ h e => h (by rw [e])) h
section
variable {P : Program} {N : Nums}
theorem zso {t a b : TypeId} (h : P.underlying t = some (.map a b)) {ty : TypeId} {w : World} : (Builtin.len_ #[t] ty #[.map none]).run P w = .ok (.int .i64 0) w := by
 simp [Builtin.len_, run_underlying h, goInt]
theorem zon {t a b : TypeId} (h : P.underlying t = some (.map a b)) {ty : TypeId} {w : World} {m : Nat} {es : Array MapEntry} {ck : Nat} (hm : w.heap[m]? = some (.map es ck)) : (Builtin.len_ #[t] ty #[.map (some m)]).run P w = .ok (.int .i64 es.size) w := by
 simp [Builtin.len_, run_underlying h, MapKept.run_getObj_map hm, goInt]
theorem Mod.setIter {w : World} {r : Nat} {m m' : Option Nat} {a a' c c' : Nat} {s s' : Array Nat} (h : w.heap[r]? = some (.mapIter m a s c)) : Mod w (setBlock w r (.mapIter m' a' s' c')) (blk r) ∧ (setBlock w r (.mapIter m' a' s' c')).heap[r]? = some (.mapIter m' a' s' c') ∧ (setBlock w r (.mapIter m' a' s' c')).heap.size = w.heap.size := by
 have hlt : r < w.heap.size := (Array.getElem?_eq_some_iff.1 h).1
 have h1 : (setBlock w r (.mapIter m' a' s' c')).heap[r]? = some (.mapIter m' a' s' c') := by simp [setBlock, hlt]
 have h2 : ∀ k, k ≠ r → (setBlock w r (.mapIter m' a' s' c')).heap[k]? = w.heap[k]? := fun k hk => by
  simp only [setBlock]
  rw [Array.getElem?_setIfInBounds_ne (fun e => hk e.symm)]
 refine ⟨⟨rfl, rfl, rfl, by simp [setBlock], fun k hk hn => h2 k fun e => hn 0 e, fun k o hk hn => ?_, fun k o hk => ?_, fun k o hk => ?_, fun k hk => ?_⟩, h1, by simp [setBlock]⟩
 ·exact World.cell?_of_block (h2 k fun e => hn e)
 ·by_cases e : k = r
  ·subst e; simp only [World.cell?, h1, h]
  ·rw [World.cell?_of_block (h2 k e)]
 ·by_cases e : k = r
  ·subst e; simp only [World.frozen?, h1, h]
  ·rw [World.frozen?_of_block (h2 k e)]
 ·by_cases e : k = r
  ·subst e; simp only [World.shape?, h1, h]
  ·simp only [World.shape?, h2 k e]
theorem zqq {st et : TypeId} {a b sz by' : Nat} {z z' : Value} {d : TypeDesc} (hS : TI P st (.slice et) a b z') (ht : TI P et d sz by' z) (hz : z.cells.size = sz) {w : World} {n : Nat} (hn : by' * n ≤ 281474976710656) (hn2 : n < 4611686018427387904) :
  ∃ w', (Instr.makeSlice st (.int .i64 0) (.int .i64 n)).run P w = .ok (.slice (some ⟨w.heap.size, 0, none⟩) 0 n) w' ∧ Own w' w.heap.size sz (.slice (some ⟨w.heap.size, 0, none⟩) 0 n) 0 [] ∧ Mod w w' zu ∧ w'.heap.size = w.heap.size + 1 := by
 obtain ⟨i, hi, hsz, hbytes, hzero⟩ := ht.info
 have hb : (i.bytes : Int) * (n : Int) ≤ 281474976710656 := by
  have : ((i.bytes * n : Nat) : Int) ≤ 281474976710656 := by rw [hbytes]; omega
  rwa [Int.natCast_mul] at this
 have hr := run_make (P := P) w st et i z hS.und hi hzero .i64 .i64 0 n (Int.le_refl _) (by omega) hb (by omega)
 simp only [Int.toNat_zero, Int.toNat_natCast] at hr
 refine ⟨_, hr, .inr ⟨w.heap.size, n, rfl, Nat.le_refl _, by rw [zal]; exact Nat.lt_succ_self _, Nat.zero_le _, ?_, fun j v hj => by simp at hj, by simp⟩, Mod.alloc _ _ _, zal _ _⟩
 have := zbq w (madeCells z.cells (n * i.size)) et
 rw [size_madeCells, hsz] at this
 rw [hsz]
 exact this
structure LU (P : Program) (N : Nums) : Prop where
 lu : TI P N.zav (.slice N.zm) 1 24 (.slice none 0 0)
structure EC (es : List MapEntry) (ck mr : Nat) (w0 : World) (lo b3 rI : Nat) (v0 v1 : Value) (picked : List MapEntry) (σ : Env) (w : World) : Prop where
 f0 : σ 0 = v0
 f1 : σ 1 = v1
 f3 : σ 3 = .pointer (some ⟨b3, 0, none⟩)
 f4 : σ 4 = .pointer (some ⟨rI, 0, none⟩)
 mod : Mod w0 w zu
 map : w.heap[mr]? = some (.map es.toArray ck)
 iter : ∃ seen, w.heap[rI]? = some (.mapIter (some mr) ck seen ck) ∧ seen.toList = picked.map MapEntry.born
 mem : ∀ e ∈ picked, e ∈ es
 nd : (picked.map MapEntry.born).Nodup
 row : ∃ v, w.cell? ⟨b3, 0, none⟩ = some v ∧ w.there b3 0 1 ∧ Own w lo 1 v picked.length (picked.map MapEntry.key) ∧ zao v b3 ∧ zao v rI
 lt : b3 < w.heap.size ∧ rI < w.heap.size ∧ w0.heap.size ≤ b3 ∧ w0.heap.size ≤ rI ∧ mr < w0.heap.size ∧ w0.heap.size ≤ lo ∧ lo ≤ w.heap.size ∧ b3 ≠ rI
def cCollect (N : Nums) : C :=
 .seq (.ops [⟨some 0, .next (V 4) false, N.t_, none, []⟩, ⟨some (5+100), .extract (T 0) 0, 0, none, []⟩])
  (.seq (.cond 5 .skip (.exit 0))
   (.block 1 (.seq (.ops [⟨some 0, .entry (V 4), 0, none, []⟩, ⟨some 1, .extract (T 0) 0, 0, none, []⟩, ⟨some (6+100), .assign (T 1), 0, none, []⟩])
    (.ops [⟨some 0, .load N.zav (V 3), 0, none, []⟩, ⟨some 1, .move (V 6), 0, none, []⟩, ⟨some 2, .buildSlice N.zav 1 #[(0, (T 1))], 0, none, []⟩,
     ⟨some 3, .call ⟨.builtin .append, #[T 0, T 2], #[N.zav, N.zav]⟩, N.zav, none, []⟩, ⟨none, .store N.zav (V 3) (T 3), 0, none, []⟩]))))
theorem zpk {a b c : Value} {w : World} : (Instr.extract (.tuple #[a, b, c]) 0).run P w = .ok a w := rfl
theorem zof {a : Value} {w : World} : (Instr.extract (.tuple #[a]) 0).run P w = .ok a w := rfl
theorem zpq (B : Base P N) (hL : LU P N) {loc : List Nat} {N' : Nat} (hlo : zec loc N') {Q : Exit → Env → World → Prop} {es : List MapEntry} {ck mr : Nat} {w0 w : World} {lo b3 rI : Nat} {v0 v1 : Value} {picked : List MapEntry} {σ : Env}
  (hes : ∀ e ∈ es, e.born < ck) (hnd : (es.map MapEntry.born).Nodup) (hkey : ∀ e ∈ es, e.key.oneCell' = true) (hsz : es.length < 1099511627776)
  (h : EC es ck mr w0 lo b3 rI v0 v1 picked σ w)
  (hend : ∀ σ' w', EC es ck mr w0 lo b3 rI v0 v1 picked σ' w' → picked.Perm es → Q (.exit 0) σ' w')
  (hstep : ∀ σ' w' e, picked.length < es.length → EC es ck mr w0 lo b3 rI v0 v1 (picked ++ [e]) σ' w' → Q .normal σ' w') : W P loc N' (cCollect N) Q σ w := by
 obtain ⟨f0, f1, f3, f4, mod, map, ⟨seen, iter, hseen⟩, mem, nd, ⟨v, hc, ht, ho, nb3, nbI⟩, l1, l2, l3, l4, l5, l6, l7, l8⟩ := h
 have hnx := run_next_at (P := P) w N.t_ rI mr ck ck seen es.toArray ck iter map (by simpa using hes) (Nat.le_refl _)
 unfold cCollect
 rcases hnx with ⟨h0, hrun⟩ | ⟨e, he, w1, hw1, hrun⟩
 ·
  refine zc fun K hK => zad fun τ => ?_
  simp +decide only [bK, bE, BEq.rfl, Nat.reduceAdd, f4, zqm, hrun, zof]
  refine hK _ _ (zg fun σ' hσ => ?_)
  have g0 := hσ 0
  have g1 := hσ 1
  have g3 := hσ 3
  have g4 := hσ 4
  have g5 := hσ 5
  simp +decide only [bE, Nat.reduceBeqDiff, BEq.rfl, Nat.reduceAdd, Nat.zero_add, f0, f1, f3, f4] at g0 g1 g3 g4 g5
  clear hσ hK K
  refine zc fun K hK => W_if hlo g5 ?_
  rw [if_neg (by simp)]
  refine zpb ?_
  refine hend _ _ ⟨g0, g1, g3, g4, mod, map, ⟨seen, iter, hseen⟩, mem, nd, ⟨v, hc, ht, ho, nb3, nbI⟩, l1, l2, l3, l4, l5, l6, l7, l8⟩ ?_
  have hall := all_seen es.toArray seen h0
  have ndp : picked.Nodup := zox nd
  have nde : es.Nodup := zox hnd
  rw [List.perm_ext_iff_of_nodup ndp nde]
  intro x
  refine ⟨mem x, fun hx => ?_⟩
  have hb := hall x (by simpa using hx)
  have hb2 : x.born ∈ picked.map MapEntry.born := by
   rw [← hseen]; simpa using hb
  obtain ⟨y, hy, hyb⟩ := List.mem_map.1 hb2
  have := born_inj hnd (mem y hy) hx hyb
  rw [← this]; exact hy
 ·
  obtain ⟨hem, hns⟩ := mem_left he
  have hem' : e ∈ es := by simpa using hem
  have iter1 : w1.heap[rI]? = some (.mapIter (some mr) ck seen ck) := by rcases hw1 with rfl | rfl <;> exact iter
  have m1 : Mod w w1 zu := by
   rcases hw1 with rfl | rfl
   ·exact .refl _ _
   ·exact Mod.drew _ _
  have s1 : w1.heap.size = w.heap.size := by rcases hw1 with rfl | rfl <;> rfl
  obtain ⟨m2, it2, s2⟩ := Mod.setIter (m' := some mr) (a' := ck) (s' := seen.push e.born) (c' := ck) iter1
  obtain ⟨w2, hw2⟩ : ∃ w2, w2 = setBlock w1 rI (.mapIter (some mr) ck (seen.push e.born) ck) := ⟨_, rfl⟩
  rw [← hw2] at hrun m2 it2 s2
  clear hw2
  have m02 : Mod w w2 (blk rI) := (m1.mono fun _ _ _ h => h.elim).trans' m2
  have map2 : w2.heap[mr]? = some (.map es.toArray ck) := by rw [m02.block _ (by omega) (fun o h => by have : mr = rI := h; omega)]; exact map
  have hent := run_entry_at (P := P) w2 rI mr ck seen es.toArray ck e it2 map2 hem (by simpa using hnd)
  refine zc fun K hK => zad fun τ => ?_
  simp +decide only [bK, bE, BEq.rfl, Nat.reduceAdd, f4, zqm, hrun, zpk]
  refine hK _ _ (zg fun σ2 hσ => ?_)
  have g0 := hσ 0
  have g1 := hσ 1
  have g3 := hσ 3
  have g4 := hσ 4
  have g5 := hσ 5
  simp +decide only [bE, Nat.reduceBeqDiff, BEq.rfl, Nat.reduceAdd, Nat.zero_add, f0, f1, f3, f4] at g0 g1 g3 g4 g5
  clear hσ hK K
  refine zc fun K hK => W_if hlo g5 ?_
  rw [if_pos rfl]
  refine zca (hK _ _ (zgk ?_))
  clear hK K
  refine zc fun K hK => zad fun τ => ?_
  simp +decide only [bK, bE, BEq.rfl, Nat.reduceAdd, g4, step_entry, hent]
  refine hK _ _ (zg fun σ3 hσ => ?_)
  have p0 := hσ 0
  have p1 := hσ 1
  have p3 := hσ 3
  have p4 := hσ 4
  have p6 := hσ 6
  simp +decide only [bE, Nat.reduceBeqDiff, BEq.rfl, Nat.reduceAdd, Nat.zero_add, g0, g1, g3, g4] at p0 p1 p3 p4 p6
  clear hσ hK K
  have hcw2 : w2.cell? ⟨b3, 0, none⟩ = some v := by rw [m02.cell _ _ (by omega) (fun h => by have : b3 = rI := h; omega)]; exact hc
  have hbs := zfn (w := w2) (v := e.key) (cs := [e.key]) hL.lu B.uint32 (zbt (hkey e hem')) rfl (by decide) (by decide)
  have e9 : ∀ ρ : Env, (#[(0, T 1)] : Array (Nat × Operand)).map (fun p => (p.1, ev ρ p.2)) = #[(0, ρ 1)] := fun ρ => by simp
  refine zad fun τ => ?_
  simp +decide only [bK, bE, Nat.reduceBeqDiff, BEq.rfl, Nat.reduceAdd, p3, p6, hL.lu.run_load1 rfl, hcw2, e9, hbs]
  obtain ⟨w7, hw7⟩ : ∃ w7, w7 = w2.alloc (.cells [e.key].toArray N.zm) := ⟨_, rfl⟩
  have m7 : Mod w2 w7 zu := by rw [hw7]; exact Mod.alloc _ _ _
  have s7 : w7.heap.size = w2.heap.size + 1 := by rw [hw7]; exact zal _ _
  have r7 : w7.rangeAt w2.heap.size 0 [e.key] := by rw [hw7]; exact zz w2 _ _ _
  rw [← hw7]
  clear hw7 hbs
  have m07 : Mod w w7 (blk rI) := m02.trans' (m7.mono fun _ _ _ h => h.elim)
  have ho7 : Own w7 lo 1 v picked.length (picked.map MapEntry.key) := ho.stay m07 fun k o hk e => hk (by have e : k = rI := e; rw [e]; exact nbI)
  have ndE : ((picked ++ [e]).map MapEntry.born).Nodup := by
   rw [List.map_append, List.nodup_append]
   refine ⟨nd, by simp, fun a ha b hb => ?_⟩
   simp at hb
   subst hb
   intro hab
   subst hab
   rw [← hseen] at ha
   have : seen.contains e.born = true := by simpa using ha
   rw [this] at hns; cases hns
  have hple : picked.length < es.length := by
   have := nodup_le ((picked ++ [e]).map MapEntry.born) (es.map MapEntry.born) ndE fun x hx => by
    obtain ⟨y, hy, rfl⟩ := List.mem_map.1 hx
    refine List.mem_map.2 ⟨y, ?_, rfl⟩
    rcases List.mem_append.1 hy with hy | hy
    ·exact mem y hy
    ·simp at hy; subst hy; exact hem'
   simp at this
   omega
  obtain ⟨v', w8, happ, ho8, m8, hone', hnb⟩ := zgb (P := P) (ty := N.zav) (m := 1) (cb := 1) hL.lu B.uint32 ho7 r7 rfl (fun c hc => by simp at hc; subst hc; exact hkey e hem') (by omega) rfl (fun c hc => by
   obtain ⟨x, hx, rfl⟩ := List.mem_map.1 hc; exact hkey x (mem x hx)) (by omega) (by decide) (by decide)
  have s8 := m8.size
  have t8 : w8.there b3 0 1 := m8.there (by omega) (m07.there (by omega) ht)
  have hsto := hL.lu.run_store1 (w := w8) (b := b3) (o := 0) (v := v') hone' t8
  simp +decide only [bK, happ, hsto]
  clear happ
  obtain ⟨w9, hw9⟩ : ∃ w9, w9 = w8.setCell ⟨b3, 0, none⟩ v' := ⟨_, rfl⟩
  have m9 : Mod w8 w9 (blk b3) := by rw [hw9]; exact Mod.setCell fun _ => rfl
  have s9 : w9.heap.size = w8.heap.size := by rw [hw9]; simp [World.setCell]
  have c8 : w8.cell? ⟨b3, 0, none⟩ = some v := by
   rw [m8.cell _ _ (by omega) (fun h => h nb3), m7.cell _ _ (by omega) (fun h => h)]; exact hcw2
  have c9 : w9.cell? ⟨b3, 0, none⟩ = some v' := by rw [hw9]; exact World.cell?_setCell_same _ _ _ c8
  rw [← hw9]
  clear hw9 hsto
  have hb3' : zao v' b3 := hnb b3 (by omega) nb3
  have hI' : zao v' rI := hnb rI (by omega) nbI
  have nbm : zao v mr := Classical.byContradiction fun h => by have := (ho.blk h).1; omega
  have m09 : Mod w w9 (fun k _ => k = rI ∨ ¬ zao v k ∨ k = b3) := ((m07.mono fun _ _ _ h => .inl h).trans' (m8.mono fun _ _ _ h => .inr (.inl h))).trans' (m9.mono fun _ _ _ h => .inr (.inr h))
  refine zg (K := fun σ' w' => inB 1 Q .normal σ' w') fun σ9 hσ => hstep _ _ e hple ?_
  have q0 := hσ 0
  have q1 := hσ 1
  have q3 := hσ 3
  have q4 := hσ 4
  simp +decide only [bE, Nat.reduceBeqDiff, Nat.reduceAdd, Nat.zero_add, p0, p1, p3, p4] at q0 q1 q3 q4
  refine ⟨q0, q1, q3, q4, mod.trans m09 fun k o hk h => ?_, ?_, ⟨seen.push e.born, ?_, by simp [hseen]⟩, fun x hx => ?_, ?_, ⟨v', c9, m9.there (by omega) t8, ?_, hb3', hI'⟩, by omega, by omega, l3, l4, l5, l6, by omega, l8⟩
  ·rcases h with h | h | h | h
   ·exact h
   ·omega
   ·have := (ho.blk h).1; omega
   ·omega
  ·rw [m09.block mr (by omega) (fun o h => by
    rcases h with h | h | h
    ·omega
    ·exact h nbm
    ·omega)]
   exact map
  ·rw [m9.block rI (by omega) (fun o h => by have : rI = b3 := h; omega), m8.block rI (by omega) (fun o h => h nbI), m7.block rI (by omega) (fun o h => h)]; exact it2
  ·rcases List.mem_append.1 hx with hx | hx
   ·exact mem x hx
   ·simp at hx; subst hx; exact hem'
  ·exact ndE
  ·have := ho8.stay m9 (fun k o h e => h (by have e : k = b3 := e; rw [e]; exact hb3'))
   simpa using this
end
def zdk (l : List (Nat × List UInt8)) : List (Nat × List UInt8) := l.mergeSort fun x y => decide (x.1 ≤ y.1)
theorem zdj (l : List (Nat × List UInt8)) : (zdk l).Perm l := List.mergeSort_perm l _
theorem zmy (l : List (Nat × List UInt8)) : ((zdk l).map Prod.fst).Pairwise (· ≤ ·) := by
 have := List.pairwise_mergeSort (le := fun x y : Nat × List UInt8 => decide (x.1 ≤ y.1)) (fun a b c h1 h2 => by simp at *; omega) (fun a b => by simp; omega) l
 rw [List.pairwise_map]
 exact this.imp fun h => by simpa using h
theorem zsk {l : List (Nat × List UInt8)} (hn : (l.map Prod.fst).Nodup) : ((zdk l).map Prod.fst).Pairwise (· < ·) := by
 have h1 := zmy l
 have h2 : ((zdk l).map Prod.fst).Nodup := ((zdj l).map Prod.fst).nodup_iff.2 hn
 exact (h1.and h2).imp fun ⟨a, b⟩ => by omega
theorem zqo : ∀ {l m : List Nat}, l.Perm m → l.Pairwise (· ≤ ·) → m.Pairwise (· ≤ ·) → l = m
 | [], m, h, _, _ => by rw [List.nil_perm.1 h]
 | x :: l, [], h, _, _ => by simp at h
 | x :: l, y :: m, h, h1, h2 => by
  have a := List.pairwise_cons.1 h1
  have b := List.pairwise_cons.1 h2
  have hxy : x = y := by
   have hx : x ∈ y :: m := h.mem_iff.1 (by simp)
   have hy : y ∈ x :: l := h.mem_iff.2 (by simp)
   rcases List.mem_cons.1 hx with e | hx
   ·exact e
   ·rcases List.mem_cons.1 hy with e | hy
    ·exact e.symm
    ·have := a.1 y hy; have := b.1 x hx; omega
  subst hxy
  rw [zqo (List.perm_cons x |>.1 h) a.2 b.2]
def keyV (k : Nat) : Value := .int .u32 (k : Int)
structure SortOk (P : Program) (N : Nums) : Prop where
 has : zcr P N.zff
 ok : ∀ (w : World) (bv bs c : Nat) (ks : List Nat), w.cell? ⟨bv, 0, none⟩ = some (.slice (some ⟨bs, 0, none⟩) ks.length c) → bv ≠ bs → bs < w.heap.size → ks ≠ [] → ks.length < 4611686018427387904 → w.rangeAt bs 0 (ks.map keyV) → w.there bs 0 ks.length →
  Call P N.zff #[.iface N.zav (.slice (some ⟨bs, 0, none⟩) ks.length c), .func (.func N.zcj) #[] #[.pointer (some ⟨bv, 0, none⟩)]] w fun _ w' =>
   ∃ ks' : List Nat, ks'.Perm ks ∧ ks'.Pairwise (· ≤ ·) ∧ w'.rangeAt bs 0 (ks'.map keyV) ∧ Mod w w' (blk bs)
section
variable {P : Program} {N : Nums}
theorem find_val {w : World} {G : Nat → Prop} {k : Nat} {vl : List UInt8} : ∀ (l : List (Nat × List UInt8)) (es : List MapEntry) (i0 : Nat), zbp w G l es → (l.map Prod.fst).Nodup → (k, vl) ∈ l →
  ∃ i val, Instr.findNow (.int .u32) (.int .u32 k) es i0 = some (some (i, val)) ∧ tagV w G val vl
 | [], es, i0, he, _, hm => by simp at hm
 | (k', l') :: l, es, i0, he, hnd, hm => by
  obtain ⟨v', b, rest, rfl, h2, h3⟩ := he
  simp only [List.map_cons, List.nodup_cons] at hnd
  by_cases hk : k' = k
  ·subst hk
   have e : l' = vl := by
    rcases List.mem_cons.1 hm with e | hm
    ·injection e with _ e; exact e.symm
    ·exact absurd (List.mem_map.2 ⟨_, hm, rfl⟩) hnd.1
   subst e
   exact ⟨i0, v', by simp [Instr.findNow, Instr.sameNow], h2⟩
  ·have hk2 : ((k : Int) == (k' : Int)) = false := by
    have : (k : Int) ≠ (k' : Int) := by omega
    simpa using this
   have hm' : (k, vl) ∈ l := by
    rcases List.mem_cons.1 hm with e | hm
    ·injection e with e _; exact absurd e.symm hk
    ·exact hm
   obtain ⟨i, val, g1, g2⟩ := find_val l rest (i0 + 1) h3 hnd.2 hm'
   exact ⟨i, val, by simp only [Instr.findNow, Instr.sameNow, if_true, hk2, g1], g2⟩
theorem zpj (B : Base P N) (hT : N.zcc ≠ 0) {w : World} {G : Nat → Prop} {mr k : Nat} {l : List (Nat × List UInt8)} {es : Array MapEntry} {ck : Nat} {vl : List UInt8} (hb : w.heap[mr]? = some (.map es ck)) (h6 : zbp w G l es.toList) (h7 : (l.map Prod.fst).Nodup) (hm : (k, vl) ∈ l) :
  ∃ val, (Instr.lookup N.zy (.map (some mr)) (.int .u32 k) false).run P w = .ok val w ∧ tagV w G val vl := by
 obtain ⟨_, _, hmap⟩ := B.tags hT
 obtain ⟨i, val, g1, g2⟩ := find_val (k := k) l es.toList 0 h6 h7 hm
 have hck := MapKept.run_checkKey (P := P) (w := w) (k := .int .u32 k) B.uint32.und rfl es.isEmpty 9999
 have hgo := MapKept.run_getObj_map (P := P) hb
 have hfk := MapKept.run_findKey (P := P) (w := w) (k := .int .u32 k) B.uint32.und g1
 refine ⟨val, ?_, g2⟩
 simp only [Instr.lookup, Sem.run_bind, hmap.run_und, Result.andThen_ok, hgo, Sem.run_pure, hck, hfk]
 rfl
theorem zsn (hL : LU P N) {w : World} {v : Value} : (Instr.makeInterface N.zav v).run P w = .ok (.iface N.zav v) w := by
 simp only [Instr.makeInterface, Sem.run_bind, hL.lu.run_und, Result.andThen_ok]
 rfl
theorem zom {fn : Fn} {a b : Array Value} {w : World} : (Instr.makeFunc fn a b).run P w = .ok (.func fn a b) w := rfl
structure ET (S : List (Nat × List UInt8)) (wS : World) (lo : Nat) (Mo : Nat → Nat → Prop) (I : Nat → List (Nat × List UInt8) → World → Prop) (v0 v1 vr : Value) (j : Nat) (σ : Env) (w : World) : Prop where
 f0 : σ 0 = v0
 f1 : σ 1 = v1
 f7 : σ 7 = vr
 f8 : σ 8 = .int .i64 S.length
 f9 : σ 9 = .int .i64 j
 le : j ≤ S.length
 mod : Mod wS w fun k o => Mo k o ∨ lo ≤ k
 inv : I lo (S.take j) w
def cTellTag (N : Nums) : C :=
 .seq (.ops [⟨some 0, .indexAddr N.zav (V 7) (V 9), 0, none, []⟩, ⟨some 1, .load N.zm (T 0), 0, none, []⟩, ⟨some (11+100), .assign (T 1), 0, none, []⟩])
  (.ops [⟨some 0, .move (V 1), 0, none, []⟩, ⟨some 1, .move (V 11), 0, none, []⟩, ⟨some 2, .move (V 0), 0, none, []⟩, ⟨some 3, .nilCheck (T 2), 0, none, []⟩, ⟨some 4, .fieldAddr N.zcc (T 3) 0, 0, none, []⟩,
   ⟨some 5, .load N.zy (T 4), 0, none, []⟩, ⟨some 6, .move (V 11), 0, none, []⟩, ⟨some 7, .lookup N.zy (T 5) (T 6) false, 0, none, []⟩, ⟨some 8, .call ⟨.value (T 0), #[T 1, T 7], #[N.zm, N.zb]⟩, N.t_, none, []⟩])
def CbOk (P : Program) (f : FuncId) (cap : Value) (lo : Nat) (G : Nat → Prop) (Mo : Nat → Nat → Prop) (I : Nat → List (Nat × List UInt8) → World → Prop) (S : List (Nat × List UInt8)) : Prop :=
 ∀ (j : Nat) (x : Nat × List UInt8) (w1 : World) (v : Value), S[j]? = some x → I lo (S.take j) w1 → lo ≤ w1.heap.size → tagV w1 G v x.2 → Call P f #[.int .u32 x.1, v, cap] w1 fun _ w2 => I lo (S.take (j + 1)) w2 ∧ Mod w1 w2 fun k o => Mo k o ∨ lo ≤ k
theorem tell_round (B : Base P N) (hT : N.zcc ≠ 0) (hL : LU P N) {loc : List Nat} {N' : Nat} {Q : Exit → Env → World → Prop} {S l : List (Nat × List UInt8)} {wS w : World} {lo : Nat} {Mo : Nat → Nat → Prop} {I : Nat → List (Nat × List UInt8) → World → Prop} {G : Nat → Prop}
  {b o bs c mr f j : Nat} {es : Array MapEntry} {ck : Nat} {cap : Value} {σ : Env}
  (hS : ∀ x ∈ S, x ∈ l) (hf : zcr P f) (hcb : CbOk P f cap lo G Mo I S) (hloS : lo ≤ wS.heap.size) (hbs : bs < lo) (hMbs : ∀ o, ¬ Mo bs o) (hblt : b < lo) (hMb : ¬ Mo b o) (hmr : mr < lo) (hMm : ∀ o, ¬ Mo mr o) (hMG : ∀ k, G k → k < lo ∧ ∀ o, ¬ Mo k o)
  (hrow : wS.rangeAt bs 0 (S.map fun x => keyV x.1)) (hcell : wS.cell? ⟨b, o, none⟩ = some (.map (some mr))) (hmap : wS.heap[mr]? = some (.map es ck)) (hent : zbp wS G l es.toList) (hnd : (l.map Prod.fst).Nodup)
  (hj : j < S.length) (h : ET S wS lo Mo I (.pointer (some ⟨b, o, none⟩)) (.func (.func f) #[] #[cap]) (.slice (some ⟨bs, 0, none⟩) S.length c) j σ w)
  (hQ : ∀ σ' w', σ' 9 = .int .i64 j → ET S wS lo Mo I (.pointer (some ⟨b, o, none⟩)) (.func (.func f) #[] #[cap]) (.slice (some ⟨bs, 0, none⟩) S.length c) (j + 1) (upd σ' 9 (.int .i64 ((j + 1 : Nat) : Int))) w' → Q .normal σ' w') :
  W P loc N' (cTellTag N) Q σ w := by
 obtain ⟨f0, f1, f7, f8, f9, _, mod, inv⟩ := h
 obtain ⟨_, hHF, hmt⟩ := B.tags hT
 have hs := mod.size
 have no : ∀ {k o : Nat}, k < lo → ¬ Mo k o → ¬ (Mo k o ∨ lo ≤ k) := fun h1 h2 h => h.elim h2 fun h => by omega
 have hx : S[j]? = some S[j] := List.getElem?_eq_getElem hj
 have hrow' : w.rangeAt bs 0 (S.map fun x => keyV x.1) := mod.rangeAt (by omega) (fun i _ _ => no hbs (hMbs i)) hrow
 have hk : w.cell? ⟨bs, j, none⟩ = some (.int .u32 ((S[j]).1 : Int)) := by
  have := hrow' j _ (by rw [List.getElem?_map, hx]; rfl)
  simpa [keyV] using this
 have hcell' : w.cell? ⟨b, o, none⟩ = some (.map (some mr)) := by rw [mod.cell _ _ (by omega) (no hblt hMb)]; exact hcell
 have hmap' : w.heap[mr]? = some (.map es ck) := by rw [mod.block _ (by omega) (fun o => no hmr (hMm o))]; exact hmap
 have hent' : zbp w G l es.toList := hent.mod mod fun k hk => ⟨by have := (hMG k hk).1; omega, fun o => no (hMG k hk).1 ((hMG k hk).2 o), hk⟩
 obtain ⟨val, hlk, htv⟩ := zpj B hT hmap' hent' hnd (show ((S[j]).1, (S[j]).2) ∈ l from hS _ (List.getElem_mem hj))
 unfold cTellTag
 refine zc fun K hK => zad fun τ => ?_
 simp +decide only [bK, bE, BEq.rfl, Nat.reduceAdd, Nat.zero_add, Nat.mul_one, f7, f9, zx hL.lu B.uint32 hj, B.uint32.run_load1 rfl, hk]
 refine hK _ _ (zg fun σ2 hσ => ?_)
 have g0 := hσ 0
 have g1 := hσ 1
 have g7 := hσ 7
 have g8 := hσ 8
 have g9 := hσ 9
 have g11 := hσ 11
 simp +decide only [bE, Nat.reduceBeqDiff, BEq.rfl, Nat.reduceAdd, Nat.zero_add, f0, f1, f7, f8, f9] at g0 g1 g7 g8 g9 g11
 clear hσ hK K
 refine zad fun τ => ?_
 simp +decide only [bK, bE, Nat.reduceBeqDiff, BEq.rfl, Nat.reduceAdd, Nat.zero_add, g0, g1, g11]
 rw [zaa rfl]
 simp +decide only [bK, bE, Nat.reduceBeqDiff, BEq.rfl, Nat.add_zero, hHF.run, hmt.run_load1 rfl, hcell', g11, zsi, hlk]
 rw [step_callV (f := f) (cap := #[cap]) (by simp +decide only [bE, Nat.reduceBeqDiff, BEq.rfl, ev_tmp]) hf]
 have e2 : ∀ ρ : Env, (#[T 1, T 7] : Array Operand).map (ev ρ) ++ #[cap] = #[ρ 1, ρ 7, cap] := fun ρ => by simp
 rw [e2]
 simp +decide only [bE, Nat.reduceBeqDiff, BEq.rfl]
 have := hcb j S[j] w val hx inv (by omega) htv
 refine Call.mono (Rt' := _) this ?_
 rintro v w2 ⟨hi2, hm2⟩
 refine zg (K := fun σ' w' => Q .normal σ' w') fun σ3 hσ => hQ _ _ ?_ ?_
 ·have := hσ 9
  simp +decide only [bE, Nat.reduceBeqDiff, Nat.reduceAdd, g9] at this
  exact this
 ·have p0 := hσ 0
  have p1 := hσ 1
  have p7 := hσ 7
  have p8 := hσ 8
  simp +decide only [bE, Nat.reduceBeqDiff, Nat.reduceAdd, Nat.zero_add, g0, g1, g7, g8] at p0 p1 p7 p8
  exact ⟨by rw [ze (by decide)]; exact p0, by rw [ze (by decide)]; exact p1, by rw [ze (by decide)]; exact p7, by rw [ze (by decide)]; exact p8, upd_same _ _ _, by omega, mod.trans' hm2, hi2⟩
end
section
variable {P : Program} {N : Nums}
theorem zbp.keys {w : World} {G : Nat → Prop} : ∀ {l : List (Nat × List UInt8)} {es : List MapEntry}, zbp w G l es → es.map MapEntry.key = l.map (fun x => keyV x.1)
 | [], es, h => by simp only [zbp] at h; subst h; rfl
 | (k, x) :: l, es, ⟨v, b, rest, h1, h2, h3⟩ => by subst h1; simp only [List.map_cons, keyV]; rw [zbp.keys h3]; rfl
theorem call_Each (B : Base P N) (F : Fns P N) (hN : N.zfg ≠ 0) (hT : N.zcc ≠ 0) (hL : LU P N) (hS : SortOk P N) {w : World} {b o f : Nat} {v cap : Value} {G : Nat → Prop} {l : List (Nat × List UInt8)}
  (hc : w.cell? ⟨b, o, none⟩ = some v) (hG : ∀ k, G k → k < w.heap.size) (ht : zmr w G v l) (hf : zcr P f) (hsz : l.length < 1099511627776) (I : Nat → List (Nat × List UInt8) → World → Prop) (Mo : Nat → Nat → Prop)
  (hMo : ∀ k o, Mo k o → k < w.heap.size) (hMb : ¬ Mo b o) (hMG : ∀ k, G k → ∀ o, ¬ Mo k o) (hI0 : ∀ w', Mod w w' zu → I w'.heap.size [] w') (hcb : ∀ lo, w.heap.size ≤ lo → CbOk P f cap lo G Mo I (zdk l)) :
  Call P N.zfg #[.pointer (some ⟨b, o, none⟩), .func (.func f) #[] #[cap]] w fun _ w' => ∃ lo, w.heap.size ≤ lo ∧ lo ≤ w'.heap.size ∧ I lo (zdk l) w' ∧ Mod w w' Mo := by
 obtain ⟨_, hHF, hmt⟩ := B.tags hT
 have hb : b < w.heap.size := zag (by rw [hc]; rfl)
 refine (F.PTags_Each hN).1.call rfl fun loc N' hlo => ?_
 unfold zmk
 obtain ⟨σ, hσ⟩ : ∃ σ, σ = zcv #[.pointer (some ⟨b, o, none⟩), .func (.func f) #[] #[cap]] := ⟨_, rfl⟩
 have f0 : σ 0 = .pointer (some ⟨b, o, none⟩) := by rw [hσ]; rfl
 have f1 : σ 1 = .func (.func f) #[] #[cap] := by rw [hσ]; rfl
 rw [← hσ]
 clear hσ
 have emptyS : ∀ σ' : Env, l = [] → retQ P [] (fun _ w' => ∃ lo, w.heap.size ≤ lo ∧ lo ≤ w'.heap.size ∧ I lo (zdk l) w' ∧ Mod w w' Mo) .ret σ' w := by
  intro σ' e
  subst e
  exact ⟨.inr rfl, .tuple #[], rfl, w.heap.size, Nat.le_refl _, Nat.le_refl _, by simpa [zdk] using hI0 w (.refl _ _), .refl _ _⟩
 rcases ht with ⟨rfl, hl⟩ | ⟨mr, es, ck, rfl, hGm, hmap, hborn, hbnd, hent, hknd, hkb⟩
 ·refine zc fun K hK => zc fun K1 hK1 => zad fun τ => ?_
  simp +decide only [bK, bE, BEq.rfl, Nat.reduceAdd, Nat.zero_add, f0]
  rw [zaa rfl]
  simp +decide only [bK, bE, BEq.rfl, Nat.add_zero, hHF.run, hmt.run_load1 rfl, hc, zso hmt.und]
  refine hK1 _ _ (zg fun σ1 hσ => ?_)
  have g2 := hσ 2
  simp +decide only [bE, BEq.rfl, Nat.reduceAdd] at g2
  refine W_if hlo g2 ?_
  rw [if_pos rfl]
  exact zcf (emptyS _ hl)
 have hlen : es.size = l.length := by
  have := congrArg List.length hent.keys
  simpa using this
 refine zc fun K hK => zc fun K1 hK1 => zad fun τ => ?_
 simp +decide only [bK, bE, BEq.rfl, Nat.reduceAdd, Nat.zero_add, f0]
 rw [zaa rfl]
 simp +decide only [bK, bE, BEq.rfl, Nat.add_zero, hHF.run, hmt.run_load1 rfl, hc, zon hmt.und hmap]
 refine hK1 _ _ (zg fun σ1 hσ => ?_)
 have g0 := hσ 0
 have g1 := hσ 1
 have g2 := hσ 2
 simp +decide only [bE, Nat.reduceBeqDiff, BEq.rfl, Nat.reduceAdd, Nat.zero_add, f0, f1] at g0 g1 g2
 clear hσ hK1 K1
 refine W_if hlo g2 ?_
 by_cases h0 : l = []
 ·have : (((es.size : Nat) : Int) == 0) = true := by rw [hlen, h0]; rfl
  rw [if_pos this]
  exact zcf (emptyS _ h0)
 have hpos : 0 < l.length := List.length_pos_iff.2 h0
 have : (((es.size : Nat) : Int) == 0) = false := by rw [hlen]; simp; omega
 rw [if_neg (by rw [this]; simp)]
 refine zca (hK _ _ ?_)
 clear hK K emptyS
 obtain ⟨w1, hmk, ho1, m1, s1⟩ := zqq (w := w) (n := es.size) hL.lu B.uint32 rfl (by omega) (by omega)
 obtain ⟨w2, hw2⟩ : ∃ w2, w2 = w1.alloc (.cells (Value.cells (.slice none 0 0)) N.zav) := ⟨_, rfl⟩
 have m2 : Mod w1 w2 zu := by rw [hw2]; exact Mod.alloc _ _ _
 have s2 : w2.heap.size = w1.heap.size + 1 := by rw [hw2]; exact zal _ _
 have r2 : w2.rangeAt w1.heap.size 0 [.slice none 0 0] := by rw [hw2]; exact zz w1 _ _ _
 have t2 : w2.there w1.heap.size 0 1 := by rw [hw2]; exact zbq w1 _ _
 have hst := hL.lu.run_store1 (w := w2) (b := w1.heap.size) (o := 0) (v := .slice (some ⟨w.heap.size, 0, none⟩) 0 es.size) rfl t2
 obtain ⟨w3, hw3⟩ : ∃ w3, w3 = w2.setCell ⟨w1.heap.size, 0, none⟩ (.slice (some ⟨w.heap.size, 0, none⟩) 0 es.size) := ⟨_, rfl⟩
 have m3 : Mod w2 w3 (blk w1.heap.size) := by rw [hw3]; exact Mod.setCell fun _ => rfl
 have s3 : w3.heap.size = w2.heap.size := by rw [hw3]; simp [World.setCell]
 have c3 : w3.cell? ⟨w1.heap.size, 0, none⟩ = some (.slice (some ⟨w.heap.size, 0, none⟩) 0 es.size) := by rw [hw3]; exact World.cell?_setCell_same _ _ _ (r2 0 _ rfl)
 have hal := hL.lu.run_alloc (w := w1) (.tuple #[])
 refine zc fun K hK => zad fun τ => ?_
 simp +decide only [bK, bE, Nat.reduceBeqDiff, BEq.rfl, Nat.reduceAdd, Nat.zero_add, g0]
 rw [zaa rfl]
 simp +decide only [bK, bE, BEq.rfl, Nat.add_zero, hHF.run, hmt.run_load1 rfl, hc, zon hmt.und hmap, zkb, hmk, hal, ← hw2, hst, ← hw3]
 obtain ⟨b3, hb3⟩ : ∃ b3, b3 = w1.heap.size := ⟨_, rfl⟩
 rw [← hb3] at c3 m3 t2 ⊢
 refine hK _ _ (zg fun σ2 hσ => ?_)
 have p0 := hσ 0
 have p1 := hσ 1
 have p3 := hσ 3
 simp +decide only [bE, Nat.reduceBeqDiff, BEq.rfl, Nat.reduceAdd, Nat.zero_add, g0, g1] at p0 p1 p3
 clear hσ hK K hmk hal hst hw3 hw2 r2
 have m03 : Mod w w3 zu := (m1.trans' m2).fresh m3 fun k o e => by have : k = b3 := e; omega
 have hc3 : w3.cell? ⟨b, o, none⟩ = some (.map (some mr)) := by rw [m03.cell _ _ hb (fun h => h)]; exact hc
 have hmrlt := hG mr hGm
 have hmap3 : w3.heap[mr]? = some (.map es ck) := by rw [m03.block _ hmrlt (fun o h => h)]; exact hmap
 refine zc fun K hK => zc fun K1 hK1 => zad fun τ => ?_
 simp +decide only [bK, bE, BEq.rfl, Nat.reduceAdd, Nat.zero_add, p0]
 rw [zaa rfl]
 simp +decide only [bK, bE, BEq.rfl, Nat.add_zero, hHF.run, hmt.run_load1 rfl, hc3, step_range, run_range_map w3 _ _ _ mr es ck hmt.und hmap3]
 obtain ⟨w4, hw4⟩ : ∃ w4, w4 = w3.alloc (.mapIter (some mr) ck #[] ck) := ⟨_, rfl⟩
 have m4 : Mod w3 w4 zu := by rw [hw4]; exact Mod.alloc _ _ _
 have s4 : w4.heap.size = w3.heap.size + 1 := by rw [hw4]; exact zal _ _
 have i4 : w4.heap[w3.heap.size]? = some (.mapIter (some mr) ck #[] ck) := by rw [hw4]; exact zlk _ _
 rw [← hw4]
 clear hw4
 refine hK1 _ _ (zg fun σ4 hσ => ?_)
 have q0 := hσ 0
 have q1 := hσ 1
 have q3 := hσ 3
 have q4 := hσ 4
 simp +decide only [bE, Nat.reduceBeqDiff, BEq.rfl, Nat.reduceAdd, Nat.zero_add, p0, p1, p3] at q0 q1 q3 q4
 clear hσ hK1 K1
 have m04 : Mod w w4 zu := m03.trans' m4
 have m14 : Mod w1 w4 zu := (m2.fresh m3 fun k o e => by have : k = b3 := e; omega).trans' m4
 have hEC : EC es.toList ck mr w w.heap.size b3 w3.heap.size (.pointer (some ⟨b, o, none⟩)) (.func (.func f) #[] #[cap]) [] σ4 w4 := by
  refine ⟨q0, q1, q3, q4, m04, by rw [m04.block _ hmrlt (fun o h => h)]; simpa using hmap, ⟨#[], i4, rfl⟩, fun e he => by simp at he, by simp, ⟨.slice (some ⟨w.heap.size, 0, none⟩) 0 es.size, ?_, m4.there (by omega) (m3.there (by omega) t2), ho1.stay m14 fun _ _ _ h => h, ?_, ?_⟩, by omega, by omega, by omega, by omega, by omega, by omega, by omega, by omega⟩
  ·rw [m4.cell _ _ (by omega) (fun h => h)]; exact c3
  ·intro b' o' s' n' c' e; injection e with e1 _ _; injection e1 with e2; injection e2 with e3; omega
  ·intro b' o' s' n' c' e; injection e with e1 _ _; injection e1 with e2; injection e2 with e3; omega
 have hkey1 : ∀ e ∈ es.toList, e.key.oneCell' = true := fun e he => by
  have : e.key ∈ es.toList.map MapEntry.key := List.mem_map.2 ⟨e, he, rfl⟩
  rw [hent.keys] at this
  obtain ⟨x, _, hx⟩ := List.mem_map.1 this
  rw [← hx]; rfl
 refine zgk (zpa (fun n σ w' => ∃ picked, n = es.toList.length - picked.length ∧ EC es.toList ck mr w w.heap.size b3 w3.heap.size (.pointer (some ⟨b, o, none⟩)) (.func (.func f) #[] #[cap]) picked σ w') (n := es.toList.length - [].length) ⟨[], rfl, hEC⟩ ?_)
 rintro n σ5 w5 ⟨picked, rfl, h5⟩
 refine zpq B hL hlo hborn hbnd hkey1 (by simp; omega) h5 (fun σ6 w6 h6 hperm => ?_) fun σ6 w6 e hlt h6 => ⟨_, by simp at hlt ⊢; omega, picked ++ [e], rfl, h6⟩
 simp only [zee, inB, if_true]
 refine hK _ _ ?_
 clear hK K h5 hEC i4 ho1
 obtain ⟨r0, r1, r3, _, m06, map6, _, _, _, ⟨v6, hc6, ht6, ho6, nb3, _⟩, _, _, _, _, _, _, _, _⟩ := h6
 obtain ⟨ks, hks, hkp⟩ : ∃ ks : List Nat, picked.map MapEntry.key = ks.map keyV ∧ ks.Perm (l.map Prod.fst) := by
  have hp2 : (picked.map MapEntry.key).Perm ((l.map Prod.fst).map keyV) := by
   have := hperm.map MapEntry.key
   rw [hent.keys] at this
   simpa [Function.comp_def] using this
  refine ⟨picked.map fun e => match e.key with | .int _ k => k.toNat | _ => 0, ?_, ?_⟩
  ·rw [List.map_map]
   refine List.map_congr_left fun e he => ?_
   have : e.key ∈ (l.map Prod.fst).map keyV := hp2.mem_iff.1 (List.mem_map.2 ⟨e, he, rfl⟩)
   obtain ⟨k, _, hk⟩ := List.mem_map.1 this
   simp only [Function.comp, ← hk, keyV]
   simp
  ·have := hp2.map fun v : Value => match v with | .int _ k => k.toNat | _ => 0
   simpa [Function.comp_def, keyV] using this
 have hpl : picked.length = l.length := by have := hperm.length_eq; simpa [hlen] using this
 have hkl : ks.length = l.length := by have := hkp.length_eq; simpa using this
 rw [hks, hpl] at ho6
 obtain ⟨bs, cs, rfl, hb1, hb2, hnc, hth, hrg, _⟩ : ∃ bs c, v6 = .slice (some ⟨bs, 0, none⟩) l.length c ∧ w.heap.size ≤ bs ∧ bs < w6.heap.size ∧ l.length ≤ c ∧ w6.there bs 0 (c * 1) ∧ w6.rangeAt bs 0 (ks.map keyV) ∧ (ks.map keyV).length = l.length * 1 := by
  rcases ho6 with ⟨_, h, _⟩ | h
  ·omega
  ·exact h
 have hb3s : b3 ≠ bs := nb3 bs 0 none _ _ rfl
 have s6 := m06.size
 have hso := hS.ok w6 b3 bs cs ks (by rw [hkl]; exact hc6) hb3s hb2 (fun e => by rw [e] at hkl; simp at hkl; omega) (by omega) hrg (fun i hi => hth i (by omega))
 rw [hkl] at hso
 refine zc fun K hK => zad fun τ => ?_
 simp +decide only [bK, bE, BEq.rfl, Nat.reduceAdd, r3, hL.lu.run_load1 rfl, hc6, zla, zsn hL, zlb, zom]
 have e3 : ∀ ρ : Env, ρ 103 = .pointer (some ⟨b3, 0, none⟩) → (#[V 3] : Array Operand).map (ev ρ) = #[.pointer (some ⟨b3, 0, none⟩)] := fun ρ h => by simp [h]
 have e4 : ∀ ρ : Env, (#[] : Array Operand).map (ev ρ) = #[] := fun ρ => by simp
 rw [zcn hS.has]
 simp +decide only [bK, bE, Nat.reduceBeqDiff, BEq.rfl, e4]
 rw [e3 _ (by simp +decide only [bE, Nat.reduceBeqDiff, r3])]
 refine Call.mono (Rt' := _) hso ?_
 rintro _ w7 ⟨ks', hkp', hks', hrg7, m7⟩
 refine zg (K := fun σ' w' => zee K _ .normal σ' w') fun σ7 hσ => hK _ _ ?_
 have u0 := hσ 0
 have u1 := hσ 1
 have u3 := hσ 3
 simp +decide only [bE, Nat.reduceBeqDiff, Nat.reduceAdd, Nat.zero_add, r0, r1, r3] at u0 u1 u3
 clear hσ hK K hso
 have s7 := m7.size
 have m07 : Mod w w7 zu := m06.fresh m7 fun k o e => by have : k = bs := e; omega
 have hc7 : w7.cell? ⟨b3, 0, none⟩ = some (.slice (some ⟨bs, 0, none⟩) l.length cs) := by
  rw [m7.cell _ _ (zag (by rw [hc6]; rfl)) (fun h => hb3s h)]; exact hc6
 have hkeq : ks' = (zdk l).map Prod.fst := zqo (hkp'.trans (hkp.trans ((zdj l).map Prod.fst).symm)) hks' (zmy l)
 have hSl : (zdk l).length = l.length := (zdj l).length_eq
 refine zc fun K hK => zad fun τ => ?_
 simp +decide only [bK, bE, BEq.rfl, Nat.reduceAdd, u3, hL.lu.run_load1 rfl, hc7, hL.lu.run_len]
 refine hK _ _ (zg fun σ8 hσ => ?_)
 have k0 := hσ 0
 have k1 := hσ 1
 have k7 := hσ 7
 have k8 := hσ 8
 have k9 := hσ 9
 simp +decide only [bE, Nat.reduceBeqDiff, BEq.rfl, Nat.reduceAdd, Nat.zero_add, u0, u1] at k0 k1 k7 k8 k9
 clear hσ hK K
 have no : ∀ {k : Nat} {o : Nat}, Mo k o → w.heap.size ≤ k → False := fun h1 h2 => by have := hMo _ _ h1; omega
 rw [← hSl] at k7 k8
 refine zhp (i := 9) (l := 8) (c := 10) (k := 2) hlo (L := (zdk l).length) (by omega) (ET (zdk l) w7 w7.heap.size Mo I (.pointer (some ⟨b, o, none⟩)) (.func (.func f) #[] #[cap]) (.slice (some ⟨bs, 0, none⟩) (zdk l).length cs)) (fun j σ w h => ⟨h.f9, h.f8, h.le⟩) (fun j σ w b h => ?_) ?_ (fun σ9 w9 h => ?_) (fun j σ' w' hj h => ?_)
 ·exact ⟨by rw [ze (by decide)]; exact h.f0, by rw [ze (by decide)]; exact h.f1, by rw [ze (by decide)]; exact h.f7, by rw [ze (by decide)]; exact h.f8, by rw [ze (by decide)]; exact h.f9, h.le, h.mod, h.inv⟩
 ·exact ⟨k0, k1, k7, k8, k9, Nat.zero_le _, .refl _ _, hI0 w7 m07⟩
 ·have hinv := h.inv
  rw [List.take_length] at hinv
  exact ⟨.inl rfl, .tuple #[], rfl, w7.heap.size, m07.size, h.mod.size, hinv, m07.trans h.mod fun k o hk h => h.elim False.elim fun h => h.elim id fun h => by have := m07.size; omega⟩
 ·refine tell_round B hT hL (l := l) (G := G) (mr := mr) (es := es) (ck := ck) (fun x hx => (zdj l).mem_iff.1 hx) hf (hcb w7.heap.size m07.size) (Nat.le_refl _) (by omega) (fun o h => no h (by omega)) (by omega) hMb (by omega) (hMG mr hGm) (fun k hk => ⟨by have := hG k hk; omega, hMG k hk⟩) ?_ ?_ ?_ ?_ hknd hj h fun σ' w' h1 h2 => ⟨h1, h2⟩
  ·rw [hkeq] at hrg7
   simpa [Function.comp_def] using hrg7
  ·rw [m07.cell _ _ hb (fun h => h)]; exact hc
  ·rw [m07.block _ hmrlt (fun o h => h)]; exact hmap
  ·exact hent.mod m07 fun k hk => ⟨hG k hk, fun _ h => h, hk⟩
end
structure SortT (P : Program) (N : Nums) : Prop where
 has : zcr P N.zff
 out : ∃ (ρ : Go.Shelf.Ren) (i ie : TypeInfo) (f6 f2 : Nat), Go.Proofs.LaysGg.n6 P ρ ∧ ρ.f 6 = N.zff ∧ P.info? N.zav = some i ∧ i.desc = .slice N.zm ∧ P.packed N.zav = false ∧ P.info? N.zm = some ie ∧
  (∀ w, (Extern.Rtype.kind N.zm).run P w = .ok 10 w) ∧ ie.hasPointers = false ∧ ie.bytes = 4 ∧ ie.size = 1 ∧
  P.funcs.findIdx? (·.name == "internal/reflectlite" ++ ".Swapper$" ++ toString 6) = some f6 ∧ P.funcs.findIdx? (·.name == "internal/reflectlite" ++ ".Swapper$" ++ toString 2) = some f2 ∧
  ∀ args W, (callFunc f6 args).run P W = ((Extern.ReflectliteSwapper.swap true args).run P W).andThen fun v w' => .ok (.value v) w'
section
variable {P : Program} {N : Nums}
theorem Mod.grow (w : World) (os : Array Obj) (M : Nat → Nat → Prop) : Mod w (Go.Sort.grow w os) M :=
 .of_blocks rfl rfl rfl (by rw [Go.Sort.size_grow]; omega) fun k hk => Go.Sort.heap_grow_old w os hk
theorem Mod.ahead (w : World) (n : Nat) (M : Nat → Nat → Prop) : Mod w (Go.Sort.ahead w n) M := .of_blocks rfl rfl rfl (Nat.le_refl _) fun _ _ => rfl
theorem znl (enc : Int → Value) (w : World) (bs : Nat) (d : Array Int) (k : Nat) : (Go.Sort.putRow enc w bs 0 d).heap[k]? = if bs = k then (w.heap[k]?).map (Go.Sort.onCells (Go.Sort.putCells enc 0 d)) else w.heap[k]? := by
 simp only [Go.Sort.putRow, Go.Sort.mapBlock, Array.getElem?_modify]
theorem Mod.putRow (enc : Int → Value) (w : World) (bs : Nat) (d : Array Int) : Mod w (Go.Sort.putRow enc w bs 0 d) (blk bs) := by
 have hne : ∀ k, k ≠ bs → (Go.Sort.putRow enc w bs 0 d).heap[k]? = w.heap[k]? := fun k hk => by rw [znl, if_neg (fun e => hk e.symm)]
 have hsame : (Go.Sort.putRow enc w bs 0 d).heap[bs]? = (w.heap[bs]?).map (Go.Sort.onCells (Go.Sort.putCells enc 0 d)) := by rw [znl, if_pos rfl]
 refine ⟨rfl, rfl, rfl, by rw [Go.Sort.size_putRow]; exact Nat.le_refl _, fun k hk hn => hne k fun e => hn 0 e, fun k o hk hn => World.cell?_of_block (hne k fun e => hn e), fun k o hk => ?_, fun k o hk => Go.Sort.frozen?_putRow enc w bs 0 d _, fun k hk => ?_⟩
 ·by_cases e : k = bs
  ·subst e
   simp only [World.cell?, hsame]
   cases w.heap[k]? with
   | none => rfl
   | some ob =>
    cases ob <;> simp [Go.Sort.onCells, Go.Sort.putCells]
  ·rw [World.cell?_of_block (hne k e)]
 ·by_cases e : k = bs
  ·subst e
   simp only [World.shape?, hsame]
   cases w.heap[k]? with
   | none => rfl
   | some ob =>
    cases ob <;> simp [Go.Sort.onCells, Go.Sort.putCells]
  ·simp only [World.shape?, hne k e]
theorem sortOk (B : Base P N) (F : Fns P N) (hN : N.zcj ≠ 0) (hL : LU P N) (hT : SortT P N) : SortOk P N := by
 refine ⟨hT.has, fun w bv bs c ks hv hne hbs hks0 hkl hrg hth => ?_⟩
 obtain ⟨ρ, i, ie, f6, f2, L, hρ, hi, hd, hpk, hie, hke, hp, hby, hs1, hf6, hf2, hx⟩ := hT.out
 have hless1 := (F.PTags_Each_1 hN).has
 obtain ⟨ks0, hks⟩ : ∃ d : Array Int, d = (ks.map fun k : Nat => (k : Int)).toArray := ⟨_, rfl⟩
 have hsz : ks0.size = ks.length := by rw [hks]; simp
 have hget : ∀ t, t < ks.length → ks0[t]! = ((ks.getD t 0 : Nat) : Int) := fun t ht => by
  rw [hks, getElem!_pos _ t (by simpa using ht)]
  simp [List.getD, ht]
 unfold Call
 rw [← hρ]
 by_cases h2 : 2 ≤ ks.length
 ·have hH : Go.Sort.Holds (Value.int .u32) w bs 0 ks0 := by
   intro j hj
   rw [hsz] at hj
   refine ⟨?_, by have := (hth j hj).2; simpa using this⟩
   have := hrg j (keyV (ks.getD j 0)) (by rw [List.getElem?_map, List.getElem?_eq_getElem hj]; simp [List.getD, hj])
   rw [hget j hj]
   exact this
  have hless : Go.Proofs.LessReads P N.zcj #[.pointer (some ⟨bv, 0, none⟩)] (Value.int .u32) Go.Sort.ltInt bs 0 ks0.size w := by
   intro m os dk hdk a b ha hb
   have e : Go.Proofs.sortWorld (Value.int .u32) w bs 0 m dk os = Go.Sort.putRow (Value.int .u32) (Go.Sort.grow (Go.Sort.ahead w m) os) bs 0 dk := by
    unfold Go.Proofs.sortWorld; rw [Go.Sort.putRow_grow _ (Go.Sort.ahead w m) _ bs 0 _ hbs]
   have hHg : Go.Sort.Holds (Value.int .u32) (Go.Sort.grow (Go.Sort.ahead w m) os) bs 0 ks0 := Go.Sort.holds_grow _ _ _ bs 0 ks0 hbs (Go.Sort.holds_ahead _ _ _ _ _ _ hH)
   have hvl : bv < w.heap.size := zag (by rw [hv]; rfl)
   have hc := call_less (st := hL.lu) (w := Go.Proofs.sortWorld (Value.int .u32) w bs 0 m dk os) (bv := bv) (blk := bs) (n := ks.length) (c := c) B F hN (by
    rw [e, Go.Sort.cell?_putRow_other _ _ bs 0 dk _ (.inl hne), Go.Sort.cell?_grow _ _ _ hvl]; exact hv) (g := fun t => dk[t]!) (fun t ht => by
    rw [e]
    have := Go.Sort.cell?_putRow (Value.int .u32) _ bs 0 ks0 dk hHg hdk t (by rw [hdk, hsz]; exact ht)
    simpa using this) (show a < ks.length by rw [← hsz]; exact ha) (show b < ks.length by rw [← hsz]; exact hb)
   refine Calls.mono hc ?_
   rintro ex w' ⟨v, rfl, rfl, rfl⟩
   exact ⟨rfl, 1, rfl⟩
  have hsw : Go.Lib.swapperK ks0.size ie 10 = 6 := by
   have a : (ks0.size == 0) = false := beq_eq_false_iff_ne.2 (by omega)
   have b : (ks0.size == 1) = false := beq_eq_false_iff_ne.2 (by omega)
   simp [Go.Lib.swapperK, hp, hby, a, b]
  have hS := Go.Proofs.Any.sort_Slice_sorted L N.zav N.zm i ie hi hd hpk hie 10 hke hs1 (fun w => B.uint32.run_isAgg) (Value.int .u32) (fun _ => rfl) Go.Sort.ltInt Go.Sort.swo_ltInt N.zcj #[.pointer (some ⟨bv, 0, none⟩)]
   (fun args w => zjc hless1) bs 0 c ks0 (by omega) (by omega) f6 (by rw [hsw]; exact hf6) true hx w hless hH hbs
  rw [hsz] at hS
  refine Calls.mono hS ?_
  rintro e w' ⟨rfl, d', n, os, hperm, hso, rfl⟩
  obtain ⟨hd's, _, hpm⟩ := hperm
  rw [show d'.extract 0 ks.length = d' by rw [← hsz, ← hd's]; simp, show ks0.extract 0 ks.length = ks0 by rw [← hsz]; simp] at hpm
  refine ⟨_, rfl, d'.toList.map Int.toNat, ?_, ?_, ?_, ?_⟩
  ·have := hpm.map Int.toNat
   rw [hks] at this
   simpa [Function.comp_def] using this
  ·have hnn : ∀ x ∈ d'.toList, 0 ≤ x := fun x hx => by
    have := hpm.mem_iff.1 hx
    rw [hks] at this
    simp at this
    obtain ⟨k, _, rfl⟩ := this
    omega
   rw [List.pairwise_map, List.pairwise_iff_getElem]
   intro a b ha hb hab
   have h3 := hso a b (Nat.zero_le _) hab (by rw [← hsz, ← hd's]; simpa using hb)
   rw [getElem!_pos d' a (by simpa using ha), getElem!_pos d' b (by simpa using hb)] at h3
   simp only [Go.Sort.ltInt, decide_eq_false_iff_not] at h3
   simp only [Array.getElem_toList]
   omega
  ·have hds : d'.size = ks.length := by omega
   intro j v hj
   have hjl : j < d'.size := by
    have := (List.getElem?_eq_some_iff.1 hj).1
    simpa using this
   have hH2 : Go.Sort.Holds (Value.int .u32) (Go.Sort.ahead w n) bs 0 ks0 := Go.Sort.holds_ahead _ _ _ _ _ _ hH
   have hc := Go.Sort.cell?_putRow (Value.int .u32) (Go.Sort.ahead w n) bs 0 ks0 d' hH2 hd's j hjl
   rw [Go.Sort.cell?_grow _ _ _ (by rw [Go.Sort.size_putRow]; exact hbs), hc]
   rw [List.getElem?_map, List.getElem?_map] at hj
   have hnn : 0 ≤ d'[j] := by
    have := hpm.mem_iff.1 (show d'[j] ∈ d'.toList by simp)
    rw [hks] at this
    simp at this
    obtain ⟨k, _, h⟩ := this
    omega
   rw [getElem!_pos d' j hjl]
   have : d'.toList[j]? = some d'[j] := by simp [hjl]
   rw [this] at hj
   simp [keyV] at hj
   rw [← hj, Int.max_eq_left hnn]
  ·exact (((Mod.ahead w n _).trans' (Mod.putRow _ _ bs d')).trans' (Mod.grow _ os _))
 ·obtain ⟨k, rfl⟩ : ∃ k, ks = [k] := by
   match ks, hks0, h2 with
   | [k], _, _ => exact ⟨k, rfl⟩
   | a :: b :: l, _, h => simp at h
  have hS := Go.Proofs.Any.sort_Slice_tiny L N.zav N.zm i ie hi hd hpk hie 10 hke (some ⟨bs, 0, none⟩) 1 c (Nat.le_refl _) f2 (by simpa [Go.Lib.swapperK] using hf2) (.func N.zcj) #[] #[.pointer (some ⟨bv, 0, none⟩)] w
  refine Calls.mono hS ?_
  rintro e w' ⟨rfl, os, rfl⟩
  exact ⟨_, rfl, [k], List.Perm.refl _, by simp, (Mod.grow w os zu).rangeAt hbs (fun _ _ _ h => h) hrg, Mod.grow _ _ _⟩
end
section
variable {P : Program} {N : Nums}
def cTagFn (N : Nums) : C := .draw [
 ⟨some 0, .fieldAddr N.zp (V 2) 4, 0, none, []⟩, ⟨some 1, .load N.zdp (T 0), 0, none, [0]⟩, ⟨some 2, .move (V 0), 0, none, []⟩, ⟨some 3, .move (V 1), 0, none, []⟩,
 ⟨some 4, .call ⟨.builtin .append, #[.const (.slice none 0 0), T 3], #[N.zb, N.zb]⟩, N.zb, none, [3]⟩,
 ⟨some 5, .build N.zgi #[(0, T 2), (1, T 4)], 0, none, [2, 4]⟩, ⟨some 6, .buildSlice N.zdp 1 #[(0, T 5)], 0, none, [5]⟩,
 ⟨some 7, .call ⟨.builtin .append, #[T 1, T 6], #[N.zdp, N.zdp]⟩, N.zdp, none, [1, 6, 4]⟩,
 ⟨some 8, .fieldAddr N.zp (V 2) 4, 0, none, [0, 1, 2, 3, 4, 5, 6, 7]⟩, ⟨none, .store N.zdp (T 8) (T 7), 0, none, [8, 7, 7, 0, 1, 2, 3, 4, 5, 6, 7]⟩]
def UI (bT lo : Nat) (l : List (Nat × List UInt8)) (w : World) : Prop :=
 ∃ v cs, w.cell? ⟨bT, 4, none⟩ = some v ∧ w.there bT 4 1 ∧ Own w lo 2 v l.length cs ∧ UsG w (GX (fun _ => False) lo w v) l cs
theorem tag_cb (B : Base P N) (hI : zdx P N) {f : FuncId} (hF : FOk P f 3 (cTagFn N) []) {bT lo : Nat} {G : Nat → Prop} {S : List (Nat × List UInt8)} (hb : bT < lo) (hS : S.length < 1099511627776) (hSl : ∀ x ∈ S, x.2.length < 1099511627776) :
  CbOk P f (.pointer (some ⟨bT, 0, none⟩)) lo G (fun k o => k = bT ∧ o = 4) (UI bT) S := by
 intro j x w v hx hui hlo htv
 obtain ⟨vu, cs, hc, ht, ho, hus⟩ := hui
 obtain ⟨fs', hI1⟩ := hI.tu
 have hjS := (List.getElem?_eq_some_iff.1 hx).1
 have htl : (S.take j).length = j := by rw [List.length_take]; omega
 rw [htl] at ho
 have hxl := hSl x (List.mem_of_getElem? hx)
 have hv : ∀ k, ¬ zao vu k → lo ≤ k ∧ k < w.heap.size := fun k hk => ho.blk hk
 refine hF.call rfl fun loc N' hloc => ?_
 unfold cTagFn
 obtain ⟨σ, hσ⟩ : ∃ σ, σ = zcv #[.int .u32 x.1, v, .pointer (some ⟨bT, 0, none⟩)] := ⟨_, rfl⟩
 have f0 : σ 0 = .int .u32 x.1 := by rw [hσ]; rfl
 have f1 : σ 1 = v := by rw [hσ]; rfl
 have f2 : σ 2 = .pointer (some ⟨bT, 0, none⟩) := by rw [hσ]; rfl
 rw [← hσ]
 clear hσ
 refine zfv B.mixed [true, true, true, true, false, false, false, false, false, false] (by kernel_rfl) (fun w' => w'.cell? ⟨bT, 4, none⟩ = some vu) hc fun τ => ?_
 have e0 : zcp σ τ 100 = .int .u32 x.1 := by rw [← f0]; exact envOf_var σ τ 0
 have e1 : zcp σ τ 101 = v := by rw [← f1]; exact envOf_var σ τ 1
 have e2 : zcp σ τ 102 = .pointer (some ⟨bT, 0, none⟩) := by rw [← f2]; exact envOf_var σ τ 2
 refine za (.pointer (some ⟨bT, 4, none⟩)) (fun w' _ => zh (by
  simp +decide only [ev_tmp, e2, hI.h4.run])) rfl ?_
 refine za vu (fun w' hw => zh (by
  simp +decide only [bE, BEq.rfl, ev_tmp, hI.lg.run_load1 rfl, hw, ldc_some])) rfl ?_
 refine za (.int .u32 x.1) (fun w' hw => by
  rw [zax, ev_tmp]
  simp +decide only [bE, Nat.reduceBeqDiff, Nat.zero_add, f0]) rfl ?_
 refine za v (fun w' hw => by
  rw [zax, ev_tmp]
  simp +decide only [bE, Nat.reduceBeqDiff, Nat.reduceAdd, f1]) rfl ?_
 simp only [zcs, zcu, List.zip_cons_cons, List.zip_nil_right, List.zipWith_cons_cons, List.zipWith_nil_right, List.filter, Bool.not_true, Bool.not_false, List.map, zdc]
 have htvd : tagV w.drew G v x.2 := htv
 obtain ⟨v4, w6, hcp, htv6, m6d⟩ := zga (ty := N.zb) B htvd hxl
 have m6 : Mod w w6 zu := (Mod.drew w zu).trans' m6d
 have s6 := m6.size
 simp +decide only [bK, bE, Nat.reduceBeqDiff, BEq.rfl, Nat.reduceAdd, hcp]
 have c6 : w6.cell? ⟨bT, 4, none⟩ = some vu := by rw [m6.cell _ _ (by omega) (fun h => h)]; exact hc
 refine ⟨c6, ?_⟩
 have hone2 : ∀ c ∈ [Value.int .u32 x.1, v4], c.oneCell' = true := fun c hc => by
  simp at hc; rcases hc with rfl | rfl
  ·rfl
  ·exact htv6.one
 have hbu := tagBuild hI w6 x.1 htv6.one
 have e6 : ∀ ρ : Env, (#[(0, T 2), (1, T 4)] : Array (Nat × Operand)).map (fun p => (p.1, ev ρ p.2)) = #[(0, ρ 2), (1, ρ 4)] := fun ρ => by simp
 have e7 : ∀ ρ : Env, (#[(0, T 5)] : Array (Nat × Operand)).map (fun p => (p.1, ev ρ p.2)) = #[(0, ρ 5)] := fun ρ => by simp
 simp +decide only [bK, bE, Nat.reduceBeqDiff, BEq.rfl, e6, hbu]
 refine ⟨c6, ?_⟩
 have hbs := zfn (w := w6) (v := .agg #[.int .u32 x.1, v4]) (cs := [.int .u32 x.1, v4]) hI.lg hI1 rfl rfl (by decide) (by decide)
 simp +decide only [bK, bE, BEq.rfl, e7, hbs]
 obtain ⟨w7, hw7⟩ : ∃ w7, w7 = w6.alloc (.cells [Value.int .u32 x.1, v4].toArray N.zgi) := ⟨_, rfl⟩
 have m7 : Mod w6 w7 zu := by rw [hw7]; exact Mod.alloc _ _ _
 have s7 : w7.heap.size = w6.heap.size + 1 := by rw [hw7]; exact zal _ _
 have r7 : w7.rangeAt w6.heap.size 0 [.int .u32 x.1, v4] := by rw [hw7]; exact zz w6 _ _ _
 rw [← hw7]
 clear hw7 hbs
 have m07 : Mod w w7 zu := m6.trans' m7
 have c7 : w7.cell? ⟨bT, 4, none⟩ = some vu := by rw [m07.cell _ _ (by omega) (fun h => h)]; exact hc
 refine ⟨c7, ?_⟩
 have ho7 : Own w7 lo 2 vu j cs := ho.stay m07 fun _ _ _ h => h
 obtain ⟨v', w8, happ, ho8, m8, hone', hnb⟩ := zgb (P := P) (ty := N.zdp) (m := 1) (cb := 1) hI.lg hI1 ho7 r7 rfl hone2 (by omega) rfl hus.ones (by omega) (by decide) (by decide)
 simp +decide only [bK, happ]
 clear happ
 have s8 := m8.size
 have nb3 : ¬ ¬ zao vu bT := fun h => by have := (hv bT h).1; omega
 have c8 : w8.cell? ⟨bT, 4, none⟩ = some vu := by rw [m8.cell _ _ (by omega) nb3]; exact c7
 refine ⟨c8, ?_⟩
 simp +decide only [bK, Nat.zero_add, f2, hI.h4.run]
 refine ⟨c8, ?_⟩
 have t8 : w8.there bT 4 1 := m8.there (by omega) (m07.there (by omega) ht)
 have hsto := hI.lg.run_store1 (w := w8) (b := bT) (o := 4) (v := v') hone' t8
 simp +decide only [bK, hsto]
 obtain ⟨w9, hw9⟩ : ∃ w9, w9 = w8.setCell ⟨bT, 4, none⟩ v' := ⟨_, rfl⟩
 have m9' : Mod w8 w9 fun k o => k = bT ∧ o = 4 := by rw [hw9]; exact Mod.setCell fun _ => ⟨rfl, rfl⟩
 have m9 : Mod w8 w9 fun k _ => k = bT := m9'.mono fun _ _ _ h => h.1
 have s9 : w9.heap.size = w8.heap.size := by rw [hw9]; simp [World.setCell]
 have c9 : w9.cell? ⟨bT, 4, none⟩ = some v' := by rw [hw9]; exact World.cell?_setCell_same _ _ _ c8
 rw [← hw9]
 clear hw9 hsto
 obtain ⟨q1, q2, q3, q4⟩ := zlg (w := w) (w6 := w6) (w7 := w7) (w8 := w8) (w9 := w9) (G := fun _ => False) (lo := lo) (v := vu) (v' := v') (b3 := bT) (a := w.heap.size) (fun _ h => h.elim) hb hlo m6 (Nat.le_refl _) m7 m8 m9 hv hnb
 have hfin : UI bT lo (S.take (j + 1)) w9 := by
  refine ⟨v', cs ++ [.int .u32 x.1, v4], c9, m9.there (by omega) t8, ?_, ?_⟩
  ·have htl2 : (S.take (j + 1)).length = j + 1 := by rw [List.length_take]; omega
   rw [htl2]
   exact ho8.stay m9 (fun k o h e => by have : k = bT := e; have := ho8.blk h; omega)
  ·rw [List.take_add_one, hx]
   have htv6' : tagV w6 (GN (fun _ => False) w.heap.size w6.heap.size) v4 x.2 := htv6.imp (fun h => ⟨h.1, h.2⟩) fun h => h.mono fun k hk => .inr hk
   exact (UsG.mod q1 q2 hus).append ⟨v4, [], rfl, htv6'.mod q3 q4, rfl⟩
 refine ⟨.inl rfl, .tuple #[], rfl, hfin, ?_⟩
 refine ((m07.mono fun _ _ _ h => h.elim).trans' (m8.mono fun k o hk h => ?_)).trans' (m9'.mono fun k o _ h => .inl h)
 exact .inr (hv k h).1
end
def znh : Value → List UInt8
 | .agg a => a.toList.map fun v => match v with
  | .int _ n => UInt8.ofNat n.toNat
  | _ => 0
 | .string s => s.data.toList
 | _ => []
def PK.tr : PK → Value → Tr
 | .bool, v => zda (match v with | .bool true => 1 | _ => 0) [] false
 | .uuid, v => zda 0 (znh v) false
 | _, v => zda (match v with | .int _ n => n | _ => 0) [] false
mutual
def Ty.tr : Ty → Val → Tr
 | .pr k _, .num v => k.tr v
 | .txt _, .num v => zda 0 (znh v) false
 | .txt _, .nstr o => zda 0 (o.getD []) o.isNone
 | .txt _, .oct o => zda 0 (o.getD []) o.isNone
 | .arr .., .nilA => .mk 0 [] true [] []
 | .arr _ _ e, .arr _ l => .mk 0 [] false (l.map e.tr) []
 | .row _ _ _ fs, .row l => .mk 0 [] false (fs.trs l) (fs.tgs l)
 | .tv _, .nstr o => zda 0 (o.getD []) o.isNone
 | _, _ => zda 0 [] false
def El.tr : El → Val → Tr
 | .pr k, .num v => k.tr v
 | .txt _, .num v => zda 0 (znh v) false
 | .txt _, .nstr o => zda 0 (o.getD []) o.isNone
 | .txt _, .oct o => zda 0 (o.getD []) o.isNone
 | .row _ _ _ fs, .row l => .mk 0 [] false (fs.trs l) (fs.tgs l)
 | _, _ => zda 0 [] false
def Fds.trs : Fds → List Val → List Tr
 | .cons _ ty r, v :: l => ty.tr v :: r.trs l
 | _, _ => []
def Fds.tgs : Fds → List Val → List (Nat × List UInt8)
 | .tags _, [.tags l] => zdk l
 | .cons _ _ r, _ :: l => r.tgs l
 | _, _ => []
end
def Fds.tr (fs : Fds) (l : List Val) : Tr := .mk 0 [] false (fs.trs l) (fs.tgs l)
def big : Nat := 1099511627776
def PK.okV : PK → Value → Prop
 | .bool, v => ∃ b, v = .bool b
 | .i8, v => ∃ n, v = .int .i8 n ∧ IntKind.i64.wrap n = n
 | .i16, v => ∃ n, v = .int .i16 n ∧ IntKind.i64.wrap n = n
 | .u16, v => ∃ n, v = .int .u16 n ∧ IntKind.i64.wrap n = n
 | .i32, v => ∃ n, v = .int .i32 n ∧ IntKind.i64.wrap n = n
 | .i64, v => ∃ n, v = .int .i64 n ∧ IntKind.i64.wrap n = n
 | .uuid, v => ∃ l : List UInt8, v = .agg (l.map zbo).toArray ∧ l.length = 16
 | .en _, v => ∃ n, v = .int .i8 n ∧ IntKind.i64.wrap n = n
def Txt.okV : Txt → Val → Prop
 | .str, .num v => ∃ l, v = strV l ∧ l.length < big
 | .nstr, .nstr o => (o.getD []).length < big
 | .byt, .oct o => (o.getD []).length < big
 | .nbyt, .oct o => (o.getD []).length < big
 | _, _ => False
mutual
def Ty.okV : Ty → Val → Prop
 | .pr k _, .num v => k.okV v
 | .txt k, v => k.okV v
 | .arr .., .nilA => True
 | .arr _ _ e, .arr sz l => sz = e.sz ∧ l.length < big ∧ ∀ v ∈ l, e.okV v
 | .row _ _ _ fs, .row l => fs.okV l
 | .tv _, v => Txt.nstr.okV v
 | _, _ => False
def El.okV : El → Val → Prop
 | .pr k, .num v => k.okV v
 | .txt k, v => k.okV v
 | .row _ _ _ fs, .row l => fs.okV l
 | _, _ => False
def Fds.okV : Fds → List Val → Prop
 | .nil, l => l = []
 | .tags _, [.tags l] => l.length < big ∧ ∀ x ∈ l, x.2.length < big
 | .cons _ ty r, v :: l => ty.okV v ∧ r.okV l
 | _, _ => False
end
theorem zkw (l : List UInt8) : znh (.agg (l.map zbo).toArray) = l := by
 simp only [znh, List.map_map]
 conv => rhs; rw [← List.map_id l]
 refine List.map_congr_left fun x _ => ?_
 simp [zbo]
theorem zjm (l : List UInt8) : znh (strV l) = l := by simp [znh, strV]
section
variable {P : Program} {N : Nums}
def NBx (a b bT bL bR : Nat) : Nat → Prop := fun k => NB a b k ∧ k ≠ bT ∧ k ≠ bL ∧ k ≠ bR
structure TF (w0 : World) (src : Value) (bT bL bR n i : Nat) (trs : List Tr) (σ : Env) (w : World) : Prop where
 f0 : σ 0 = src
 f1 : σ 1 = .pointer (some ⟨bR, 0, none⟩)
 f2 : σ 2 = .pointer (some ⟨bT, 0, none⟩)
 mod : Mod w0 w zu
 tc : w.rangeAt bT 0 [.int .i64 0, .slice none 0 0, .bool false, .slice (some ⟨bL, 0, none⟩) n n, .slice none 0 0]
 tt : w.there bT 0 5
 tl : w.there bL 0 (n * 5)
 res : ResAt w bR
 len : trs.length = i
 le : i ≤ n
 ex : ∃ css, w.rangeAt bL 0 (css.flatten ++ zs zT (n - i)) ∧ zcb w (NBx w0.heap.size w.heap.size bT bL bR) trs css
 lt : (w0.heap.size ≤ bT ∧ bT < w.heap.size) ∧ (w0.heap.size ≤ bL ∧ bL < w.heap.size) ∧ (w0.heap.size ≤ bR ∧ bR < w.heap.size) ∧ bT ≠ bL ∧ bT ≠ bR ∧ bL ≠ bR
theorem TF.env {w0 w : World} {src : Value} {bT bL bR n i : Nat} {trs : List Tr} {σ σ' : Env} (h : TF w0 src bT bL bR n i trs σ w) (e0 : σ' 0 = σ 0) (e1 : σ' 1 = σ 1) (e2 : σ' 2 = σ 2) : TF w0 src bT bL bR n i trs σ' w :=
 ⟨by rw [e0]; exact h.f0, by rw [e1]; exact h.f1, by rw [e2]; exact h.f2, h.mod, h.tc, h.tt, h.tl, h.res, h.len, h.le, h.ex, h.lt⟩
theorem TF.stay {w0 w w' : World} {src : Value} {bT bL bR n i : Nat} {trs : List Tr} {σ : Env} (h : TF w0 src bT bL bR n i trs σ w) (m : Mod w w' zu) : TF w0 src bT bL bR n i trs σ w' := by
 obtain ⟨f0, f1, f2, mod, tc, tt, tl, res, len, le, ⟨css, hr, hrep⟩, l1, l2, l3, l4⟩ := h
 have := m.size
 exact ⟨f0, f1, f2, mod.trans' m, zaf m tc, m.there (by omega) tt, m.there (by omega) tl, ⟨zaf m res.r, m.there (by omega) res.t⟩, len, le,
  ⟨css, zaf m hr, zcb.mod m (fun k hk => ⟨hk.1.2, fun _ h => h, ⟨hk.1.1, by have := hk.1.2; omega⟩, hk.2⟩) trs hrep⟩, ⟨l1.1, by omega⟩, ⟨l2.1, by omega⟩, ⟨l3.1, by omega⟩, l4⟩
theorem zs_pos (z : List Value) (n : Nat) (h : 0 < n) : zs z n = z ++ zs z (n - 1) := by
 obtain ⟨m, rfl⟩ : ∃ m, n = m + 1 := ⟨n - 1, by omega⟩
 exact zsc z m
theorem flatten_n {l : List (List Value)} {n : Nat} (h : ∀ x ∈ l, x.length = n) : l.flatten.length = l.length * n := by
 induction l with
 | nil => simp
 | cons x l ih =>
  rw [List.flatten_cons, List.length_append, h x (by simp), ih fun y hy => h y (by simp [hy]), List.length_cons, Nat.add_mul]
  omega
theorem zhc (hI : zdx P N) {w0 w w7 : World} {src : Value} {bT bL bR n i : Nat} {trs : List Tr} {σ σ' : Env} {t : Tr} {cs : List Value} (h : TF w0 src bT bL bR n i trs σ w) (hi : i < n) (m : Mod w w7 zu) (hrep : RepT w7 (NB w.heap.size w7.heap.size) t cs)
  (e0 : σ' 0 = σ 0) (e1 : σ' 1 = σ 1) (e2 : σ' 2 = σ 2) :
  ∃ w8, (Instr.storeAt N.zp (.pointer (some ⟨bL, i * 5, none⟩)) (.agg cs.toArray)).run P w7 = .ok () w8 ∧ TF w0 src bT bL bR n (i + 1) (trs ++ [t]) σ' w8 := by
 obtain ⟨fs, hI1⟩ := hI.ti
 have hcl := hrep.len
 have h7 := (h.stay m).env e0 e1 e2
 obtain ⟨f0, f1, f2, mod, tc, tt, tl, res, len, le, ⟨css, hr, hreps⟩, l1, l2, l3, l4, l5, l6⟩ := h7
 have lw := h.lt
 have hcss : css.flatten.length = i * 5 := by rw [flatten_n hreps.len5, hreps.length, len]
 have h5 : w7.there bL (i * 5) 5 := fun j hj => by
  have := tl (i * 5 + j) (by have : (i + 1) * 5 ≤ n * 5 := Nat.mul_le_mul_right _ hi; omega)
  rwa [Nat.zero_add] at this
 have m8 : Mod w7 (w7.setCells bL (i * 5) cs) (rng bL (i * 5) 5) := Mod.setCells cs _ w7 fun _ k h1 h2 => ⟨rfl, h1, by omega⟩
 have s8 : (w7.setCells bL (i * 5) cs).heap.size = w7.heap.size := zep _ _ _
 have s7 := m.size
 obtain ⟨w8, hw8⟩ : ∃ w8, w8 = w7.setCells bL (i * 5) cs := ⟨_, rfl⟩
 refine ⟨w8, by rw [hw8]; exact hI1.run_store (w := w7) (b := bL) (o := i * 5) (v := .agg cs.toArray) (cs := cs) rfl hcl h5 hrep.one, ?_⟩
 have q := zj.1 hr
 rw [hcss, Nat.zero_add, zs_pos _ _ (by omega)] at q
 have q2 := zah cs (i * 5) w7 _ q.2 (by simp [zT, hcl])
 rw [← hw8] at m8 s8 q2
 have hd : (zT ++ zs zT (n - i - 1)).drop cs.length = zs zT (n - (i + 1)) := by
  rw [hcl]
  show (zT ++ zs zT (n - i - 1)).drop zT.length = _
  rw [List.drop_left]; congr 1
 rw [hd] at q2
 refine ⟨f0, f1, f2, mod.fresh m8 fun k o e => by have := e.1; omega, m8.rangeAt (by omega) (fun i _ _ e => l4 e.1) tc, m8.there (by omega) tt, m8.there (by omega) tl, ⟨m8.rangeAt (by omega) (fun i _ _ e => l6 e.1.symm) res.r, m8.there (by omega) res.t⟩,
  by rw [List.length_append, len]; rfl, hi, ⟨css ++ [cs], ?_, ?_⟩, ⟨by omega, by omega⟩, ⟨by omega, by omega⟩, ⟨by omega, by omega⟩, l4, l5, l6⟩
 ·rw [List.flatten_append, List.append_assoc, zj]
  refine ⟨m8.rangeAt (by omega) (fun j h1 h2 e => by have := e.2.1; omega) q.1, ?_⟩
  rw [hcss, Nat.zero_add]
  simpa using q2
 ·refine (zcb.mod m8 (fun k hk => ⟨hk.1.2, fun o e => hk.2.2.1 e.1, ⟨hk.1.1, by have := hk.1.2; omega⟩, hk.2⟩) trs hreps).append ⟨cs, [], rfl, RepT.mod m8 (fun k hk => ⟨hk.2, fun o e => by have := e.1; have := hk.1; omega, ⟨by have := hk.1; omega, by have := hk.2; omega⟩, ?_⟩) t hrep, rfl⟩
  have := hk.1
  omega
end
section
variable {P : Program} {N : Nums}
def cTNum (N : Nums) (Tt idx ft i : Nat) : C := .draw [
 ⟨some 0, .fieldAddr N.zp (V 2) 3, 0, none, []⟩, ⟨some 1, .load N.zi (T 0), 0, none, [0]⟩, ⟨some 2, .move (V 0), 0, none, []⟩, ⟨some 3, .nilCheck (T 2), 0, none, [2]⟩, ⟨some 4, .fieldAddr Tt (T 3) idx, 0, none, [3]⟩, ⟨some 5, .load ft (T 4), 0, none, [4]⟩,
 ⟨some 6, .convert ft N.zef (T 5), 0, none, [5]⟩, ⟨some 7, .build N.zp #[(0, T 6)], 0, none, [6]⟩,
 ⟨some 8, .indexAddr N.zi (T 1) (.const (.int .i64 i)), 0, none, [1, 0, 1, 2, 3, 4, 5, 6, 7]⟩, ⟨none, .store N.zp (T 8) (T 7), 0, none, [8, 7, 0, 1, 2, 3, 4, 5, 6, 7]⟩]
theorem zsa (B : Base P N) (F : Fns P N) (hI : zdx P N) {loc : List Nat} {N' : Nat} {Q : Exit → Env → World → Prop} {w0 w : World} {b oo off Tt idx bT bL bR n i : Nat} {trs : List Tr} {σ : Env} {ft : TypeId} {k : IntKind} {by' : Nat} {z : Value} {x : Int} (hft : TI P ft (.int k) 1 by' z) (hx : IntKind.i64.wrap x = x)
  (h : TF w0 (.pointer (some ⟨b, oo, none⟩)) bT bL bR n i trs σ w) (hi : i < n) (hT : HF P Tt idx off) (hc : w0.cell? ⟨b, oo + off, none⟩ = some (.int k x))
  (hQ : ∀ σ' w', TF w0 (.pointer (some ⟨b, oo, none⟩)) bT bL bR n (i + 1) (trs ++ [zda x [] false]) σ' w' → Q .normal σ' w') : W P loc N' (cTNum N Tt idx ft i) Q σ w := by
 obtain ⟨fs, hI1⟩ := hI.ti
 have f0 := h.f0
 have f1 := h.f1
 have f2 := h.f2
 have cT : w.cell? ⟨bT, 3, none⟩ = some (.slice (some ⟨bL, 0, none⟩) n n) := h.tc 3 _ rfl
 have cF : w.cell? ⟨b, oo + off, none⟩ = some (.int k x) := by rw [h.mod.cell _ _ (zag (by rw [hc]; rfl)) (fun h => h)]; exact hc
 have st : ∀ {w' : World} {k o : Nat} {v : Value}, Mod w w' zu → w.cell? ⟨k, o, none⟩ = some v → w'.cell? ⟨k, o, none⟩ = some v := fun m hc => by rw [m.cell _ _ (zag (by rw [hc]; rfl)) (fun h => h)]; exact hc
 have md : Mod w w.drew zu := Mod.drew _ _
 refine zfv B.mixed [true, true, true, true, true, true, false, false, false, false] (by kernel_rfl) (fun w' => Mod w w' zu) md fun τ => ?_
 have e2 : zcp σ τ 102 = .pointer (some ⟨bT, 0, none⟩) := by rw [← f2]; exact envOf_var σ τ 2
 refine za (.pointer (some ⟨bT, 3, none⟩)) (fun w' _ => zh (by
  simp +decide only [ev_tmp, e2, hI.h3.run])) rfl ?_
 refine za (.slice (some ⟨bL, 0, none⟩) n n) (fun w' hw => zh (by
  simp +decide only [bE, BEq.rfl, ev_tmp, hI.lt.run_load1 rfl, st hw cT, ldc_some])) rfl ?_
 refine za (.pointer (some ⟨b, oo, none⟩)) (fun w' hw => by
  rw [zax, ev_tmp]
  simp +decide only [bE, Nat.reduceBeqDiff, Nat.zero_add, f0]) rfl ?_
 refine za (.pointer (some ⟨b, oo, none⟩)) (fun w' hw => rfl) rfl ?_
 refine za (.pointer (some ⟨b, oo + off, none⟩)) (fun w' hw => zh (by
  simp +decide only [bE, BEq.rfl, ev_tmp, hT.run])) rfl ?_
 refine za (.int k x) (fun w' hw => zh (by
  simp +decide only [bE, BEq.rfl, ev_tmp, hft.run_load1 rfl, st hw cF, ldc_some])) rfl ?_
 simp only [zcs, zcu, List.zip_cons_cons, List.zip_nil_right, List.zipWith_cons_cons, List.zipWith_nil_right, List.filter, Bool.not_true, Bool.not_false, List.map, zdc]
 simp +decide only [bK, bE, Nat.reduceBeqDiff, BEq.rfl, zck hft B.int64 ⟨_, rfl⟩, hx]
 refine ⟨md, ?_⟩
 have e6 : ∀ ρ : Env, (#[(0, T 6)] : Array (Nat × Operand)).map (fun p => (p.1, ev ρ p.2)) = #[(0, ρ 6)] := fun ρ => by simp
 simp +decide only [bK, bE, BEq.rfl, e6, zrq hI]
 refine ⟨md, ?_⟩
 simp +decide only [bK, Nat.zero_add, zx hI.lt hI1 hi]
 refine ⟨md, ?_⟩
 obtain ⟨w8, hst, htf⟩ := zhc hI (w7 := w.drew) (σ' := σ) h hi md (zer (n := x) (s := []) (nl := false) zgp) rfl rfl rfl
 simp +decide only [bK, hst]
 refine zg (K := fun σ' w' => Q .normal σ' w') fun σ9 hσ => hQ _ _ (htf.env ?_ ?_ ?_)
 ·rw [hσ 0]; simp +decide only [bE, Nat.reduceBeqDiff, Nat.zero_add]
 ·rw [hσ 1]; simp +decide only [bE, Nat.reduceBeqDiff, Nat.reduceAdd]
 ·rw [hσ 2]; simp +decide only [bE, Nat.reduceBeqDiff, Nat.reduceAdd]
def cTNum64 (N : Nums) (Tt idx ft i : Nat) : C := .draw [
 ⟨some 0, .fieldAddr N.zp (V 2) 3, 0, none, []⟩, ⟨some 1, .load N.zi (T 0), 0, none, [0]⟩, ⟨some 2, .move (V 0), 0, none, []⟩, ⟨some 3, .nilCheck (T 2), 0, none, [2]⟩, ⟨some 4, .fieldAddr Tt (T 3) idx, 0, none, [3]⟩, ⟨some 5, .load ft (T 4), 0, none, [4]⟩,
 ⟨some 6, .build N.zp #[(0, T 5)], 0, none, [5]⟩,
 ⟨some 7, .indexAddr N.zi (T 1) (.const (.int .i64 i)), 0, none, [1, 0, 1, 2, 3, 4, 5, 6]⟩, ⟨none, .store N.zp (T 7) (T 6), 0, none, [7, 6, 0, 1, 2, 3, 4, 5, 6]⟩]
theorem W_tNum64 (B : Base P N) (F : Fns P N) (hI : zdx P N) {loc : List Nat} {N' : Nat} {Q : Exit → Env → World → Prop} {w0 w : World} {b oo off Tt idx bT bL bR n i : Nat} {trs : List Tr} {σ : Env} {ft : TypeId} {by' : Nat} {z : Value} {x : Int} (hft : TI P ft (.int .i64) 1 by' z)
  (h : TF w0 (.pointer (some ⟨b, oo, none⟩)) bT bL bR n i trs σ w) (hi : i < n) (hT : HF P Tt idx off) (hc : w0.cell? ⟨b, oo + off, none⟩ = some (.int .i64 x))
  (hQ : ∀ σ' w', TF w0 (.pointer (some ⟨b, oo, none⟩)) bT bL bR n (i + 1) (trs ++ [zda x [] false]) σ' w' → Q .normal σ' w') : W P loc N' (cTNum64 N Tt idx ft i) Q σ w := by
 obtain ⟨fs, hI1⟩ := hI.ti
 have f0 := h.f0
 have f1 := h.f1
 have f2 := h.f2
 have cT : w.cell? ⟨bT, 3, none⟩ = some (.slice (some ⟨bL, 0, none⟩) n n) := h.tc 3 _ rfl
 have cF : w.cell? ⟨b, oo + off, none⟩ = some (.int .i64 x) := by rw [h.mod.cell _ _ (zag (by rw [hc]; rfl)) (fun h => h)]; exact hc
 have st : ∀ {w' : World} {k o : Nat} {v : Value}, Mod w w' zu → w.cell? ⟨k, o, none⟩ = some v → w'.cell? ⟨k, o, none⟩ = some v := fun m hc => by rw [m.cell _ _ (zag (by rw [hc]; rfl)) (fun h => h)]; exact hc
 have md : Mod w w.drew zu := Mod.drew _ _
 refine zfv B.mixed [true, true, true, true, true, true, false, false, false] (by kernel_rfl) (fun w' => Mod w w' zu) md fun τ => ?_
 have e2 : zcp σ τ 102 = .pointer (some ⟨bT, 0, none⟩) := by rw [← f2]; exact envOf_var σ τ 2
 refine za (.pointer (some ⟨bT, 3, none⟩)) (fun w' _ => zh (by
  simp +decide only [ev_tmp, e2, hI.h3.run])) rfl ?_
 refine za (.slice (some ⟨bL, 0, none⟩) n n) (fun w' hw => zh (by
  simp +decide only [bE, BEq.rfl, ev_tmp, hI.lt.run_load1 rfl, st hw cT, ldc_some])) rfl ?_
 refine za (.pointer (some ⟨b, oo, none⟩)) (fun w' hw => by
  rw [zax, ev_tmp]
  simp +decide only [bE, Nat.reduceBeqDiff, Nat.zero_add, f0]) rfl ?_
 refine za (.pointer (some ⟨b, oo, none⟩)) (fun w' hw => rfl) rfl ?_
 refine za (.pointer (some ⟨b, oo + off, none⟩)) (fun w' hw => zh (by
  simp +decide only [bE, BEq.rfl, ev_tmp, hT.run])) rfl ?_
 refine za (.int .i64 x) (fun w' hw => zh (by
  simp +decide only [bE, BEq.rfl, ev_tmp, hft.run_load1 rfl, st hw cF, ldc_some])) rfl ?_
 simp only [zcs, zcu, List.zip_cons_cons, List.zip_nil_right, List.zipWith_cons_cons, List.zipWith_nil_right, List.filter, Bool.not_true, Bool.not_false, List.map, zdc]
 have e6 : ∀ ρ : Env, (#[(0, T 5)] : Array (Nat × Operand)).map (fun p => (p.1, ev ρ p.2)) = #[(0, ρ 5)] := fun ρ => by simp
 simp +decide only [bK, bE, Nat.reduceBeqDiff, BEq.rfl, e6, zrq hI]
 refine ⟨md, ?_⟩
 simp +decide only [bK, Nat.zero_add, zx hI.lt hI1 hi]
 refine ⟨md, ?_⟩
 obtain ⟨w8, hst, htf⟩ := zhc hI (w7 := w.drew) (σ' := σ) h hi md (zer (n := x) (s := []) (nl := false) zgp) rfl rfl rfl
 simp +decide only [bK, hst]
 refine zg (K := fun σ' w' => Q .normal σ' w') fun σ9 hσ => hQ _ _ (htf.env ?_ ?_ ?_)
 ·rw [hσ 0]; simp +decide only [bE, Nat.reduceBeqDiff, Nat.zero_add]
 ·rw [hσ 1]; simp +decide only [bE, Nat.reduceBeqDiff, Nat.reduceAdd]
 ·rw [hσ 2]; simp +decide only [bE, Nat.reduceBeqDiff, Nat.reduceAdd]
def cTStr (N : Nums) (Tt idx i : Nat) : C := .draw [
 ⟨some 0, .fieldAddr N.zp (V 2) 3, 0, none, []⟩, ⟨some 1, .load N.zi (T 0), 0, none, [0]⟩, ⟨some 2, .move (V 0), 0, none, []⟩, ⟨some 3, .nilCheck (T 2), 0, none, [2]⟩, ⟨some 4, .fieldAddr Tt (T 3) idx, 0, none, [3]⟩, ⟨some 5, .load N.zaj (T 4), 0, none, [4]⟩,
 ⟨some 6, .convert N.zaj N.zb (T 5), 0, none, [5]⟩, ⟨some 7, .build N.zp #[(1, T 6)], 0, none, [6]⟩,
 ⟨some 8, .indexAddr N.zi (T 1) (.const (.int .i64 i)), 0, none, [1, 0, 1, 2, 3, 4, 5, 6, 7]⟩, ⟨none, .store N.zp (T 8) (T 7), 0, none, [8, 7, 0, 1, 2, 3, 4, 5, 6, 7]⟩]
theorem W_tStr (B : Base P N) (F : Fns P N) (hI : zdx P N) {loc : List Nat} {N' : Nat} {Q : Exit → Env → World → Prop} {w0 w : World} {b oo off Tt idx bT bL bR n i : Nat} {trs : List Tr} {σ : Env} {s : List UInt8}
  (h : TF w0 (.pointer (some ⟨b, oo, none⟩)) bT bL bR n i trs σ w) (hi : i < n) (hT : HF P Tt idx off) (hc : w0.cell? ⟨b, oo + off, none⟩ = some (strV s))
  (hQ : ∀ σ' w', TF w0 (.pointer (some ⟨b, oo, none⟩)) bT bL bR n (i + 1) (trs ++ [zda 0 s false]) σ' w' → Q .normal σ' w') : W P loc N' (cTStr N Tt idx i) Q σ w := by
 obtain ⟨fs, hI1⟩ := hI.ti
 have f0 := h.f0
 have f1 := h.f1
 have f2 := h.f2
 have cT : w.cell? ⟨bT, 3, none⟩ = some (.slice (some ⟨bL, 0, none⟩) n n) := h.tc 3 _ rfl
 have cF : w.cell? ⟨b, oo + off, none⟩ = some (strV s) := by rw [h.mod.cell _ _ (zag (by rw [hc]; rfl)) (fun h => h)]; exact hc
 have st : ∀ {w' : World} {k o : Nat} {v : Value}, Mod w w' zu → w.cell? ⟨k, o, none⟩ = some v → w'.cell? ⟨k, o, none⟩ = some v := fun m hc => by rw [m.cell _ _ (zag (by rw [hc]; rfl)) (fun h => h)]; exact hc
 have md : Mod w w.drew zu := Mod.drew _ _
 refine zfv B.mixed [true, true, true, true, true, true, false, false, false, false] (by kernel_rfl) (fun w' => Mod w w' zu) md fun τ => ?_
 have e2 : zcp σ τ 102 = .pointer (some ⟨bT, 0, none⟩) := by rw [← f2]; exact envOf_var σ τ 2
 refine za (.pointer (some ⟨bT, 3, none⟩)) (fun w' _ => zh (by
  simp +decide only [ev_tmp, e2, hI.h3.run])) rfl ?_
 refine za (.slice (some ⟨bL, 0, none⟩) n n) (fun w' hw => zh (by
  simp +decide only [bE, BEq.rfl, ev_tmp, hI.lt.run_load1 rfl, st hw cT, ldc_some])) rfl ?_
 refine za (.pointer (some ⟨b, oo, none⟩)) (fun w' hw => by
  rw [zax, ev_tmp]
  simp +decide only [bE, Nat.reduceBeqDiff, Nat.zero_add, f0]) rfl ?_
 refine za (.pointer (some ⟨b, oo, none⟩)) (fun w' hw => rfl) rfl ?_
 refine za (.pointer (some ⟨b, oo + off, none⟩)) (fun w' hw => zh (by
  simp +decide only [bE, BEq.rfl, ev_tmp, hT.run])) rfl ?_
 refine za (strV s) (fun w' hw => zh (by
  simp +decide only [bE, BEq.rfl, ev_tmp, B.string.run_load1 rfl, st hw cF, ldc_some])) rfl ?_
 simp only [zcs, zcu, List.zip_cons_cons, List.zip_nil_right, List.zipWith_cons_cons, List.zipWith_nil_right, List.filter, Bool.not_true, Bool.not_false, List.map, zdc]
 obtain ⟨v', w6, hconv, htv, m6⟩ := zhu B w.drew s
 have mw := md.trans' m6
 have nbw : ∀ k, NB w.drew.heap.size w6.heap.size k → NB w.heap.size w6.heap.size k := fun k h => h
 simp +decide only [bK, bE, Nat.reduceBeqDiff, BEq.rfl, hconv]
 refine ⟨mw, ?_⟩
 have e6 : ∀ ρ : Env, (#[(1, T 6)] : Array (Nat × Operand)).map (fun p => (p.1, ev ρ p.2)) = #[(1, ρ 6)] := fun ρ => by simp
 simp +decide only [bK, bE, BEq.rfl, e6, zjk hI _ htv.one]
 refine ⟨mw, ?_⟩
 simp +decide only [bK, Nat.zero_add, zx hI.lt hI1 hi]
 refine ⟨mw, ?_⟩
 obtain ⟨w8, hst, htf⟩ := zhc hI (w7 := w6) (σ' := σ) h hi mw (zer (n := 0) (nl := false) (htv.imp (fun h => ⟨h.1, h.2⟩) fun h => h.mono nbw)) rfl rfl rfl
 simp +decide only [bK, hst]
 refine zg (K := fun σ' w' => Q .normal σ' w') fun σ9 hσ => hQ _ _ (htf.env ?_ ?_ ?_)
 ·rw [hσ 0]; simp +decide only [bE, Nat.reduceBeqDiff, Nat.zero_add]
 ·rw [hσ 1]; simp +decide only [bE, Nat.reduceBeqDiff, Nat.reduceAdd]
 ·rw [hσ 2]; simp +decide only [bE, Nat.reduceBeqDiff, Nat.reduceAdd]
def cTBool (N : Nums) (Tt idx i : Nat) : C := .draw [
 ⟨some 0, .fieldAddr N.zp (V 2) 3, 0, none, []⟩, ⟨some 1, .load N.zi (T 0), 0, none, [0]⟩, ⟨some 2, .move (V 0), 0, none, []⟩, ⟨some 3, .nilCheck (T 2), 0, none, [2]⟩, ⟨some 4, .fieldAddr Tt (T 3) idx, 0, none, [3]⟩, ⟨some 5, .load N.zbg (T 4), 0, none, [4]⟩,
 ⟨some 6, .call ⟨.value (.func N.zge), #[T 5], #[N.zbg]⟩, N.zp, none, [5]⟩,
 ⟨some 7, .indexAddr N.zi (T 1) (.const (.int .i64 i)), 0, none, [1, 0, 1, 2, 3, 4, 5, 6]⟩, ⟨none, .store N.zp (T 7) (T 6), 0, none, [7, 6, 6, 0, 1, 2, 3, 4, 5, 6]⟩]
theorem W_tBool (B : Base P N) (F : Fns P N) (hI : zdx P N) {loc : List Nat} {N' : Nat} {Q : Exit → Env → World → Prop} {w0 w : World} {b oo off Tt idx bT bL bR n i : Nat} {trs : List Tr} {σ : Env} {x : Bool} (hN : N.zge ≠ 0)
  (h : TF w0 (.pointer (some ⟨b, oo, none⟩)) bT bL bR n i trs σ w) (hi : i < n) (hT : HF P Tt idx off) (hc : w0.cell? ⟨b, oo + off, none⟩ = some (.bool x))
  (hQ : ∀ σ' w', TF w0 (.pointer (some ⟨b, oo, none⟩)) bT bL bR n (i + 1) (trs ++ [zda (if x then 1 else 0) [] false]) σ' w' → Q .normal σ' w') : W P loc N' (cTBool N Tt idx i) Q σ w := by
 obtain ⟨fs, hI1⟩ := hI.ti
 have f0 := h.f0
 have f1 := h.f1
 have f2 := h.f2
 have cT : w.cell? ⟨bT, 3, none⟩ = some (.slice (some ⟨bL, 0, none⟩) n n) := h.tc 3 _ rfl
 have cF : w.cell? ⟨b, oo + off, none⟩ = some (.bool x) := by rw [h.mod.cell _ _ (zag (by rw [hc]; rfl)) (fun h => h)]; exact hc
 have st : ∀ {w' : World} {k o : Nat} {v : Value}, Mod w w' zu → w.cell? ⟨k, o, none⟩ = some v → w'.cell? ⟨k, o, none⟩ = some v := fun m hc => by rw [m.cell _ _ (zag (by rw [hc]; rfl)) (fun h => h)]; exact hc
 have md : Mod w w.drew zu := Mod.drew _ _
 refine zfv B.mixed [true, true, true, true, true, true, false, false, false] (by kernel_rfl) (fun w' => Mod w w' zu) md fun τ => ?_
 have e2 : zcp σ τ 102 = .pointer (some ⟨bT, 0, none⟩) := by rw [← f2]; exact envOf_var σ τ 2
 refine za (.pointer (some ⟨bT, 3, none⟩)) (fun w' _ => zh (by
  simp +decide only [ev_tmp, e2, hI.h3.run])) rfl ?_
 refine za (.slice (some ⟨bL, 0, none⟩) n n) (fun w' hw => zh (by
  simp +decide only [bE, BEq.rfl, ev_tmp, hI.lt.run_load1 rfl, st hw cT, ldc_some])) rfl ?_
 refine za (.pointer (some ⟨b, oo, none⟩)) (fun w' hw => by
  rw [zax, ev_tmp]
  simp +decide only [bE, Nat.reduceBeqDiff, Nat.zero_add, f0]) rfl ?_
 refine za (.pointer (some ⟨b, oo, none⟩)) (fun w' hw => rfl) rfl ?_
 refine za (.pointer (some ⟨b, oo + off, none⟩)) (fun w' hw => zh (by
  simp +decide only [bE, BEq.rfl, ev_tmp, hT.run])) rfl ?_
 refine za (.bool x) (fun w' hw => zh (by
  simp +decide only [bE, BEq.rfl, ev_tmp, B.bool.run_load1 rfl, st hw cF, ldc_some])) rfl ?_
 simp only [zcs, zcu, List.zip_cons_cons, List.zip_nil_right, List.zipWith_cons_cons, List.zipWith_nil_right, List.filter, Bool.not_true, Bool.not_false, List.map, zdc]
 rw [zak (F.boolTree hN).has]
 simp +decide only [bK, bE, Nat.reduceBeqDiff, BEq.rfl]
 refine Call.mono (zpt B F hI hN w.drew x) ?_
 rintro _ w6 ⟨cs, rfl, hrep, m6⟩
 have mw := md.trans' m6
 refine ⟨mw, ?_⟩
 simp +decide only [bK, Nat.zero_add, zx hI.lt hI1 hi]
 refine ⟨mw, ?_⟩
 obtain ⟨w8, hst, htf⟩ := zhc hI (w7 := w6) (σ' := σ) h hi mw hrep rfl rfl rfl
 simp +decide only [bK, hst]
 refine zg (K := fun σ' w' => Q .normal σ' w') fun σ9 hσ => hQ _ _ (htf.env ?_ ?_ ?_)
 ·rw [hσ 0]; simp +decide only [bE, Nat.reduceBeqDiff, Nat.zero_add]
 ·rw [hσ 1]; simp +decide only [bE, Nat.reduceBeqDiff, Nat.reduceAdd]
 ·rw [hσ 2]; simp +decide only [bE, Nat.reduceBeqDiff, Nat.reduceAdd]
def cTOct (N : Nums) (Tt idx i : Nat) : C := .draw [
 ⟨some 0, .fieldAddr N.zp (V 2) 3, 0, none, []⟩, ⟨some 1, .load N.zi (T 0), 0, none, [0]⟩, ⟨some 2, .move (V 0), 0, none, []⟩, ⟨some 3, .nilCheck (T 2), 0, none, [2]⟩, ⟨some 4, .fieldAddr Tt (T 3) idx, 0, none, [3]⟩, ⟨some 5, .load N.zb (T 4), 0, none, [4]⟩,
 ⟨some 6, .call ⟨.value (.func N.zem), #[T 5], #[N.zb]⟩, N.zp, none, [5]⟩,
 ⟨some 7, .indexAddr N.zi (T 1) (.const (.int .i64 i)), 0, none, [1, 0, 1, 2, 3, 4, 5, 6]⟩, ⟨none, .store N.zp (T 7) (T 6), 0, none, [7, 6, 6, 0, 1, 2, 3, 4, 5, 6]⟩]
theorem W_tOct (B : Base P N) (F : Fns P N) (hI : zdx P N) {loc : List Nat} {N' : Nat} {Q : Exit → Env → World → Prop} {w0 w : World} {b oo off Tt idx bT bL bR n i : Nat} {trs : List Tr} {σ : Env} {x : Option (List UInt8)} {v : Value} {G : Nat → Prop} (hN : N.zem ≠ 0) (hG : ∀ k, G k → k < w0.heap.size) (hx : OctG w0 G v x) (hl : (x.getD []).length < 1099511627776)
  (h : TF w0 (.pointer (some ⟨b, oo, none⟩)) bT bL bR n i trs σ w) (hi : i < n) (hT : HF P Tt idx off) (hc : w0.cell? ⟨b, oo + off, none⟩ = some (v))
  (hQ : ∀ σ' w', TF w0 (.pointer (some ⟨b, oo, none⟩)) bT bL bR n (i + 1) (trs ++ [zda 0 (x.getD []) x.isNone]) σ' w' → Q .normal σ' w') : W P loc N' (cTOct N Tt idx i) Q σ w := by
 obtain ⟨fs, hI1⟩ := hI.ti
 have f0 := h.f0
 have f1 := h.f1
 have f2 := h.f2
 have cT : w.cell? ⟨bT, 3, none⟩ = some (.slice (some ⟨bL, 0, none⟩) n n) := h.tc 3 _ rfl
 have cF : w.cell? ⟨b, oo + off, none⟩ = some (v) := by rw [h.mod.cell _ _ (zag (by rw [hc]; rfl)) (fun h => h)]; exact hc
 have st : ∀ {w' : World} {k o : Nat} {v : Value}, Mod w w' zu → w.cell? ⟨k, o, none⟩ = some v → w'.cell? ⟨k, o, none⟩ = some v := fun m hc => by rw [m.cell _ _ (zag (by rw [hc]; rfl)) (fun h => h)]; exact hc
 have md : Mod w w.drew zu := Mod.drew _ _
 refine zfv B.mixed [true, true, true, true, true, true, false, false, false] (by kernel_rfl) (fun w' => Mod w w' zu) md fun τ => ?_
 have e2 : zcp σ τ 102 = .pointer (some ⟨bT, 0, none⟩) := by rw [← f2]; exact envOf_var σ τ 2
 refine za (.pointer (some ⟨bT, 3, none⟩)) (fun w' _ => zh (by
  simp +decide only [ev_tmp, e2, hI.h3.run])) rfl ?_
 refine za (.slice (some ⟨bL, 0, none⟩) n n) (fun w' hw => zh (by
  simp +decide only [bE, BEq.rfl, ev_tmp, hI.lt.run_load1 rfl, st hw cT, ldc_some])) rfl ?_
 refine za (.pointer (some ⟨b, oo, none⟩)) (fun w' hw => by
  rw [zax, ev_tmp]
  simp +decide only [bE, Nat.reduceBeqDiff, Nat.zero_add, f0]) rfl ?_
 refine za (.pointer (some ⟨b, oo, none⟩)) (fun w' hw => rfl) rfl ?_
 refine za (.pointer (some ⟨b, oo + off, none⟩)) (fun w' hw => zh (by
  simp +decide only [bE, BEq.rfl, ev_tmp, hT.run])) rfl ?_
 refine za (v) (fun w' hw => zh (by
  simp +decide only [bE, BEq.rfl, ev_tmp, B.Lu8.run_load1 rfl, st hw cF, ldc_some])) rfl ?_
 simp only [zcs, zcu, List.zip_cons_cons, List.zip_nil_right, List.zipWith_cons_cons, List.zipWith_nil_right, List.filter, Bool.not_true, Bool.not_false, List.map, zdc]
 rw [zak (F.octetsTree hN).has]
 simp +decide only [bK, bE, Nat.reduceBeqDiff, BEq.rfl]
 have m0 : Mod w0 w.drew zu := h.mod.trans' md
 have hG' : ∀ k, G k → k < w.drew.heap.size := fun k hk => by have := hG k hk; have := m0.size; omega
 refine Call.mono (znq B F hI hN hG' (hx.stay m0) hl) ?_
 rintro _ w6 ⟨cs, rfl, hrep, m6⟩
 have mw := md.trans' m6
 refine ⟨mw, ?_⟩
 simp +decide only [bK, Nat.zero_add, zx hI.lt hI1 hi]
 refine ⟨mw, ?_⟩
 obtain ⟨w8, hst, htf⟩ := zhc hI (w7 := w6) (σ' := σ) h hi mw hrep rfl rfl rfl
 simp +decide only [bK, hst]
 refine zg (K := fun σ' w' => Q .normal σ' w') fun σ9 hσ => hQ _ _ (htf.env ?_ ?_ ?_)
 ·rw [hσ 0]; simp +decide only [bE, Nat.reduceBeqDiff, Nat.zero_add]
 ·rw [hσ 1]; simp +decide only [bE, Nat.reduceBeqDiff, Nat.reduceAdd]
 ·rw [hσ 2]; simp +decide only [bE, Nat.reduceBeqDiff, Nat.reduceAdd]
def cTNstr (N : Nums) (Tt idx i : Nat) : C := .draw [
 ⟨some 0, .fieldAddr N.zp (V 2) 3, 0, none, []⟩, ⟨some 1, .load N.zi (T 0), 0, none, [0]⟩, ⟨some 2, .move (V 0), 0, none, []⟩, ⟨some 3, .nilCheck (T 2), 0, none, [2]⟩, ⟨some 4, .fieldAddr Tt (T 3) idx, 0, none, [3]⟩, ⟨some 5, .load N.zbj (T 4), 0, none, [4]⟩,
 ⟨some 6, .call ⟨.value (.func N.zfe), #[T 5], #[N.zbj]⟩, N.zp, none, [5]⟩,
 ⟨some 7, .indexAddr N.zi (T 1) (.const (.int .i64 i)), 0, none, [1, 0, 1, 2, 3, 4, 5, 6]⟩, ⟨none, .store N.zp (T 7) (T 6), 0, none, [7, 6, 6, 0, 1, 2, 3, 4, 5, 6]⟩]
theorem W_tNstr (B : Base P N) (F : Fns P N) (hI : zdx P N) {loc : List Nat} {N' : Nat} {Q : Exit → Env → World → Prop} {w0 w : World} {b oo off Tt idx bT bL bR n i : Nat} {trs : List Tr} {σ : Env} {x : Option (List UInt8)} {v : Value} {G : Nat → Prop} (hN : N.zfe ≠ 0) (hp : N.zbj ≠ 0) (hG : ∀ k, G k → k < w0.heap.size) (hx : Rep w0 G (.nstr x) [v])
  (h : TF w0 (.pointer (some ⟨b, oo, none⟩)) bT bL bR n i trs σ w) (hi : i < n) (hT : HF P Tt idx off) (hc : w0.cell? ⟨b, oo + off, none⟩ = some (v))
  (hQ : ∀ σ' w', TF w0 (.pointer (some ⟨b, oo, none⟩)) bT bL bR n (i + 1) (trs ++ [zda 0 (x.getD []) x.isNone]) σ' w' → Q .normal σ' w') : W P loc N' (cTNstr N Tt idx i) Q σ w := by
 obtain ⟨fs, hI1⟩ := hI.ti
 have f0 := h.f0
 have f1 := h.f1
 have f2 := h.f2
 have cT : w.cell? ⟨bT, 3, none⟩ = some (.slice (some ⟨bL, 0, none⟩) n n) := h.tc 3 _ rfl
 have cF : w.cell? ⟨b, oo + off, none⟩ = some (v) := by rw [h.mod.cell _ _ (zag (by rw [hc]; rfl)) (fun h => h)]; exact hc
 have st : ∀ {w' : World} {k o : Nat} {v : Value}, Mod w w' zu → w.cell? ⟨k, o, none⟩ = some v → w'.cell? ⟨k, o, none⟩ = some v := fun m hc => by rw [m.cell _ _ (zag (by rw [hc]; rfl)) (fun h => h)]; exact hc
 have md : Mod w w.drew zu := Mod.drew _ _
 refine zfv B.mixed [true, true, true, true, true, true, false, false, false] (by kernel_rfl) (fun w' => Mod w w' zu) md fun τ => ?_
 have e2 : zcp σ τ 102 = .pointer (some ⟨bT, 0, none⟩) := by rw [← f2]; exact envOf_var σ τ 2
 refine za (.pointer (some ⟨bT, 3, none⟩)) (fun w' _ => zh (by
  simp +decide only [ev_tmp, e2, hI.h3.run])) rfl ?_
 refine za (.slice (some ⟨bL, 0, none⟩) n n) (fun w' hw => zh (by
  simp +decide only [bE, BEq.rfl, ev_tmp, hI.lt.run_load1 rfl, st hw cT, ldc_some])) rfl ?_
 refine za (.pointer (some ⟨b, oo, none⟩)) (fun w' hw => by
  rw [zax, ev_tmp]
  simp +decide only [bE, Nat.reduceBeqDiff, Nat.zero_add, f0]) rfl ?_
 refine za (.pointer (some ⟨b, oo, none⟩)) (fun w' hw => rfl) rfl ?_
 refine za (.pointer (some ⟨b, oo + off, none⟩)) (fun w' hw => zh (by
  simp +decide only [bE, BEq.rfl, ev_tmp, hT.run])) rfl ?_
 refine za (v) (fun w' hw => zh (by
  simp +decide only [bE, BEq.rfl, ev_tmp, (B.pstring hp).run_load1 rfl, st hw cF, ldc_some])) rfl ?_
 simp only [zcs, zcu, List.zip_cons_cons, List.zip_nil_right, List.zipWith_cons_cons, List.zipWith_nil_right, List.filter, Bool.not_true, Bool.not_false, List.map, zdc]
 rw [zak (F.textTree hN).has]
 simp +decide only [bK, bE, Nat.reduceBeqDiff, BEq.rfl]
 have m0 : Mod w0 w.drew zu := h.mod.trans' md
 have hG' : ∀ k, G k → k < w.drew.heap.size := fun k hk => by have := hG k hk; have := m0.size; omega
 obtain ⟨v', hv', hcall⟩ := zpr B F hI hN hp hG' (Rep.mod m0 (fun k hk => ⟨hG k hk, fun _ h => h, hk⟩) _ hx)
 have hvv : v' = v := by injection hv' with e _; exact e.symm
 subst hvv
 refine Call.mono hcall ?_
 rintro _ w6 ⟨cs, rfl, hrep, m6⟩
 have mw := md.trans' m6
 refine ⟨mw, ?_⟩
 simp +decide only [bK, Nat.zero_add, zx hI.lt hI1 hi]
 refine ⟨mw, ?_⟩
 obtain ⟨w8, hst, htf⟩ := zhc hI (w7 := w6) (σ' := σ) h hi mw hrep rfl rfl rfl
 simp +decide only [bK, hst]
 refine zg (K := fun σ' w' => Q .normal σ' w') fun σ9 hσ => hQ _ _ (htf.env ?_ ?_ ?_)
 ·rw [hσ 0]; simp +decide only [bE, Nat.reduceBeqDiff, Nat.zero_add]
 ·rw [hσ 1]; simp +decide only [bE, Nat.reduceBeqDiff, Nat.reduceAdd]
 ·rw [hσ 2]; simp +decide only [bE, Nat.reduceBeqDiff, Nat.reduceAdd]
end
section
variable {P : Program} {N : Nums}
structure TL (w0 : World) (src : Value) (bT bL bR n i : Nat) (trs : List Tr) (lo : Nat) (nl : Bool) (v : Value) (ts : List Tr) (σ : Env) (w : World) : Prop where
 f0 : σ 0 = src
 f1 : σ 1 = .pointer (some ⟨bR, 0, none⟩)
 f2 : σ 2 = .pointer (some ⟨bT, 0, none⟩)
 mod : Mod w0 w zu
 tc : w.rangeAt bT 0 [.int .i64 0, .slice none 0 0, .bool false, .slice (some ⟨bL, 0, none⟩) n n, .slice none 0 0]
 tt : w.there bT 0 5
 tl : w.there bL 0 (n * 5)
 res : ResAt w bR
 len : trs.length = i
 le : i < n
 ex : ∃ css csl, w.rangeAt bL 0 (css.flatten ++ ([.int .i64 0, .slice none 0 0, .bool nl, v, .slice none 0 0] ++ zs zT (n - (i + 1)))) ∧ zcb w (NBx w0.heap.size lo bT bL bR) trs css ∧
  Own w lo 5 v ts.length csl.flatten ∧ zcb w (GX (fun _ => False) lo w v) ts csl
 lt : (w0.heap.size ≤ bT ∧ bT < lo) ∧ (w0.heap.size ≤ bL ∧ bL < lo) ∧ (w0.heap.size ≤ bR ∧ bR < lo) ∧ lo ≤ w.heap.size ∧ bT ≠ bL ∧ bT ≠ bR ∧ bL ≠ bR
theorem TL.env {w0 w : World} {src v : Value} {bT bL bR n i lo : Nat} {nl : Bool} {trs ts : List Tr} {σ σ' : Env} (h : TL w0 src bT bL bR n i trs lo nl v ts σ w) (e0 : σ' 0 = σ 0) (e1 : σ' 1 = σ 1) (e2 : σ' 2 = σ 2) : TL w0 src bT bL bR n i trs lo nl v ts σ' w :=
 ⟨by rw [e0]; exact h.f0, by rw [e1]; exact h.f1, by rw [e2]; exact h.f2, h.mod, h.tc, h.tt, h.tl, h.res, h.len, h.le, h.ex, h.lt⟩
theorem TL.blk {w0 w : World} {src v : Value} {bT bL bR n i lo : Nat} {nl : Bool} {trs ts : List Tr} {σ : Env} (h : TL w0 src bT bL bR n i trs lo nl v ts σ w) {k : Nat} (hk : ¬ zao v k) : lo ≤ k ∧ k < w.heap.size := by
 obtain ⟨css, csl, _, _, ho, _⟩ := h.ex
 exact ho.blk hk
theorem TL.cellT {w0 w : World} {src v : Value} {bT bL bR n i lo : Nat} {nl : Bool} {trs ts : List Tr} {σ : Env} (h : TL w0 src bT bL bR n i trs lo nl v ts σ w) : w.cell? ⟨bT, 3, none⟩ = some (.slice (some ⟨bL, 0, none⟩) n n) := h.tc 3 _ rfl
theorem TL.cellL {w0 w : World} {src v : Value} {bT bL bR n i lo : Nat} {nl : Bool} {trs ts : List Tr} {σ : Env} (h : TL w0 src bT bL bR n i trs lo nl v ts σ w) : w.cell? ⟨bL, i * 5 + 3, none⟩ = some v := by
 obtain ⟨css, csl, hr, hrep, _, _⟩ := h.ex
 have hl : css.flatten.length = i * 5 := by rw [zgd hrep.len5, hrep.length, h.len]
 have := (zj.1 hr).2
 rw [hl, Nat.zero_add] at this
 exact this 3 v rfl
theorem TL.move {w0 w w' : World} {src v v' : Value} {bT bL bR n i lo : Nat} {nl : Bool} {trs ts ts' : List Tr} {σ : Env} (h : TL w0 src bT bL bR n i trs lo nl v ts σ w) (m : Mod w w' fun k o => lo ≤ k ∨ (k = bL ∧ o = i * 5 + 3)) (hc : w'.cell? ⟨bL, i * 5 + 3, none⟩ = some v')
  (hex : ∃ csl, Own w' lo 5 v' ts'.length csl.flatten ∧ zcb w' (GX (fun _ => False) lo w' v') ts' csl) : TL w0 src bT bL bR n i trs lo nl v' ts' σ w' := by
 obtain ⟨f0, f1, f2, mod, tc, tt, tl, res, len, le, ⟨css, csl, hr, hrep, ho, hts⟩, l1, l2, l3, l4, l5, l6, l7⟩ := h
 have hs := m.size
 obtain ⟨csl', ho', hts'⟩ := hex
 have hl : css.flatten.length = i * 5 := by rw [zgd hrep.len5, hrep.length, len]
 have noT : ∀ o, ¬ (lo ≤ bT ∨ (bT = bL ∧ o = i * 5 + 3)) := fun o h => by omega
 have noR : ∀ o, ¬ (lo ≤ bR ∨ (bR = bL ∧ o = i * 5 + 3)) := fun o h => by omega
 refine ⟨f0, f1, f2, ?_, m.rangeAt (by omega) (fun _ _ _ => noT _) tc, m.there (by omega) tt, m.there (by omega) tl, ⟨m.rangeAt (by omega) (fun _ _ _ => noR _) res.r, m.there (by omega) res.t⟩, len, le, ⟨css, csl', ?_, ?_, ho', hts'⟩, l1, l2, l3, by omega, l5, l6, l7⟩
 ·exact mod.trans m fun k o hk h => h.elim id fun h => h.elim (fun h => by omega) fun h => by omega
 ·have q := zj.1 hr
  rw [hl, Nat.zero_add] at q
  have q2 := (zj (cs := [.int .i64 0, .slice none 0 0, .bool nl]) (ds := v :: .slice none 0 0 :: zs zT (n - (i + 1)))).1 q.2
  have q3 := (zj (cs := [v]) (ds := .slice none 0 0 :: zs zT (n - (i + 1)))).1 q2.2
  rw [zj, hl, Nat.zero_add]
  refine ⟨m.rangeAt (by omega) (fun j h1 h2 h => by rcases h with h | h <;> omega) q.1, ?_⟩
  refine (zj (cs := [.int .i64 0, .slice none 0 0, .bool nl]) (ds := v' :: .slice none 0 0 :: zs zT (n - (i + 1)))).2 ⟨m.rangeAt (by omega) (fun j h1 h2 h => by simp at h2; rcases h with h | h <;> omega) q2.1, ?_⟩
  refine (zj (cs := [v']) (ds := .slice none 0 0 :: zs zT (n - (i + 1)))).2 ⟨zdn.2 hc, m.rangeAt (by omega) (fun j h1 h2 h => by simp at h1; rcases h with h | h <;> omega) q3.2⟩
 ·exact zcb.mod m (fun k hk => ⟨by have := hk.1.2; omega, fun o e => by
   have a := hk.1.2
   have b := hk.2.2.1
   rcases e with e | e
   ·omega
   ·exact b e.1, hk⟩) trs hrep
theorem TF.list {w0 w : World} {src : Value} {bT bL bR n i : Nat} {trs : List Tr} {σ : Env} (h : TF w0 src bT bL bR n i trs σ w) (hi : i < n) (nl : Bool) :
  w.there bL (i * 5 + 2) 1 ∧ TL w0 src bT bL bR n i trs w.heap.size nl (.slice none 0 0) [] σ (w.setCell ⟨bL, i * 5 + 2, none⟩ (.bool nl)) := by
 obtain ⟨f0, f1, f2, mod, tc, tt, tl, res, len, le, ⟨css, hr, hrep⟩, l1, l2, l3, l4⟩ := h
 have m : Mod w (w.setCell ⟨bL, i * 5 + 2, none⟩ (.bool nl)) (rng bL (i * 5 + 2) 1) := Mod.setCell fun _ => ⟨rfl, Nat.le_refl _, by omega⟩
 have hs : (w.setCell ⟨bL, i * 5 + 2, none⟩ (.bool nl)).heap.size = w.heap.size := by simp [World.setCell]
 have hl : css.flatten.length = i * 5 := by rw [zgd hrep.len5, hrep.length, len]
 have q := zj.1 hr
 rw [hl, Nat.zero_add, zs_pos _ _ (by omega)] at q
 have q2 := (zj (cs := [.int .i64 0, .slice none 0 0]) (ds := .bool false :: .slice none 0 0 :: .slice none 0 0 :: zs zT (n - i - 1))).1 q.2
 have q3 := zah [.bool nl] (i * 5 + 2) w _ q2.2 (by simp)
 refine ⟨fun j hj => ?_, f0, f1, f2, mod.fresh m fun k o e => by have := e.1; omega, m.rangeAt (by omega) (fun _ _ _ e => l4.1 e.1) tc, m.there (by omega) tt, m.there (by omega) tl, ⟨m.rangeAt (by omega) (fun _ _ _ e => l4.2.2 e.1.symm) res.r, m.there (by omega) res.t⟩, len, hi,
  ⟨css, [], ?_, ?_, .inl ⟨rfl, rfl, rfl⟩, by simp only [zcb]⟩, l1, l2, l3, by rw [hs]; exact Nat.le_refl _, l4⟩
 ·have := tl (i * 5 + 2 + j) (by have : (i + 1) * 5 ≤ n * 5 := Nat.mul_le_mul_right _ hi; omega)
  rwa [Nat.zero_add] at this
 ·rw [zj, hl, Nat.zero_add]
  refine ⟨m.rangeAt (by omega) (fun j h1 h2 e => by have := e.2.1; omega) q.1, ?_⟩
  have q4 : (w.setCell ⟨bL, i * 5 + 2, none⟩ (.bool nl)).rangeAt bL (i * 5 + 2) (.bool nl :: .slice none 0 0 :: .slice none 0 0 :: zs zT (n - (i + 1))) := by
   have e : n - i - 1 = n - (i + 1) := by omega
   rw [e] at q3
   exact q3
  refine (zj (cs := [.int .i64 0, .slice none 0 0]) (ds := .bool nl :: .slice none 0 0 :: .slice none 0 0 :: zs zT (n - (i + 1)))).2 ⟨m.rangeAt (by omega) (fun j h1 h2 e => by have := e.2.1; simp at h2; omega) q2.1, ?_⟩
  exact q4
 ·exact zcb.mod m (fun k hk => ⟨hk.1.2, fun o e => hk.2.2.1 e.1, hk⟩) trs hrep
theorem TL.done {w0 w : World} {src v : Value} {bT bL bR n i lo : Nat} {nl : Bool} {trs ts : List Tr} {σ : Env} (h : TL w0 src bT bL bR n i trs lo nl v ts σ w) : TF w0 src bT bL bR n (i + 1) (trs ++ [.mk 0 [] nl ts []]) σ w := by
 obtain ⟨f0, f1, f2, mod, tc, tt, tl, res, len, le, ⟨css, csl, hr, hrep, ho, hts⟩, l1, l2, l3, l4, l5⟩ := h
 have hms := mod.size
 refine ⟨f0, f1, f2, mod, tc, tt, tl, res, by rw [List.length_append, len]; rfl, le, ⟨css ++ [[.int .i64 0, .slice none 0 0, .bool nl, v, .slice none 0 0]], ?_, ?_⟩, ⟨l1.1, by omega⟩, ⟨l2.1, by omega⟩, ⟨l3.1, by omega⟩, l5⟩
 ·rw [List.flatten_append, List.append_assoc]
  simpa using hr
 ·refine (zcb.mono (fun k hk => ⟨⟨hk.1.1, by have := hk.1.2; omega⟩, hk.2⟩) trs hrep).append ⟨_, [], rfl, ?_, rfl⟩
  have key : ∀ k, lo ≤ k → k < w.heap.size → NBx w0.heap.size w.heap.size bT bL bR k := fun k h1 h2 => ⟨⟨by omega, h2⟩, by omega, by omega, by omega⟩
  simp only [RepT]
  refine ⟨_, v, _, rfl, zgp, ?_, .inl ⟨rfl, rfl⟩⟩
  rcases ho with ⟨e1, e2, _⟩ | ⟨b, c, e1, g1, g2, g3, _, g5, _⟩
  ·exact .inl ⟨e1, List.length_eq_zero_iff.1 e2⟩
  ·exact .inr ⟨b, c, csl, e1, g3, fun _ => key b g1 g2, zcb.mono (fun k hk => hk.elim False.elim fun hk => key k hk.1 hk.2.1) ts hts, g5⟩
end
end Go.Kf
