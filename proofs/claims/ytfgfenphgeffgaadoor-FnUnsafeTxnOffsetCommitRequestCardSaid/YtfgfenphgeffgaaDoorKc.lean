/- A part of the calculus by which the claim's proof goes: over any program and any numbering of its functions; no condition beyond those that each theorem names. -/
import Derived.MapKept
import Derived.Deep.AppendSrc
import Derived.Great.BuildSlice
import Derived.Test.YtfgfenphgeffgaaDoorKb
set_option linter.unusedSimpArgs false
set_option linter.unusedVariables false

/- How a message is read: the elements of lists. -/
namespace Go.Kf
open Go Go.RowKit

section
variable {P : Program} {N : Nums}

def El.ty (N : Nums) : El → TypeId
  | .pr k => k.t N
  | .txt k => k.t N
  | .row T _ _ _ => T
def El.zero : El → List Value
  | .pr k => k.zero.cells.toList
  | .txt k => [k.zero]
  | .row _ _ _ fs => fs.zero

/-- The reading of one element. -/
def ElOk (P : Program) (N : Nums) (fx : Bool) (el : El) : Prop :=
  ∀ {loc : List Nat} {N' : Nat} {Q : Exit → Env → World → Prop} {σ : Env} {w : World} {lo hi r : Nat} {s : RS} {e : Value} {u fl : Bool} {ver : Int} {ia ii b j len c n k : Nat} {st : TypeId} {a1 a2 : Nat} {z2 : Value},
    LocOk loc N' → Cx σ fx u fl ver r → Inv N w lo hi r s e → Pl N w lo hi r b (j * el.sz) el.sz → σ ia = .slice (some ⟨b, 0, none⟩) len c → σ ii = .int .i32 j → j < len → TI P st (.slice (el.ty N)) a1 a2 z2 →
    w.rangeAt b (j * el.sz) el.zero → 7 ≤ n → ia < n → ii < n → FQ N lo hi r n b (j * el.sz) el.sz e σ w (el.rd ver fl s) Q → WL P loc N' (el.gen N fx ia ii st n k) Q σ w

theorem stored {Q : Exit → Env → World → Prop} {σ : Env} {w : World} {lo hi r n b o sz : Nat} {v : Value} {x : Val} {e : Value} {s' : RS} {σ0 : Env} {w0 : World} {ini : List Value}
    (hl : v.cells.toList.length = sz) (hpl : Pl N w0 lo hi r b o sz) (hini : w0.rangeAt b o ini) (hil : ini.length = sz)
    (hA : Ag n σ0 σ) (hm : Mod w0 w (blk r)) (hr : RdAt w lo hi r s') (hrep : Rep w (GG lo hi w0.heap.size w.heap.size) x v.cells.toList)
    (hQ : FQ N lo hi r n b o sz e σ0 w0 (some (x, s')) Q) : Q .normal σ (w.setCells b o v.cells.toList) := by
  have hpl' := hpl.mod hm
  have ms : Mod w (w.setCells b o v.cells.toList) (rng b o sz) := Mod.setCells _ _ _ fun _ i h2 h3 => ⟨rfl, h2, by omega⟩
  have hini' : w.rangeAt b o ini := hm.rangeAt hpl.lt (fun i _ _ e => hpl.br e) hini
  have hrg := rangeAt_setCells v.cells.toList o w ini hini' (by omega)
  rw [List.drop_of_length_le (by omega), List.append_nil] at hrg
  have hbs := hpl.bs
  have hblt := hpl.lt
  have hbr := hpl.br
  have hsz := hm.size
  refine hQ σ _ _ hA (hr.mod ms (fun o e => hpl.br e.1.symm) (fun k o h2 h3 e => by have : k = b := e.1; omega)) (hm.trans ms fun k o _ h => h) hrg hl ?_
  have hsz2 : (w.setCells b o v.cells.toList).heap.size = w.heap.size := by
    have hg : ∀ (cs : List Value) (o : Nat) (w : World), (w.setCells b o cs).heap.size = w.heap.size := by
      intro cs
      induction cs with
      | nil => intro o w; rfl
      | cons c cs ih => intro o w; show ((w.setCell ⟨b, o, none⟩ c).setCells b (o + 1) cs).heap.size = _; rw [ih]; simp [World.setCell]
    exact hg _ _ _
  refine Rep.mod ms (fun k hk => ?_) x hrep
  have hhi := hr.hi_le
  rcases hk with ⟨h2, h3⟩ | ⟨h2, h3⟩
  · exact ⟨by omega, fun o e => by have : k = b := e.1; omega, .inl ⟨h2, h3⟩⟩
  · exact ⟨by omega, fun o e => by have : k = b := e.1; omega, .inr ⟨h2, by omega⟩⟩

theorem WL_two {loc : List Nat} {N' : Nat} {Q : Exit → Env → World → Prop} {σ : Env} {w : World} {x y : C} (h : ∀ K : Env → World → Prop, (∀ σ w, W P loc N' y Q σ w → K σ w) → W P loc N' x (thenQ K Q) σ w) : WL P loc N' [x, y] Q σ w :=
  h _ fun _ _ h => W_mono h fun e σ w hq => by cases e <;> exact hq

theorem elOk_pr (B : Base P N) (F : Fns P N) {fx : Bool} {k : PK} (hk : k.f N ≠ 0) (hu : k = .uuid → N.t_16_uint8 ≠ 0) (hz : k.zero.cells.toList.length = k.sz) : ElOk P N fx (.pr k) := by
  intro loc N' Q σ w lo hi r s e u fl ver ia ii b j len c n kb st a1 a2 z2 hlo hx hinv hpl hia hii hj hS hini hn hian hiin hQ
  refine WL_two fun K hK => W_get B F hk hu hx.rd hinv.rd fun σ' w' ha hs hr' hm => hK _ _ ?_
  obtain ⟨dd, by', ht⟩ := pk_ti B k hu
  exact W_storeE hS ht hs (by rw [ha ia hian]; exact hia) (by rw [ha ii hiin]; exact hii) hj (cs := (k.rd s).1.cells.toList) (by simp) (pkv_rd k s).len (pkv_rd k s).one (hpl.mod hm).there
    (stored (x := .num (k.rd s).1) (pkv_rd k s).len hpl hini hz ha hm hr' (by simp only [Rep]) hQ)

theorem elOk_txt (B : Base P N) (F : Fns P N) {fx : Bool} {k : Txt} (hk : ∀ f ∈ k.fns N fx, f ≠ 0) (hp : k = .nstr → N.t_Pstring ≠ 0) : ElOk P N fx (.txt k) := by
  intro loc N' Q σ w lo hi r s e u fl ver ia ii b j len c n kb st a1 a2 z2 hlo hx hinv hpl hia hii hj hS hini hn hian hiin hQ
  refine WL_cons fun K hK => W_const (hK _ _ ?_)
  clear hK K
  have a0 : Ag n σ (upd σ n k.zero) := (Ag.refl n σ).upd (Nat.le_refl _)
  refine WL_two fun K hK => W_cTxt B F hlo hk (hx.ag a0 hn) hinv.rd hn (by omega) fun σ' w' v ha hv hone hrep hr' hm => hK _ _ ?_
  clear hK K
  obtain ⟨dd, by', ht⟩ := txt_ti B hp
  have ha' := a0.trans ha (Nat.le_refl _)
  have hc := cells_one hone
  have hs : SrcIs P (.move (V n)) σ' w' v := by rw [← hv]; exact SrcIs.move
  exact W_storeE hS ht hs (by rw [ha' ia hian]; exact hia) (by rw [ha' ii hiin]; exact hii) hj (cs := v.cells.toList) (by simp) (by rw [hc]; rfl) (by rw [hc]; intro c hc'; simp at hc'; subst hc'; exact hone) (hpl.mod hm).there
    (stored (by rw [hc]; rfl) hpl hini rfl ha' hm hr' (by rw [hc]; exact hrep) hQ)

/-- The setting of defaults. -/
def DfOk (P : Program) (f : FuncId) (fs : Fds) : Prop :=
  hasBody P f ∧ ∀ w b o, w.there b o fs.sz → b < w.heap.size → w.rangeAt b o fs.zero → Call P f #[.pointer (some ⟨b, o, none⟩)] w fun _ w' => Mod w w' (rng b o fs.sz) ∧ w'.rangeAt b o fs.ini

theorem elOk_row {fx : Bool} {T' pT : TypeId} {f : FuncId} {fs : Fds} {d : TypeDesc} {by' : Nat} {z : Value} (ht : TI P T' d fs.sz by' z) (hf : DfOk P f fs) (hfs : FdsOk P N fx fs) (hhf : fs.hf P T' 0 0) : ElOk P N fx (.row T' pT f fs) := by
  intro loc N' Q σ w lo hi r s e u fl ver ia ii b j len c n kb st a1 a2 z2 hlo hx hinv hpl hia hii hj hS hini hn hian hiin hQ
  have hix := fun w' => run_indexAt (w := w') hS (he := ht) (bl := b) (o := 0) (n := len) (c := c) (i := j) (k := .i32) hj
  refine WL_cons fun K hK => W_ops fun τ => ?_
  simp (decide := true) (disch := omega) only [runR, step_move, step_assign, step_indexAddr, stepV_ok, ev_tmp, put_at, envOf_var, sel_true, sel_false, Nat.reduceBeqDiff, BEq.rfl, Nat.zero_add, hia, hii, hix, locs_put_var, locs_own, locs_envOf]
  refine hK _ _ ?_
  clear hK K
  obtain ⟨σ1, hσ1⟩ : ∃ σ1, σ1 = upd σ n (.pointer (some ⟨b, j * fs.sz, none⟩)) := ⟨_, rfl⟩
  have ha1 : Ag n σ σ1 := by rw [hσ1]; exact (Ag.refl n σ).upd (Nat.le_refl n)
  have f1 : σ1 n = .pointer (some ⟨b, j * fs.sz, none⟩) := by rw [hσ1]; exact upd_same _ _ _
  have hgen : ∀ {l : List C}, WL P loc N' l Q σ1 w → WL P loc N' l Q (upd σ n (.pointer (some ⟨b, j * fs.sz, none⟩))) w := fun h => hσ1 ▸ h
  refine hgen ?_
  clear hgen hσ1
  refine WL_cons fun K hK => W_ops fun τ => ?_
  simp (decide := true) (disch := omega) only [runR, step_move, ev_tmp, envOf_var, f1]
  rw [step_call1 hf.1]
  simp (decide := true) (disch := omega) only [ev_tmp, put_at, sel_true, BEq.rfl]
  refine (hf.2 w b (j * fs.sz) hpl.there hpl.lt hini).mono ?_
  rintro _ w1 ⟨hm1, hini1⟩
  simp (decide := true) (disch := omega) only [locs_own, locs_envOf]
  refine hK _ _ ?_
  clear hK K
  refine WL_cons fun K hK => W_copy (hK _ _ ?_)
  clear hK K
  rw [f1]
  obtain ⟨σ2, hσ2⟩ : ∃ σ2, σ2 = upd σ1 (n + 1) (.pointer (some ⟨b, j * fs.sz, none⟩)) := ⟨_, rfl⟩
  have ha2 : Ag n σ σ2 := by rw [hσ2]; exact ha1.upd (by omega)
  have f2 : σ2 (n + 1) = .pointer (some ⟨b, j * fs.sz, none⟩) := by rw [hσ2]; exact upd_same _ _ _
  rw [← hσ2]
  clear hσ2
  have hbr := hpl.br
  have hbs := hpl.bs
  have hblt := hpl.lt
  have hm1' : Mod w w1 (orM (blk r) (rng b (j * fs.sz) fs.sz)) := hm1.mono fun _ _ _ h => .inr h
  have hr1 : RdAt w1 lo hi r s := hinv.rd.mod hm1 (fun o h => hbr h.1.symm) (fun k o h2 h3 h => by have : k = b := h.1; omega)
  refine hfs (s := s) (e := e) (oo := j * fs.sz) (off := 0) (b := b) hlo (hx.ag ha2 hn) (hinv.mod hpl.bg hm1' hr1) (hpl.mod hm1) f2 hhf hini1 (by omega) (by omega) ?_
  show FQs N lo hi r (n + 2) b (j * fs.sz) fs.sz e σ2 w1 (fs.rd ver fl s) Q
  simp only [El.rd, El.sz] at hQ
  cases hrd : fs.rd ver fl s with
  | none =>
    rw [hrd] at hQ
    exact fun σ' w' h3 hm => hQ σ' w' h3 (hm1'.trans' hm)
  | some x =>
    obtain ⟨l, s'⟩ := x
    rw [hrd] at hQ
    intro σ3 w3 css ha3 hr3 hm3 hrg3 hl3 hrep3
    have hs1 := hm1.size
    refine hQ σ3 w3 css.flatten (ha2.trans ha3 (by omega)) hr3 (hm1'.trans' hm3) hrg3 hl3 ?_
    simp only [Rep]
    exact ⟨css, rfl, RepL.mono (fun k hk => hk.imp id fun h => ⟨by omega, h.2⟩) l hrep3⟩
end
end Go.Kf

/- How a message is read: the statements of a list. -/
namespace Go.Kf
open Go Go.RowKit

section
variable {P : Program} {N : Nums} {loc : List Nat} {N' : Nat} {Q : Exit → Env → World → Prop} {σ : Env} {w : World}

def lenX (fl : Bool) (s : RS) : Int × RS := if fl then carrR s else arrR s

theorem lenX_bound (fl : Bool) (s : RS) : -2147483648 ≤ (lenX fl s).1 ∧ (lenX fl s).1 < 2147483648 := by
  unfold lenX
  cases fl with
  | true =>
    have h := carr_bound s
    simp only [if_true, carrR]
    split
    · decide
    · exact h
  | false =>
    have h := i32_bound s
    simp only [Bool.false_eq_true, if_false, arrR]
    split
    · decide
    · exact h

theorem W_cLen (B : Base P N) (F : Fns P N) (hlo : LocOk loc N') {fx u fl : Bool} {ver : Int} {lo hi r n : Nat} {s : RS} (h1 : N.f_PReader_ArrayLen ≠ 0) (h2 : fx = true → N.f_PReader_CompactArrayLen ≠ 0) (hx : Cx σ fx u fl ver r) (hr : RdAt w lo hi r s) (hn : 7 ≤ n)
    (h : ∀ σ' w', Ag (n + 2) σ σ' → σ' (n + 2) = .int .i32 (lenX fl s).1 → RdAt w' lo hi r (lenX fl s).2 → Mod w w' (blk r) → Q .normal σ' w') : W P loc N' (cLen N fx n) Q σ w := by
  unfold cLen
  cases fx with
  | true =>
    rw [if_pos rfl]
    refine W_cIf hlo (hx.fle rfl) ?_
    have a := (Ag.refl (n + 2) σ).upd (v := .bool fl) (i := n + 3) (by omega)
    have f4 : upd σ (n + 3) (.bool fl) 4 = .pointer (some ⟨r, 0, none⟩) := by rw [a 4 (by omega)]; exact hx.rd
    cases fl with
    | true => exact W_cCall (F.PReader_CompactArrayLen (h2 rfl)).1.has f4 (rd_CompactArrayLen B F (h2 rfl) w lo hi r s hr) fun v w' ⟨hv, hr', hm⟩ => h _ w' (a.upd (by omega)) (by rw [upd_same, hv]; rfl) hr' hm
    | false => exact W_cCall (F.PReader_ArrayLen h1).1.has f4 (rd_ArrayLen B F h1 w lo hi r s hr) fun v w' ⟨hv, hr', hm⟩ => h _ w' (a.upd (by omega)) (by rw [upd_same, hv]; rfl) hr' hm
  | false =>
    have hfl := hx.nofl rfl
    subst hfl
    rw [if_neg (by simp)]
    exact W_cCall (F.PReader_ArrayLen h1).1.has hx.rd (rd_ArrayLen B F h1 w lo hi r s hr) fun v w' ⟨hv, hr', hm⟩ => h _ w' ((Ag.refl _ σ).upd (by omega)) (by rw [upd_same, hv]; rfl) hr' hm

theorem W_cOk (B : Base P N) (F : Fns P N) (hlo : LocOk loc N') {lo hi r p : Nat} {s : RS} {e : Value} (h1 : N.f_PReader_Ok ≠ 0) (h2 : N.f_PReader_Complete ≠ 0) (h4 : σ 4 = .pointer (some ⟨r, 0, none⟩)) (hp : 7 ≤ p) (hinv : Inv N w lo hi r s e)
    (hbad : s.bad = true → ∀ σ' w', σ' 3 = e → Mod w w' (blk r) → Q .ret σ' w') (hok : s.bad = false → ∀ w', RdAt w' lo hi r s → Mod w w' (blk r) → Q .normal (upd σ p (.bool false)) w') : W P loc N' (cOk N p) Q σ w := by
  unfold cOk
  refine W_seq' fun K hK => W_ops fun τ => ?_
  simp (decide := true) (disch := omega) only [runR, step_unOp, ev_tmp]
  rw [step_call1 (F.PReader_Ok h1).has]
  simp (decide := true) (disch := omega) only [ev_tmp, put_at, envOf_var, sel_true, BEq.rfl, Nat.reduceAdd, h4]
  refine (rd_Ok B F h1 w lo hi r s hinv.rd).mono ?_
  rintro v w1 ⟨rfl, hr1, hm1⟩
  simp (decide := true) (disch := omega) only [run_not, stepV_ok, locs_put_var, locs_own, locs_envOf, Bool.not_not]
  refine hK _ _ (W_if hlo (upd_same _ _ _) ?_)
  clear hK K
  cases hb : s.bad with
  | false => exact W_skip (hok hb w1 hr1 hm1)
  | true =>
    rw [if_pos rfl]
    have he : w1.cell? ⟨N.g_ErrNotEnoughData, 0, none⟩ = some e := by
      rw [hm1.cell _ _ (cell_lt (by rw [hinv.er]; rfl)) (fun h => hinv.gr h)]; exact hinv.er
    have f4 : upd σ p (.bool true) 4 = .pointer (some ⟨r, 0, none⟩) := by rw [upd_ne (by omega)]; exact h4
    have hcomp : Call P N.f_PReader_Complete #[.pointer (some ⟨r, 0, none⟩)] w1 fun v w' => v = (if s.bad then e else .nilIface) ∧ w' = w1 := by
      rcases B.error with h | ⟨ms, h⟩
      · exact call_Complete B F h2 h rfl he hr1
      · exact call_Complete B F h2 h rfl he hr1
    refine W_seq' fun K hK => W_cCall (F.PReader_Complete h2).has f4 hcomp fun v w' ⟨hv, hw⟩ => hK _ _ (W_ret ?_)
    subst hw
    rw [hb, if_pos rfl] at hv
    exact hbad hb _ _ (by rw [upd_same, hv]) hm1

/-- Rounds, as many as a list has elements. -/
theorem W_cLoop (hlo : LocOk loc N') {i l c k : Nat} {lv : Int} {body : C} (hlv : lv < 2147483648) (I : Nat → Env → World → Prop)
    (hI : ∀ j σ w, I j σ w → σ i = .int .i32 j ∧ σ l = .int .i32 lv ∧ j ≤ lv.toNat) (hc : ∀ j σ w b, I j σ w → I j (upd σ c (.bool b)) w)
    (h0 : I 0 (upd σ i (.int .i32 0)) w) (hend : ∀ σ w, I lv.toNat σ w → Q .normal σ w)
    (hb : ∀ j σ w, j < lv.toNat → I j σ w → W P loc N' body (fun e σ' w' => match e with
      | .normal => σ' i = .int .i32 j ∧ I (j + 1) (upd σ' i (.int .i32 ((j + 1 : Nat) : Int))) w'
      | .ret => Q .ret σ' w'
      | _ => False) σ w) : W P loc N' (cLoop N i l c k body) Q σ w := by
  unfold cLoop
  refine W_seq' fun K hK => W_const (hK _ _ ?_)
  clear hK K
  refine W_block (W_loop (fun m σ w => ∃ j, m = lv.toNat - j ∧ I j σ w) (n := lv.toNat) ⟨0, by omega, h0⟩ ?_)
  rintro m σ1 w1 ⟨j, rfl, hj⟩
  obtain ⟨f1, f2, f3⟩ := hI j σ1 w1 hj
  refine W_seq' fun K hK => W_seq' fun K1 hK1 => W_ops fun τ => ?_
  simp (decide := true) (disch := omega) only [runR, step_move, step_binOp, run_lss, stepV_ok, ev_tmp, put_at, envOf_var, sel_true, sel_false, Nat.reduceBeqDiff, BEq.rfl, f1, f2, locs_put_var, locs_own, locs_envOf]
  refine hK1 _ _ (W_if hlo (upd_same _ _ _) ?_)
  clear hK1 K1
  by_cases hlt : (j : Int) < lv
  · rw [decide_eq_true hlt, if_pos rfl]
    refine W_skip (hK _ _ ?_)
    clear hK K
    have hj2 := hc j σ1 w1 true hj
    refine W_seq' fun K hK => W_block (W_mono (hb j _ w1 (by omega) hj2) ?_)
    rintro e σ2 w2 hq
    cases e with
    | normal =>
      obtain ⟨g1, g2⟩ := hq
      refine hK _ _ (W_ops fun τ => ?_)
      have hw : IntKind.i32.wrap ((j : Int) + 1) = (((j + 1 : Nat) : Int)) := by
        unfold IntKind.wrap
        simp
        have : (IntKind.i32.bits) = 32 := rfl
        simp [IntKind.signed, this]
        omega
      simp (decide := true) (disch := omega) only [runR, step_move, step_assign, step_binOp, run_iadd, stepV_ok, ev_tmp, ev_const, put_at, envOf_var, sel_true, BEq.rfl, g1, hw, locs_put_var, locs_own, locs_envOf]
      exact ⟨lv.toNat - (j + 1), by omega, j + 1, rfl, g2⟩
    | ret => exact hq
    | _ => exact hq.elim
  · rw [decide_eq_false hlt, if_neg (by simp)]
    refine W_exit ?_
    show inB k Q (.exit k) _ _
    simp only [inB, if_pos]
    have hjL : j = lv.toNat := by omega
    subst hjL
    exact hend _ _ (hc _ _ _ _ hj)
end
end Go.Kf

/- How a message is read: a list. -/
namespace Go.Kf
open Go Go.RowKit

section
variable {P : Program} {N : Nums}

/-- What a list's type says. -/
structure ArrT (P : Program) (N : Nums) (st : TypeId) (el : El) : Prop where
  st : TI P st (.slice (el.ty N)) 1 24 (.slice none 0 0)
  ty : ∃ d by' z, TI P (el.ty N) d el.sz by' z ∧ z.cells.toList = el.zero ∧ by' ≤ 131072
  sz : 0 < el.sz
  zl : el.zero.length = el.sz
  len : N.f_PReader_ArrayLen ≠ 0
  ok : N.f_PReader_Ok ≠ 0
  cpl : N.f_PReader_Complete ≠ 0

section
variable {loc : List Nat} {N' : Nat} {Q : Exit → Env → World → Prop} {σ : Env} {w : World}

/-- The list is stored. -/
theorem arr_tail {el : El} {st : TypeId} (hA : ArrT P N st el) {lo hi r n is b oo off idx : Nat} {Tt : TypeId} {e v : Value} {x : Val} {s' : RS} {σ0 : Env} {w0 : World} (hT : HF P Tt idx off) (hone : v.oneCell' = true)
    (hpl : Pl N w0 lo hi r b (oo + off) 1) (hini : w0.rangeAt b (oo + off) [.slice none 0 0]) (his : σ is = .pointer (some ⟨b, oo, none⟩)) (hisn : is < n) (hv : σ (n + 1) = v)
    (ha : Ag n σ0 σ) (hm : Mod w0 w (blk r)) (hr : RdAt w lo hi r s') (hrep : Rep w (GG lo hi w0.heap.size w.heap.size) x [v]) (hQ : FQ N lo hi r n b (oo + off) 1 e σ0 w0 (some (x, s')) Q) :
    W P loc N' (.seq (cCopy n (n + 1)) (cStoreF is Tt idx st (.move (V n)))) Q σ w := by
  refine W_seq' fun K hK => W_copy (hK _ _ ?_)
  rw [hv]
  have hc := cells_one hone
  have hs : SrcIs P (.move (V n)) (upd σ n v) w v := by
    have := SrcIs.move (P := P) (σ := upd σ n v) (w := w) (n := n)
    rwa [upd_same] at this
  exact store_fq (s := s') hT hA.st hs (by rw [upd_ne (by omega)]; exact his) (by rw [hc]; rfl) (by rw [hc]; intro c hc'; simp at hc'; subst hc'; exact hone) hpl hini rfl (ha.upd (Nat.le_refl _)) hm hr (by rw [hc]; exact hrep) hQ

/-- What holds at the head of each round. -/
structure Rnd (N : Nums) (el : El) (ver : Int) (fl : Bool) (lo hi r n is b1 L cap p : Nat) (s1 : RS) (σ0 : Env) (w1 : World) (e : Value) (j : Nat) (σ : Env) (w : World) : Prop where
  ag : Ag n σ0 σ
  arr : σ (n + 1) = .slice (some ⟨b1, 0, none⟩) L cap
  len : σ (n + 2) = .int .i32 L
  i : σ p = .int .i32 j
  le : j ≤ L
  inv : ∃ s, Inv N w lo hi r s e ∧ ∃ vs css, rdN (el.rd ver fl) L s1 = (match rdN (el.rd ver fl) (L - j) s with | none => none | some (l, s) => some (vs ++ l, s)) ∧ vs.length = j ∧
    (∀ c ∈ css, c.length = el.sz) ∧ RepL w (GG lo hi (b1 + 1) w.heap.size) vs css ∧ w.rangeAt b1 0 (css.flatten ++ zs el.zero (L - j))
  pl : Pl N w lo hi r b1 0 (L * el.sz)
  mod : Mod w1 w (blk r)

theorem flatten_len {css : List (List Value)} {n : Nat} (h : ∀ c ∈ css, c.length = n) : css.flatten.length = css.length * n := by
  induction css with
  | nil => simp
  | cons c css ih => simp [h c (by simp), ih (fun c hc => h c (by simp [hc])), Nat.succ_mul, Nat.add_comm]

/-- One round. -/
theorem round {fx : Bool} {el : El} {st : TypeId} (hA : ArrT P N st el) (hel : ElOk P N fx el) (hlo : LocOk loc N') {u fl : Bool} {ver : Int} {lo hi r n is b1 L cap p k j : Nat} {s1 : RS} {σ0 : Env} {w1 : World} {e : Value}
    (hx : Cx σ0 fx u fl ver r) (hn : 7 ≤ n) (hp : n + 2 < p) (hb1 : w1.heap.size ≤ b1) (hrw : r < w1.heap.size) (hR : Rnd N el ver fl lo hi r n is b1 L cap p s1 σ0 w1 e j σ w) (hj : j < L)
    (hret : rdN (el.rd ver fl) L s1 = none → ∀ σ' w', σ' 3 = e → Mod w1 w' (blk r) → Q .ret σ' w') :
    W P loc N' (seqs (el.gen N fx (n + 1) p st (p + 2) k)) (fun ex σ' w' => match ex with
      | .normal => σ' p = .int .i32 j ∧ Rnd N el ver fl lo hi r n is b1 L cap p s1 σ0 w1 e (j + 1) (upd σ' p (.int .i32 ((j + 1 : Nat) : Int))) w'
      | .ret => Q .ret σ' w'
      | _ => False) σ w := by
  obtain ⟨s, hinv, vs, css, hrd, hvl, hcl, hrep, hrg⟩ := hR.inv
  have hfl := flatten_len hcl
  have hcss := hrep.length
  have hjs : css.flatten.length = j * el.sz := by rw [hfl, hcss, hvl]
  have hLj : L - j = (L - (j + 1)) + 1 := by omega
  rw [hLj, zs_succ, ← List.append_assoc] at hrg
  have hrg1 := rangeAt_append.1 hrg
  have hrg2 := rangeAt_append.1 hrg1.1
  rw [Nat.zero_add, hjs] at hrg2
  have hmul : j * el.sz + el.sz ≤ L * el.sz := by
    have : (j + 1) * el.sz ≤ L * el.sz := Nat.mul_le_mul_right _ (by omega)
    rwa [Nat.succ_mul] at this
  have hne : el.gen N fx (n + 1) p st (p + 2) k ≠ [] := by cases el <;> simp [El.gen]
  have hplj : Pl N w lo hi r b1 (j * el.sz) el.sz := hR.pl.sub (Nat.zero_le _) (by omega)
  refine W_seqs hne (hel (s := s) (e := e) (fl := fl) (ver := ver) (b := b1) (j := j) (len := L) (c := cap) hlo (hx.ag hR.ag hn) hinv hplj hR.arr hR.i hj hA.st hrg2.2 (by omega) (by omega) (by omega) ?_)
  have hbr := hR.pl.br
  have hbs := hR.pl.bs
  have hblt := hR.pl.lt
  have toR : ∀ {w2 : World}, Mod w w2 (orM (blk r) (rng b1 (j * el.sz) el.sz)) → Mod w1 w2 (blk r) := fun hm => hR.mod.trans hm fun k i hk h => h.elim id fun h => h.elim id fun h => by have : k = b1 := h.1; omega
  rw [hLj] at hrd
  cases hv : el.rd ver fl s with
  | none =>
    simp only [rdN, hv] at hrd
    exact fun σ' w' h3 hm => hret hrd σ' w' h3 (toR hm)
  | some x =>
    obtain ⟨v, s2⟩ := x
    simp only [rdN, hv] at hrd
    intro σ2 w2 cs ha2 hr2 hm2 hrg3 hcl3 hrep3
    have hs2 := hm2.size
    have ha' : ∀ i, i < p + 2 → σ2 i = σ i := fun i hi => ha2 i hi
    refine ⟨by rw [ha' p (by omega)]; exact hR.i, ?_⟩
    refine ⟨(hR.ag.trans ha2 (by omega)).upd (by omega), by rw [upd_ne (by omega), ha' _ (by omega)]; exact hR.arr, by rw [upd_ne (by omega), ha' _ (by omega)]; exact hR.len, upd_same _ _ _, by omega, ?_, hR.pl.mod hm2, toR hm2⟩
    have hap := hinv.rd.apart
    have hhi := hinv.rd.hi_le
    have hrlt := hinv.rd.lt
    refine ⟨s2, hinv.mod hR.pl.bg hm2 hr2, vs ++ [v], css ++ [cs], ?_, by simp [hvl], ?_, ?_, ?_⟩
    · rw [hrd]
      cases rdN (el.rd ver fl) (L - (j + 1)) s2 with
      | none => rfl
      | some x => simp
    · intro c hc
      rcases List.mem_append.1 hc with hc | hc
      · exact hcl c hc
      · simp at hc; subst hc; exact hcl3
    · refine RepL.append (RepL.mod hm2 (fun k hk => ?_) vs hrep) ?_
      · have hnot : k ≠ b1 ∧ k ≠ r ∧ k < w.heap.size := by
          have hmsz := hR.mod.size
          rcases hk with ⟨h2, h3⟩ | ⟨h2, h3⟩
          · omega
          · omega
        refine ⟨hnot.2.2, fun o h => h.elim hnot.2.1 fun h => hnot.1 h.1, ?_⟩
        rcases hk with hk | ⟨h2, h3⟩
        · exact .inl hk
        · exact .inr ⟨h2, by omega⟩
      · simp only [RepL]
        exact ⟨cs, [], rfl, Rep.mono (fun k hk => hk.imp id fun h => ⟨by omega, h.2⟩) v hrep3, rfl⟩
    · simp only [List.flatten_append, List.flatten_cons, List.flatten_nil, List.append_nil]
      rw [rangeAt_append, rangeAt_append]
      have hz := hA.zl
      refine ⟨⟨hm2.rangeAt hblt (fun i h1 h2 h => h.elim hbr fun h => by have := h.2.1; omega) (by rw [hjs] at *; exact hrg2.1), by rw [Nat.zero_add, hjs]; exact hrg3⟩, ?_⟩
      have h5 := hrg1.2
      simp only [List.length_append, hjs, Nat.zero_add, hcl3] at h5 ⊢
      rw [hz] at h5
      exact hm2.rangeAt hblt (fun i h1 h2 h => h.elim hbr fun h => by have := h.2.2; omega) h5

theorem tyOk_arr (B : Base P N) (F : Fns P N) {fx : Bool} {el : El} {st : TypeId} (hA : ArrT P N st el) (hcx : fx = true → N.f_PReader_CompactArrayLen ≠ 0) (hel : ElOk P N fx el) : TyOk P N fx (.arr st none el) := by
  intro loc N' Q σ w lo hi r s e u fl ver is b oo Tt idx off n k hlo hx hinv hpl his hT hini hn hisn hQ
  have hini0 : w.cell? ⟨b, oo + off, none⟩ = some (.slice none 0 0) := hini 0 _ rfl
  unfold Ty.gen
  simp only [Option.isSome_none, Bool.false_eq_true, if_false, Nat.add_zero]
  obtain ⟨p, hp⟩ : ∃ p, p = n + 3 + (if fx = true then 1 else 0) := ⟨_, rfl⟩
  have hpn : n + 3 ≤ p := by rw [hp]; omega
  rw [← hp]
  clear hp
  -- the list that is there
  refine W_seq' fun K hK => W_ops fun τ => ?_
  simp (decide := true) (disch := omega) only [runR, step_move, step_assign, step_load, step_fieldAddr, ev_tmp, put_at, envOf_var, sel_true, BEq.rfl, his]
  rw [step_nilCheck rfl]
  simp (decide := true) (disch := omega) only [stepV_ok, put_at, sel_true, BEq.rfl, ldc_some, hT.run, hA.st.run_load1 rfl, hini0, locs_put_var, locs_own, locs_envOf]
  refine hK _ _ ?_
  clear hK K
  refine W_seq' fun K hK => W_copy (hK _ _ ?_)
  clear hK K
  rw [upd_same]
  refine W_seq' fun K hK => W_const (hK _ _ ?_)
  clear hK K
  obtain ⟨σ1, hσ1⟩ : ∃ σ1, σ1 = upd (upd (upd σ n (.slice none 0 0)) (n + 1) (.slice none 0 0)) (n + 2) (.int .i32 0) := ⟨_, rfl⟩
  have ha1 : Ag n σ σ1 := by rw [hσ1]; exact (((Ag.refl n σ).upd (by omega)).upd (by omega)).upd (by omega)
  have f1 : σ1 (n + 1) = .slice none 0 0 := by rw [hσ1, upd_ne (by omega)]; exact upd_same _ _ _
  rw [← hσ1]
  clear hσ1
  -- how many
  refine W_seq' fun K hK => W_cLen B F hlo hA.len hcx (hx.ag ha1 hn) hinv.rd hn fun σ2 w2 ha2 f2 hr2 hm2 => hK _ _ ?_
  clear hK K
  have ha2' : Ag n σ σ2 := ha1.trans ha2 (by omega)
  have g1 : σ2 (n + 1) = .slice none 0 0 := by rw [ha2 _ (by omega)]; exact f1
  have hm2' : Mod w w2 (orM (blk r) (rng b (oo + off) 1)) := hm2.mono fun _ _ _ h => .inl h
  have hinv2 := hinv.mod (o := oo + off) (n := 1) hpl.bg hm2' hr2
  have hrd : Ty.rd ver fl (.arr st none el) s = (if (lenX fl s).2.bad then none else if 0 < (lenX fl s).1 then (match rdN (el.rd ver fl) (lenX fl s).1.toNat (lenX fl s).2 with | none => none | some (l, s) => some (.arr el.sz l, s)) else some (.nilA, (lenX fl s).2)) := by
    simp only [Ty.rd]
    rfl
  have hbnd := lenX_bound fl s
  obtain ⟨X, hX⟩ : ∃ X, X = lenX fl s := ⟨_, rfl⟩
  rw [← hX] at hrd f2 hr2 hinv2 hbnd
  -- is it good
  refine W_seq' fun K hK => W_cOk B F hlo hA.ok hA.cpl (hx.ag ha2' hn).rd (by omega) hinv2 (fun hbad σ3 w3 h3 hm3 => ?_) fun hbad w3 hr3 hm3 => hK _ _ ?_
  · rw [hrd, if_pos hbad] at hQ
    exact hQ σ3 w3 h3 ((hm2.trans' hm3).mono fun _ _ _ h => .inl h)
  clear hK K
  rw [hrd, hbad] at hQ
  simp only [Bool.false_eq_true, if_false] at hQ
  obtain ⟨σ3, hσ3⟩ : ∃ σ3, σ3 = upd σ2 p (.bool false) := ⟨_, rfl⟩
  have ha3 : Ag n σ σ3 := by rw [hσ3]; exact ha2'.upd (by omega)
  have k1 : σ3 (n + 1) = .slice none 0 0 := by rw [hσ3, upd_ne (by omega)]; exact g1
  have k2 : σ3 (n + 2) = .int .i32 X.1 := by rw [hσ3, upd_ne (by omega)]; exact f2
  rw [← hσ3]
  clear hσ3
  have hm03 : Mod w w3 (blk r) := hm2.trans' hm3
  -- what was there is cut off
  have hdcut : (Instr.sliceAt st (.slice none 0 0) none (some (.int .i64 0)) none).run P w3 = .ok (.slice none 0 0) w3 := by
    obtain ⟨d, by', z, ht, _⟩ := hA.ty
    have := run_slice_hi (P := P) (w := w3) hA.st ht (ad := none) (n := 0) (c := 0) (h := 0) (k := .i64) (Nat.le_refl _)
    simpa using this
  refine W_seq' fun K hK => W_ops fun τ => ?_
  simp (decide := true) (disch := omega) only [runR, step_move, step_assign, step_slice, stepV_ok, ev_tmp, ev_const, put_at, envOf_var, sel_true, BEq.rfl, Option.map_some, Option.map_none, k1, hdcut, locs_put_var, locs_own, locs_envOf]
  refine hK _ _ ?_
  clear hK K
  obtain ⟨σ4, hσ4⟩ : ∃ σ4, σ4 = upd σ3 (n + 1) (.slice none 0 0) := ⟨_, rfl⟩
  have ha4 : Ag n σ σ4 := by rw [hσ4]; exact ha3.upd (by omega)
  have l1 : σ4 (n + 1) = .slice none 0 0 := by rw [hσ4]; exact upd_same _ _ _
  have l2 : σ4 (n + 2) = .int .i32 X.1 := by rw [hσ4, upd_ne (by omega)]; exact k2
  rw [← hσ4]
  clear hσ4
  -- the value, at the end
  have fin : ∀ {σ' : Env} {w' : World} {v : Value} {x : Val} {s' : RS}, v.oneCell' = true → σ' (n + 1) = v → Ag n σ σ' → Mod w w' (blk r) → RdAt w' lo hi r s' → Rep w' (GG lo hi w.heap.size w'.heap.size) x [v] → FQ N lo hi r n b (oo + off) 1 e σ w (some (x, s')) Q →
      W P loc N' (.seq (cCopy n (n + 1)) (cStoreF is Tt idx st (.move (V n)))) Q σ' w' := fun hone hv ha hm hr hrep hq =>
    arr_tail hA hT hone hpl hini (by rw [ha is hisn]; exact his) hisn hv ha hm hr hrep hq
  have hm03s := hm03.size
  have hrlt := hinv.rd.lt
  refine W_seq' fun K hK => W_seq' fun K1 hK1 => W_ops fun τ => ?_
  simp (decide := true) (disch := omega) only [runR, step_move, step_binOp, run_gtr, stepV_ok, ev_tmp, ev_const, put_at, envOf_var, sel_true, BEq.rfl, l2, locs_put_var, locs_own, locs_envOf]
  refine hK1 _ _ (W_if hlo (upd_same _ _ _) ?_)
  clear hK1 K1
  by_cases hpos : 0 < X.1
  · rw [decide_eq_true (show X.1 > 0 from hpos), if_pos rfl]
    rw [if_pos hpos] at hQ
    obtain ⟨σ5, hσ5⟩ : ∃ σ5, σ5 = upd σ4 (p + 1) (.bool true) := ⟨_, rfl⟩
    have ha5 : Ag n σ σ5 := by rw [hσ5]; exact ha4.upd (by omega)
    have m1 : σ5 (n + 1) = .slice none 0 0 := by rw [hσ5, upd_ne (by omega)]; exact l1
    have m2 : σ5 (n + 2) = .int .i32 X.1 := by rw [hσ5, upd_ne (by omega)]; exact l2
    rw [← hσ5]
    clear hσ5
    obtain ⟨L, hL⟩ : ∃ L : Nat, X.1 = L := ⟨X.1.toNat, by omega⟩
    have hLt : X.1.toNat = L := by omega
    rw [hLt] at hQ
    rw [hL] at m2
    obtain ⟨d, by', z, hty, hz, hby⟩ := hA.ty
    have hzs : z.cells.size = el.sz := by rw [← Array.length_toList, hz]; exact hA.zl
    obtain ⟨cap, rest, hcap, hgrow⟩ := run_grow B (ty := st) hA.st hty (w := w3) (L := L) (by omega) (by omega) hA.sz hby hzs
    refine W_ops fun τ => ?_
    simp (decide := true) (disch := omega) only [runR, step_move, step_assign, step_append, stepV_ok, ev_tmp, put_at, envOf_var, sel_true, sel_false, Nat.reduceBeqDiff, BEq.rfl, m1, m2, hgrow, locs_put_var, locs_own, locs_envOf]
    refine hK _ _ ?_
    clear hK K hgrow
    obtain ⟨w4, hw4⟩ : ∃ w4, w4 = w3.drew.alloc (.cells (zs z.cells.toList L ++ rest).toArray (el.ty N)) := ⟨_, rfl⟩
    obtain ⟨σ6, hσ6⟩ : ∃ σ6, σ6 = upd σ5 (n + 1) (.slice (some ⟨w3.heap.size, 0, none⟩) L cap) := ⟨_, rfl⟩
    have ha6 : Ag n σ σ6 := by rw [hσ6]; exact ha5.upd (by omega)
    have n1 : σ6 (n + 1) = .slice (some ⟨w3.heap.size, 0, none⟩) L cap := by rw [hσ6]; exact upd_same _ _ _
    have n2 : σ6 (n + 2) = .int .i32 L := by rw [hσ6, upd_ne (by omega)]; exact m2
    rw [← hσ6, ← hw4]
    clear hσ6
    have mA : Mod w3 w4 none' := by rw [hw4]; exact (Mod.drew w3 none').trans' (Mod.alloc _ _ _)
    have s4 : w4.heap.size = w3.heap.size + 1 := by rw [hw4]; exact alloc_size w3.drew _
    have rg4 : w4.rangeAt w3.heap.size 0 (zs el.zero L) := by
      have := rangeAt_alloc w3.drew (zs z.cells.toList L ++ rest).toArray (el.ty N) (0, 0)
      rw [hw4, ← hz]
      exact (rangeAt_append.1 (by simpa using this)).1
    have th4 : w4.there w3.heap.size 0 (L * el.sz) := by
      have := there_alloc w3.drew (zs z.cells.toList L ++ rest).toArray (el.ty N)
      rw [hw4]
      intro j hj
      refine this j ?_
      simp only [List.size_toArray, List.length_append, zs_length, hz, hA.zl]
      omega
    clear hw4
    have hgsz := cell_lt (show (w.cell? ⟨N.g_ErrNotEnoughData, 0, none⟩).isSome = true by rw [hinv.er]; rfl)
    have hr4 : RdAt w4 lo hi r X.2 := hr3.mod mA (fun _ h => h) (fun _ _ _ _ h => h)
    have hm04 : Mod w w4 (blk r) := hm03.trans' (mA.mono fun _ _ _ h => h.elim)
    have hinv4 : Inv N w4 lo hi r X.2 e := hinv.mod (o := 0) (n := 0) hpl.bg (hm04.mono fun _ _ _ h => .inl h) hr4
    have hpl4 : Pl N w4 lo hi r w3.heap.size 0 (L * el.sz) := ⟨th4, by omega, by omega, .inr hr3.hi_le, by omega⟩
    refine W_seq' fun K hK => W_cLoop (Q := thenQ K Q) (lv := (L : Int)) hlo (by omega) (Rnd N el ver fl lo hi r n is w3.heap.size L cap (p + 2) X.2 σ w3 e) (fun j σ w h => ⟨h.i, h.len, by have := h.le; omega⟩) (fun j σ w bb h => ?_) ?_ (fun σ' w' h => hK _ _ ?_) (fun j σ' w' hj h => ?_)
    · exact ⟨h.ag.upd (by omega), by rw [upd_ne (by omega)]; exact h.arr, by rw [upd_ne (by omega)]; exact h.len, by rw [upd_ne (by omega)]; exact h.i, h.le, h.inv, h.pl, h.mod⟩
    · refine ⟨ha6.upd (by omega), by rw [upd_ne (by omega)]; exact n1, by rw [upd_ne (by omega)]; exact n2, upd_same _ _ _, Nat.zero_le _, ⟨X.2, hinv4, [], [], ?_, rfl, fun c hc => by simp at hc, by simp only [RepL], by simpa using rg4⟩, hpl4, mA.mono fun _ _ _ h => h.elim⟩
      rw [Nat.sub_zero]
      cases rdN (el.rd ver fl) L X.2 with
      | none => rfl
      | some x => rfl
    · have e1 : (L : Int).toNat = L := by omega
      rw [e1] at h
      obtain ⟨s', hinv', vs, css, hrdN, hvl, hcl, hrep, hrg⟩ := h.inv
      rw [Nat.sub_self] at hrdN hrg
      simp only [rdN, List.append_nil] at hrdN
      rw [hrdN] at hQ
      have hmz := h.mod.size
      refine fin (v := .slice (some ⟨w3.heap.size, 0, none⟩) L cap) rfl h.arr h.ag (hm03.trans' h.mod) hinv'.rd ?_ hQ
      simp only [Rep]
      have hlt' := h.pl.lt
      refine ⟨w3.heap.size, cap, css, by rw [hvl], by omega, fun _ => .inr ⟨hm03s, hlt'⟩, hcl, RepL.mono (fun k hk => hk.imp id fun h => ⟨by omega, h.2⟩) vs hrep, ?_⟩
      simpa [zs] using hrg
    · refine W_mono (round (Q := Q) hA hel hlo hx hn (by omega) (Nat.le_refl _) (by omega) h (by omega) (fun hnone σ'' w'' h3 hm => ?_)) fun ex σ'' w'' hq => ?_
      · rw [hnone] at hQ
        exact hQ σ'' w'' h3 ((hm03.trans' hm).mono fun _ _ _ h => .inl h)
      · cases ex <;> first | exact hq | exact hq.elim
  · rw [decide_eq_false (show ¬ X.1 > 0 from hpos), if_neg (by simp)]
    rw [if_neg hpos] at hQ
    refine W_skip (hK _ _ ?_)
    clear hK K
    have hz0 : X.1.toNat = 0 := by omega
    refine W_seq' fun K hK => W_cLoop (Q := thenQ K Q) (lv := X.1) hlo hbnd.2 (fun j σ' w' => w' = w3 ∧ Ag n σ σ' ∧ σ' (n + 1) = .slice none 0 0 ∧ σ' (n + 2) = .int .i32 X.1 ∧ σ' (p + 2) = .int .i32 j ∧ j = 0) (fun j σ w h => ⟨h.2.2.2.2.1, h.2.2.2.1, by have := h.2.2.2.2.2; omega⟩) (fun j σ w bb h => ?_) ?_ (fun σ' w' h => hK _ _ ?_) (fun j σ' w' hj h => by omega)
    · obtain ⟨h1, h2, h3, h4, h5, h6⟩ := h
      exact ⟨h1, h2.upd (by omega), by rw [upd_ne (by omega)]; exact h3, by rw [upd_ne (by omega)]; exact h4, by rw [upd_ne (by omega)]; exact h5, h6⟩
    · exact ⟨rfl, (ha4.upd (by omega)).upd (by omega), by rw [upd_ne (by omega), upd_ne (by omega)]; exact l1, by rw [upd_ne (by omega), upd_ne (by omega)]; exact l2, upd_same _ _ _, rfl⟩
    · obtain ⟨h1, h2, h3, _, _, _⟩ := h
      subst h1
      exact fin (v := .slice none 0 0) rfl h3 h2 hm03 hr3 (by simp only [Rep]) hQ
end
end
end Go.Kf

/- How a message is read: its defaults, and the whole. -/
namespace Go.Kf
open Go Go.RowKit

def cDf (N : Nums) (Tt : TypeId) (idx : Nat) (k : PK) (d : Value) : C :=
  .ops [⟨some 0, .move (V 0), 0, none, []⟩, ⟨some 1, .nilCheck (T 0), 0, none, []⟩, ⟨some 2, .fieldAddr Tt (T 1) idx, 0, none, []⟩, ⟨none, .store (k.t N) (T 2) (.const d), 0, none, []⟩]
/-- The code that sets the defaults. -/
def Fds.dfl (N : Nums) (Tt : TypeId) : Fds → Nat → List C
  | .cons _ (.pr k (some d)) r, idx => cDf N Tt idx k d :: r.dfl N Tt (idx + 1)
  | .cons _ _ r, idx => r.dfl N Tt (idx + 1)
  | _, _ => []

/-- Plain defaults: of one cell each; structs inside have none. -/
def Fds.plain : Fds → Prop
  | .cons _ (.pr k (some d)) r => k ≠ .uuid ∧ d.oneCell' = true ∧ r.plain
  | .cons _ (.row _ _ _ fs) r => fs.zero = fs.ini ∧ r.plain
  | .cons _ _ r => r.plain
  | _ => True

theorem pk_sz {k : PK} (h : k ≠ .uuid) : k.sz = 1 := by cases k <;> first | rfl | exact absurd rfl h
theorem pk_zero_len (k : PK) : k.zero.cells.toList.length = k.sz := by cases k <;> rfl

mutual
theorem Ty.zero_length : ∀ (t : Ty), t.zero.length = t.sz
  | .pr k _ => pk_zero_len k
  | .txt _ => rfl
  | .arr .. => rfl
  | .row _ _ _ fs => Fds.zero_length fs
theorem Fds.zero_length : ∀ (fs : Fds), fs.zero.length = fs.sz
  | .nil => rfl
  | .tags => rfl
  | .cons _ t r => by
    simp only [Fds.zero, Fds.sz, List.length_append]
    rw [Ty.zero_length t, Fds.zero_length r]
end

section
variable {P : Program} {N : Nums}

theorem W_cDf (B : Base P N) {loc : List Nat} {N' : Nat} {Q : Exit → Env → World → Prop} {σ : Env} {w : World} {Tt : TypeId} {idx off b o : Nat} {k : PK} {d : Value} (hk : k ≠ .uuid) (hd : d.oneCell' = true) (hT : HF P Tt idx off) (h0 : σ 0 = .pointer (some ⟨b, o, none⟩)) (ht : w.there b (o + off) 1)
    (hQ : Q .normal σ (w.setCell ⟨b, o + off, none⟩ d)) : W P loc N' (cDf N Tt idx k d) Q σ w := by
  unfold cDf
  obtain ⟨dd, by', hti⟩ := pk_ti B k (fun e => absurd e hk)
  rw [pk_sz hk] at hti
  refine W_ops fun τ => ?_
  have st := hti.run_store1 (w := w) (b := b) (o := o + off) (v := d) hd ht
  simp (decide := true) (disch := omega) only [runR, step_move, step_store, step_fieldAddr, ev_tmp, ev_const, put_at, envOf_var, sel_true, BEq.rfl, Nat.zero_add, h0]
  rw [step_nilCheck rfl]
  simp (decide := true) (disch := omega) only [stepV_ok, stepU_ok, put_at, sel_true, BEq.rfl, hT.run, st, locs_own, locs_envOf]
  exact hQ

/-- What may stand there ahead of the defaults. -/
def Fds.pre : Fds → List Value → Prop
  | .cons _ (.pr k (some _)) r, cs => ∃ u rest, cs = u ++ rest ∧ u.length = k.sz ∧ r.pre rest
  | .cons _ t r, cs => ∃ rest, cs = t.ini ++ rest ∧ r.pre rest
  | .nil, cs => cs = []
  | .tags, cs => cs = [.map none]

theorem pre_zero : ∀ (fs : Fds), fs.plain → fs.pre fs.zero
  | .nil, _ => rfl
  | .tags, _ => rfl
  | .cons g t r, h => by
    cases t with
    | pr k d =>
      cases d with
      | none => exact ⟨r.zero, rfl, pre_zero r h⟩
      | some d => exact ⟨_, r.zero, rfl, pk_zero_len k, pre_zero r h.2.2⟩
    | txt k => exact ⟨r.zero, rfl, pre_zero r h⟩
    | arr st nul e => exact ⟨r.zero, rfl, pre_zero r h⟩
    | row T' pT f fs => exact ⟨r.zero, by simp only [Fds.zero, Ty.zero, Ty.ini, h.1], pre_zero r h.2⟩
theorem pre_ini : ∀ (fs : Fds), fs.plain → fs.pre fs.ini
  | .nil, _ => rfl
  | .tags, _ => rfl
  | .cons g t r, h => by
    cases t with
    | pr k d =>
      cases d with
      | none => exact ⟨r.ini, rfl, pre_ini r h⟩
      | some d => exact ⟨_, r.ini, rfl, by show d.cells.toList.length = _; rw [cells_one h.2.1, pk_sz h.1]; rfl, pre_ini r h.2.2⟩
    | txt k => exact ⟨r.ini, rfl, pre_ini r h⟩
    | arr st nul e => exact ⟨r.ini, rfl, pre_ini r h⟩
    | row T' pT f fs => exact ⟨r.ini, rfl, pre_ini r h.2⟩
theorem ini_len : ∀ (t : Ty), (∀ k d, t ≠ .pr k (some d)) → (∀ T p f fs, t = .row T p f fs → fs.zero = fs.ini) → t.ini.length = t.sz
  | .pr k none, _, _ => pk_zero_len k
  | .pr k (some d), h, _ => absurd rfl (h k d)
  | .txt _, _, _ => rfl
  | .arr .., _, _ => rfl
  | .row T p f fs, _, h => by simp only [Ty.ini, Ty.sz]; rw [← h T p f fs rfl]; exact Fds.zero_length fs

theorem WL_dfl (B : Base P N) {loc : List Nat} {N' : Nat} {Q : Exit → Env → World → Prop} {σ : Env} {Tt : TypeId} {b o : Nat} (h0 : σ 0 = .pointer (some ⟨b, o, none⟩)) : ∀ (fs : Fds) (idx off : Nat) (w : World) (cs : List Value), fs.plain → fs.hf P Tt idx off → w.there b (o + off) fs.sz → b < w.heap.size → w.rangeAt b (o + off) cs → fs.pre cs →
    (∀ w', Mod w w' (rng b (o + off) fs.sz) → w'.rangeAt b (o + off) fs.ini → Q .normal σ w') → WL P loc N' (fs.dfl N Tt idx) Q σ w
  | .nil, _, _, w, cs, _, _, _, _, hz, hp, hQ => by
    simp only [Fds.pre] at hp
    subst hp
    exact hQ w (.refl _ _) hz
  | .tags, _, _, w, cs, _, _, _, _, hz, hp, hQ => by
    simp only [Fds.pre] at hp
    subst hp
    exact hQ w (.refl _ _) hz
  | .cons g t r, idx, off, w, cs, hp, hf, ht, hb, hz, hpre, hQ => by
    obtain ⟨hf1, hf2⟩ := hf
    have same : t.ini.length = t.sz → Fds.dfl N Tt (.cons g t r) idx = r.dfl N Tt (idx + 1) → r.plain → (∃ rest, cs = t.ini ++ rest ∧ r.pre rest) → WL P loc N' (Fds.dfl N Tt (.cons g t r) idx) Q σ w := by
      rintro e1 e2 hpr ⟨rest, rfl, hrest⟩
      have hz2 := rangeAt_append.1 hz
      rw [e1, Nat.add_assoc] at hz2
      rw [e2]
      refine WL_dfl B h0 r (idx + 1) (off + t.sz) w rest hpr hf2 (fun j hj => ?_) hb hz2.2 hrest fun w' hm hr => ?_
      · have := ht (t.sz + j) (by simp only [Fds.sz]; omega)
        rwa [show o + off + (t.sz + j) = o + (off + t.sz) + j by omega] at this
      · refine hQ w' (hm.mono fun k i _ h => ⟨h.1, by have := h.2.1; omega, by have := h.2.2; simp only [Fds.sz]; omega⟩) ?_
        simp only [Fds.ini]
        rw [rangeAt_append]
        refine ⟨hm.rangeAt hb (fun i h1 h2 h => by have := h.2.1; rw [e1] at h2; omega) hz2.1, ?_⟩
        rw [e1, Nat.add_assoc]; exact hr
    cases t with
    | pr k d =>
      cases d with
      | none => exact same (pk_zero_len k) rfl hp hpre
      | some d =>
        obtain ⟨h1, h2, h3⟩ := hp
        obtain ⟨u, rest, rfl, hu, hrest⟩ := hpre
        have hk1 := pk_sz h1
        have hz2 := rangeAt_append.1 hz
        rw [hu, Nat.add_assoc] at hz2
        refine WL_cons fun K hK => W_cDf B h1 h2 hf1 h0 (fun j hj => by have := ht j (by simp only [Fds.sz, Ty.sz]; omega); exact this) (hK _ _ ?_)
        have m1 : Mod w (w.setCell ⟨b, o + off, none⟩ d) (rng b (o + off) 1) := Mod.setCell fun _ => ⟨rfl, Nat.le_refl _, by omega⟩
        refine WL_dfl B h0 r (idx + 1) (off + (Ty.pr k (some d)).sz) _ rest h3 hf2 (fun j hj => ?_) (by simpa [World.setCell] using hb) (m1.rangeAt hb (fun i h1 h2 h => by have := h.2.2; simp only [Ty.sz] at h1; omega) hz2.2) hrest fun w' hm hr => ?_
        · have := m1.there hb ht (k.sz + j) (by simp only [Fds.sz, Ty.sz]; omega)
          simp only [Ty.sz]
          rwa [show o + off + (k.sz + j) = o + (off + k.sz) + j by omega] at this
        · simp only [Ty.sz] at hm hr
          refine hQ w' (m1.trans hm fun k' i _ h => h.elim (fun h => ⟨h.1, h.2.1, by have := h.2.2; simp only [Fds.sz, Ty.sz]; omega⟩) (fun h => ⟨h.1, by have := h.2.1; omega, by have := h.2.2; simp only [Fds.sz, Ty.sz]; omega⟩)) ?_
          simp only [Fds.ini, Ty.ini, Option.getD_some]
          rw [cells_one h2, rangeAt_append]
          have hz1 : w.cell? ⟨b, o + off, none⟩ = some (u[0]'(by omega)) := by
            have := hz2.1 0 (u[0]'(by omega)) (by rw [List.getElem?_eq_getElem])
            simpa using this
          refine ⟨?_, ?_⟩
          · have : (w.setCell ⟨b, o + off, none⟩ d).rangeAt b (o + off) [d] := rangeAt_one.2 (World.cell?_setCell_same _ _ _ hz1)
            exact hm.rangeAt (by simpa [World.setCell] using hb) (fun i h1 h2 h => by have := h.2.1; simp at h2; omega) this
          · rw [hk1] at hr
            simpa [Nat.add_assoc] using hr
    | txt k => exact same rfl rfl hp hpre
    | arr st nul e => exact same rfl rfl hp hpre
    | row T' pT f fs => exact same (by simp only [Ty.ini, Ty.sz]; rw [← hp.1]; exact Fds.zero_length fs) rfl hp.2 hpre

theorem dfOk (B : Base P N) {Tt : TypeId} {f : FuncId} {fs : Fds} (hF : FOk P f 1 (seqs (fs.dfl N Tt 0)) []) (hp : fs.plain) (hf : fs.hf P Tt 0 0) : DfOk P f fs := by
  refine ⟨hF.has, fun w b o ht hb hz => hF.call rfl fun loc N' hlo => ?_⟩
  have fin : ∀ w', Mod w w' (rng b (o + 0) fs.sz) → w'.rangeAt b (o + 0) fs.ini → retQ P [] (fun _ w' => Mod w w' (rng b o fs.sz) ∧ w'.rangeAt b o fs.ini) .normal (argEnv #[.pointer (some ⟨b, o, none⟩)]) w' :=
    fun w' hm hr => ⟨.inl rfl, .tuple #[], rfl, hm, hr⟩
  have key := WL_dfl B (loc := loc) (N' := N') (Q := retQ P [] (fun _ w' => Mod w w' (rng b o fs.sz) ∧ w'.rangeAt b o fs.ini)) (σ := argEnv #[.pointer (some ⟨b, o, none⟩)]) (Tt := Tt) (b := b) (o := o) (argEnv1_0 _) fs 0 0 w _ hp hf ht hb hz (pre_zero fs hp) fin
  cases hl : fs.dfl N Tt 0 with
  | nil => rw [hl] at key; exact W_skip key
  | cons x l => rw [hl] at key; exact W_seqs (by simp) key
end
end Go.Kf

/- How a message is read: the whole. -/
namespace Go.Kf
open Go Go.RowKit

section
variable {P : Program} {N : Nums}

/-- What is read of octets as a message of this version: its fields, or none where there are too few octets. -/
def Msg.rd (m : Msg) (fx : Bool) (ver : Int) (s : RS) : Option (List Val) :=
  match m.fs.rd ver (fx && decide (ver ≥ m.fl)) s with
  | none => none
  | some (l, s) => if s.bad then none else some l

/-- What a message's code comes to. -/
def MsgPost (N : Nums) (m : Msg) (x : Option (List Val)) (lo hi M : Nat) (ver : Int) (e : Value) (w : World) (v : Value) (w' : World) : Prop :=
  Mod w w' (blk M) ∧ match x with
  | none => v = e
  | some l => v = .nilIface ∧ w'.cell? ⟨M, 0, none⟩ = some (.int .i16 ver) ∧ ∃ css, RepL w' (GG lo hi w.heap.size w'.heap.size) l css ∧ w'.rangeAt M 1 css.flatten ∧ css.flatten.length = m.fs.sz

structure MsgT (P : Program) (N : Nums) (m : Msg) (fx : Bool) : Prop where
  hf : m.fs.hf P m.tT 1 1
  v0 : HF P m.tT 0 0
  plain : m.fs.plain
  dflt : FOk P m.dflt 1 (seqs (m.fs.dfl N m.tT 1)) []
  fds : FdsOk P N fx m.fs
  ok : N.f_PReader_Complete ≠ 0

/-- The defaults of a whole message. -/
theorem msg_dflt (B : Base P N) {m : Msg} {fx : Bool} (hm : MsgT P N m fx) {w : World} {M : Nat} (ht : w.there M 0 (m.fs.sz + 1)) (hM : M < w.heap.size) {zs : List Value} (hz : w.rangeAt M 1 zs) (hp : m.fs.pre zs) :
    Call P m.dflt #[.pointer (some ⟨M, 0, none⟩)] w fun _ w' => Mod w w' (rng M 1 m.fs.sz) ∧ w'.rangeAt M 1 m.fs.ini := by
  refine hm.dflt.call rfl fun loc N' hlo => ?_
  have fin : ∀ w', Mod w w' (rng M (0 + 1) m.fs.sz) → w'.rangeAt M (0 + 1) m.fs.ini → retQ P [] (fun _ w' => Mod w w' (rng M 1 m.fs.sz) ∧ w'.rangeAt M 1 m.fs.ini) .normal (argEnv #[.pointer (some ⟨M, 0, none⟩)]) w' :=
    fun w' hm hr => ⟨.inl rfl, .tuple #[], rfl, hm, hr⟩
  have key := WL_dfl B (loc := loc) (N' := N') (Q := retQ P [] (fun _ w' => Mod w w' (rng M 1 m.fs.sz) ∧ w'.rangeAt M 1 m.fs.ini)) (σ := argEnv #[.pointer (some ⟨M, 0, none⟩)]) (Tt := m.tT) (b := M) (o := 0) (argEnv1_0 _) m.fs 1 1 w _ hm.plain hm.hf
    (fun j hj => by have := ht (1 + j) (by omega); simpa [Nat.add_assoc] using this) hM hz hp fin
  cases hl : m.fs.dfl N m.tT 1 with
  | nil => rw [hl] at key; exact W_skip key
  | cons x l => rw [hl] at key; exact W_seqs (by simp) key

theorem W_move {loc : List Nat} {N' : Nat} {Q : Exit → Env → World → Prop} {σ : Env} {w : World} {i : Nat} (h : Q .normal σ w) : W P loc N' (.ops [⟨some 0, .move (V i), 0, none, []⟩]) Q σ w := by
  refine W_ops fun τ => ?_
  simp (decide := true) (disch := omega) only [runR, step_move, ev_tmp, envOf_var, locs_own, locs_envOf]
  exact h

/-- The reader is made. -/
theorem W_mkReader (B : Base P N) {loc : List Nat} {N' : Nat} {Q : Exit → Env → World → Prop} {σ : Env} {w : World} {lo hi : Nat} {v : Value} {nl : Bool} {l : List UInt8} (h1 : σ 1 = v) (hb : BytesAt w lo hi v nl l) (hhi : hi ≤ w.heap.size)
    (hQ : ∀ w', w'.heap.size = w.heap.size + 1 → Mod w w' none' → RdAt w' lo hi w.heap.size ⟨l, false, nl⟩ → Q .normal (upd σ 4 (.pointer (some ⟨w.heap.size, 0, none⟩))) w') :
    W P loc N' (.ops [⟨some 0, .move (V 1), 0, none, []⟩, ⟨some 1, .build N.t_Reader #[(0, T 0)], 0, none, []⟩, ⟨some 104, .alloc N.t_Reader, 0, none, []⟩, ⟨none, .store N.t_Reader (V 4) (T 1), 0, none, []⟩]) Q σ w := by
  obtain ⟨fs, ht, _⟩ := B.reader.out
  have hone : v.oneCell' = true := hb.oneCell
  have hbu : (Instr.build N.t_Reader #[(0, v)]).run P w = .ok (.agg #[v, .bool false]) w := B.reader.run_build (by
    simp [Instr.fill, cells_one hone])
  have e1 : ∀ ρ : Env, (#[(0, T 0)] : Array (Nat × Operand)).map (fun p => (p.1, ev ρ p.2)) = #[(0, ρ 0)] := fun ρ => by simp
  refine W_ops fun τ => ?_
  simp (decide := true) (disch := omega) only [runR, step_move, step_alloc, step_build, step_store, stepV_ok, ev_tmp, put_at, envOf_var, sel_true, sel_false, Nat.reduceBeqDiff, BEq.rfl, Nat.reduceAdd, e1, h1, hbu, ht.run_alloc]
  obtain ⟨w1, hw1⟩ : ∃ w1, w1 = w.alloc (.cells (Value.cells (.agg [.slice none 0 0, .bool false].toArray)) N.t_Reader) := ⟨_, rfl⟩
  have m1 : Mod w w1 none' := by rw [hw1]; exact Mod.alloc _ _ _
  have s1 : w1.heap.size = w.heap.size + 1 := by rw [hw1]; exact alloc_size _ _
  have r1 : w1.rangeAt w.heap.size 0 [.slice none 0 0, .bool false] := by rw [hw1]; exact rangeAt_alloc w _ _ _
  have t1 : w1.there w.heap.size 0 2 := by rw [hw1]; exact there_alloc w _ _
  have st := ht.run_store (w := w1) (b := w.heap.size) (o := 0) (v := .agg #[v, .bool false]) (cs := [v, .bool false]) rfl rfl t1 (fun c hc => by
    simp at hc; rcases hc with rfl | rfl
    · exact hone
    · rfl)
  rw [← hw1]
  clear hw1
  simp (decide := true) (disch := omega) only [stepU_ok, st, locs_put_var, locs_own, locs_envOf]
  have m2 : Mod w1 (w1.setCells w.heap.size 0 [v, .bool false]) (blk w.heap.size) := Mod.setCells _ 0 _ fun _ _ _ _ => rfl
  have m02 : Mod w (w1.setCells w.heap.size 0 [v, .bool false]) none' := m1.fresh m2 fun k o e => by have : k = w.heap.size := e; omega
  have r2 := rangeAt_setCells [v, .bool false] 0 w1 _ r1 (Nat.le_refl _)
  refine hQ _ ?_ m02 ⟨⟨v, by simpa using r2, hb.mod m02 hhi fun _ _ _ _ h => h⟩, m2.there (by omega) t1, Nat.le_trans hhi m02.size, .inr hhi⟩
  simp [World.setCells, World.setCell, s1]

theorem call_readFrom (B : Base P N) (F : Fns P N) {m : Msg} {fx : Bool} (hvin : m.vin = false) (hm : MsgT P N m fx) {f : FuncId} (hf : FOk P f 3 (m.gen N fx) [.var 3]) {w : World} {lo hi M : Nat} {v e : Value} {nl u : Bool} {l : List UInt8} {ver : Int}
    (hb : BytesAt w lo hi v nl l) (hhi : hi ≤ w.heap.size) (ht : w.there M 0 (m.fs.sz + 1)) (hM : M < w.heap.size) (hMs : M < lo ∨ hi ≤ M) (hMg : M ≠ N.g_ErrNotEnoughData) (hver : w.cell? ⟨M, 0, none⟩ = some (.int .i16 ver)) {zs : List Value} (hz : w.rangeAt M 1 zs) (hp : m.fs.pre zs)
    (he : w.cell? ⟨N.g_ErrNotEnoughData, 0, none⟩ = some e) :
    Call P f #[.pointer (some ⟨M, 0, none⟩), v, .bool u] w (MsgPost N m (m.rd fx ver ⟨l, false, nl⟩) lo hi M ver e w) := by
  refine hf.call rfl fun loc N' hlo => ?_
  unfold Msg.gen
  rw [hvin]
  simp only [Bool.false_eq_true, if_false, List.append_nil, List.nil_append, List.cons_append]
  refine W_seqs (by simp) ?_
  refine WL_cons fun K hK => W_const (hK _ _ ?_)
  clear hK K
  obtain ⟨σ1, hσ1⟩ : ∃ σ1, σ1 = upd (argEnv #[.pointer (some ⟨M, 0, none⟩), v, .bool u]) 3 .nilIface := ⟨_, rfl⟩
  have a0 : σ1 0 = .pointer (some ⟨M, 0, none⟩) := by rw [hσ1, upd_ne (by decide)]; rfl
  have a1 : σ1 1 = v := by rw [hσ1, upd_ne (by decide)]; rfl
  have a2 : σ1 2 = .bool u := by rw [hσ1, upd_ne (by decide)]; rfl
  rw [← hσ1]
  clear hσ1
  refine WL_cons fun K hK => W_ops fun τ => ?_
  simp (decide := true) (disch := omega) only [runR, step_move, ev_tmp, envOf_var, Nat.zero_add, a0]
  rw [step_call1 hm.dflt.has]
  simp (decide := true) (disch := omega) only [ev_tmp, put_at, sel_true, BEq.rfl]
  refine (msg_dflt B hm ht hM hz hp).mono ?_
  rintro _ w1 ⟨hm1, hini1⟩
  simp (decide := true) (disch := omega) only [locs_own, locs_envOf]
  refine hK _ _ ?_
  clear hK K
  have hs1 := hm1.size
  have hb1 : BytesAt w1 lo hi v nl l := hb.mod hm1 hhi fun k o h1 h2 h => by have : k = M := h.1; omega
  refine WL_cons fun K hK => W_mkReader B a1 hb1 (by omega) fun w2 hs2 hm2 hr2 => hK _ _ ?_
  clear hK K
  have hm02 : Mod w w2 (rng M 1 m.fs.sz) := hm1.trans hm2 fun k o _ h => h.elim id False.elim
  have hver2 : w2.cell? ⟨M, 0, none⟩ = some (.int .i16 ver) := by rw [hm02.cell _ _ hM (fun h => by have := h.2.1; omega)]; exact hver
  have hini2 : w2.rangeAt M 1 m.fs.ini := hm2.rangeAt (by omega) (fun _ _ _ h => h) hini1
  have he2 : w2.cell? ⟨N.g_ErrNotEnoughData, 0, none⟩ = some e := by
    rw [hm02.cell _ _ (cell_lt (by rw [he]; rfl)) (fun h => hMg h.1.symm)]; exact he
  obtain ⟨r, hrr⟩ : ∃ r, r = w1.heap.size := ⟨_, rfl⟩
  rw [← hrr] at hr2 ⊢
  obtain ⟨σ2, hσ2⟩ : ∃ σ2, σ2 = upd σ1 4 (.pointer (some ⟨r, 0, none⟩)) := ⟨_, rfl⟩
  have b0 : σ2 0 = .pointer (some ⟨M, 0, none⟩) := by rw [hσ2, upd_ne (by decide)]; exact a0
  have b2 : σ2 2 = .bool u := by rw [hσ2, upd_ne (by decide)]; exact a2
  have b4 : σ2 4 = .pointer (some ⟨r, 0, none⟩) := by rw [hσ2]; exact upd_same _ _ _
  rw [← hσ2]
  clear hσ2
  refine WL_cons fun K hK => W_ops fun τ => ?_
  simp (decide := true) (disch := omega) only [runR, step_move, step_assign, step_load, step_fieldAddr, ev_tmp, put_at, envOf_var, sel_true, BEq.rfl, Nat.zero_add, b0]
  rw [step_nilCheck rfl]
  simp (decide := true) (disch := omega) only [stepV_ok, put_at, sel_true, BEq.rfl, ldc_some, Nat.add_zero, hm.v0.run, B.int16.run_load1 rfl, hver2]
  refine hK _ _ (gen_locs fun σ3 hσ => ?_)
  have c0 := hσ 0
  have c2 := hσ 2
  have c4 := hσ 4
  have c5 := hσ 5
  simp (decide := true) only [put_at, envOf_var, sel_true, sel_false, Nat.reduceBeqDiff, BEq.rfl, Nat.reduceAdd, Nat.zero_add, b0, b2, b4] at c0 c2 c4 c5
  clear hσ hK K
  refine WL_cons fun K hK => W_move (hK _ _ ?_)
  clear hK K
  -- the fields, and the end
  have tail : ∀ {σ4 : Env} {is : Nat}, 6 ≤ is → (fx = true → is = 7) → Cx σ4 fx u (fx && decide (ver ≥ m.fl)) ver r → σ4 0 = .pointer (some ⟨M, 0, none⟩) →
      WL P loc N' (cCopy is 0 :: (m.fs.gen N fx is m.tT 1 (is + 1) 0 ++ [cCall N 3 N.f_PReader_Complete N.t_error, .ret])) (retQ P [.var 3] (MsgPost N m (m.rd fx ver ⟨l, false, nl⟩) lo hi M ver e w)) σ4 w2 := by
    intro σ4 is his6 his7 hx d0
    refine WL_cons fun K hK => W_copy (hK _ _ ?_)
    clear hK K
    rw [d0]
    obtain ⟨σ5, hσ5⟩ : ∃ σ5, σ5 = upd σ4 is (.pointer (some ⟨M, 0, none⟩)) := ⟨_, rfl⟩
    have hx5 : Cx σ5 fx u (fx && decide (ver ≥ m.fl)) ver r := by
      rw [hσ5]
      refine ⟨by rw [upd_ne (by omega)]; exact hx.un, by rw [upd_ne (by omega)]; exact hx.rd, by rw [upd_ne (by omega)]; exact hx.vr, fun h => ?_, hx.nofl⟩
      rw [upd_ne (by have := his7 h; omega)]; exact hx.fle h
    have d5 : σ5 is = .pointer (some ⟨M, 0, none⟩) := by rw [hσ5]; exact upd_same _ _ _
    rw [← hσ5]
    clear hσ5
    have hr2' : RdAt w2 lo hi r ⟨l, false, nl⟩ := hr2
    have hinv : Inv N w2 lo hi r ⟨l, false, nl⟩ e := ⟨hr2', he2, by have := cell_lt (show (w.cell? ⟨N.g_ErrNotEnoughData, 0, none⟩).isSome = true by rw [he]; rfl); omega⟩
    have hpl : Pl N w2 lo hi r M (0 + 1) m.fs.sz := ⟨fun j hj => by have := hm02.there hM ht (1 + j) (by omega); simpa [Nat.add_assoc] using this, by omega, by omega, hMs, hMg⟩
    have tot : ∀ {w3 : World}, Mod w2 w3 (orM (blk r) (rng M (0 + 1) m.fs.sz)) → Mod w w3 (blk M) := fun h => hm02.trans h fun k i hk h => h.elim (fun h => h.1) fun h => h.elim (fun h => by have : k = r := h; omega) fun h => h.1
    have hcomp : ∀ {w3 : World} {s3 : RS}, w3.cell? ⟨N.g_ErrNotEnoughData, 0, none⟩ = some e → RdAt w3 lo hi r s3 → Call P N.f_PReader_Complete #[.pointer (some ⟨r, 0, none⟩)] w3 fun v w' => v = (if s3.bad then e else .nilIface) ∧ w' = w3 := by
      intro w3 s3 he3 hr3
      rcases B.error with h | ⟨ms, h⟩
      · exact call_Complete B F hm.ok h rfl he3 hr3
      · exact call_Complete B F hm.ok h rfl he3 hr3
    refine WL_append ?_
    have his8 : 7 ≤ is + 1 := by omega
    refine hm.fds (s := ⟨l, false, nl⟩) (e := e) (ver := ver) (oo := 0) (off := 1) (b := M) hlo hx5 hinv hpl d5 hm.hf hini2 his8 (by omega) ?_
    cases hrd : m.fs.rd ver (fx && decide (ver ≥ m.fl)) ⟨l, false, nl⟩ with
    | none =>
      intro σ6 w3 h3 hm3
      refine ⟨.inr rfl, e, h3.symm, tot hm3, ?_⟩
      simp only [Msg.rd, hrd]
    | some x =>
      obtain ⟨vs, s3⟩ := x
      intro σ6 w3 css ha6 hr3 hm3 hrg hcl hrep
      have f4 : σ6 4 = .pointer (some ⟨r, 0, none⟩) := by rw [ha6 4 (by omega)]; exact hx5.rd
      have hinv3 := hinv.mod hMg hm3 hr3
      refine WL_cons fun K hK => W_cCall (F.PReader_Complete hm.ok).has f4 (hcomp hinv3.er hr3) fun v' w' ⟨hv, hw⟩ => hK _ _ ?_
      clear hK K
      subst hw
      refine WL_cons fun K hK => W_ret ⟨.inr rfl, v', (upd_same _ _ _).symm, tot hm3, ?_⟩
      simp only [Msg.rd, hrd]
      cases hb : s3.bad with
      | true =>
        rw [hb, if_pos rfl] at hv
        exact hv
      | false =>
        rw [hb] at hv
        refine ⟨hv, ?_, css, RepL.mono (fun k hk => hk.imp id fun h => ⟨by omega, h.2⟩) vs hrep, hrg, hcl⟩
        rw [hm3.cell _ _ (by omega) (fun h => h.elim (fun h => by have : M = r := h; omega) fun h => by have := h.2.1; omega)]
        exact hver2
  cases hfx : fx with
  | false =>
    subst hfx
    exact tail (σ4 := σ3) (is := 6) (by omega) (fun h => by cases h) ⟨c2, c4, c5, (fun h => by cases h), fun _ => rfl⟩ c0
  | true =>
    subst hfx
    simp only [if_true, List.cons_append, List.nil_append]
    refine WL_cons fun K hK => W_ops fun τ => ?_
    simp (decide := true) (disch := omega) only [runR, step_move, step_assign, step_binOp, run_geq, stepV_ok, ev_tmp, ev_const, put_at, envOf_var, sel_true, BEq.rfl, Nat.reduceAdd, c5]
    refine hK _ _ (gen_locs fun σ4 hσ => ?_)
    have d0 := hσ 0
    have d2 := hσ 2
    have d4 := hσ 4
    have d5 := hσ 5
    have d6 := hσ 6
    simp (decide := true) only [put_at, envOf_var, sel_true, sel_false, Nat.reduceBeqDiff, BEq.rfl, Nat.reduceAdd, Nat.zero_add, c0, c2, c4, c5] at d0 d2 d4 d5 d6
    clear hσ hK K
    refine WL_cons fun K hK => W_move (hK _ _ ?_)
    exact tail (σ4 := σ4) (is := 7) (by omega) (fun _ => rfl) ⟨d2, d4, d5, (fun _ => d6), fun h => by cases h⟩ d0
end
end Go.Kf

/- Tags: a map of numbers to octets. -/
namespace Go.Kf
open Go Go.RowKit

section
variable {P : Program} {N : Nums}

theorem run_eqlMap {t a b : TypeId} (h : P.underlying t = some (.map a b)) {x y : Operand} {m : Option Nat} {w : World} :
    (do eqGuard .eql t x y (.map m) (.map none); binOp .eql t (.map m) (.map none) : Sem Value).run P w = .ok (.bool m.isNone) w := by
  have e : (Op.equal t (.map m) (.map none)).run P w = .ok m.isNone w := by
    unfold Op.equal Op.maxDepth
    rw [show (10000 : Nat) = 9999 + 1 from rfl]
    unfold Op.equalIn
    rw [Sem.run_bind, run_underlying h, Result.andThen_ok]
    cases m <;> rfl
  have e1 : (eqGuard .eql t x y (.map m) (.map none)).run P w = .ok () w := rfl
  rw [Sem.run_bind, e1, Result.andThen_ok]
  show ((do pure (.bool (← Op.equal t (.map m) (.map none))) : Sem Value)).run P w = _
  rw [Sem.run_bind, e, Result.andThen_ok]
  rfl

theorem Mod.setMap {w : World} {r : Nat} {es es' : Array MapEntry} {ck ck' : Nat} (h : w.heap[r]? = some (.map es ck)) : Mod w { w with heap := w.heap.setIfInBounds r (.map es' ck') } (blk r) := by
  obtain ⟨h1, h2⟩ := MapKept.heap_set (o' := .map es' ck') h
  refine ⟨rfl, rfl, rfl, by simp, fun k hk hn => h2 k fun e => hn 0 e, fun k o hk hn => ?_, fun k o hk => ?_, fun k o hk => ?_, fun k hk => ?_⟩
  · exact World.cell?_of_block (h2 k fun e => hn e)
  · by_cases e : k = r
    · subst e
      simp only [World.cell?, h1, h]
    · rw [World.cell?_of_block (h2 k e)]
  · by_cases e : k = r
    · subst e
      simp only [World.frozen?, h1, h]
    · rw [World.frozen?_of_block (h2 k e)]
  · by_cases e : k = r
    · subst e
      simp only [World.shape?, h1, h]
    · simp only [World.shape?, h2 k e]

def tagV (w : World) (G : Nat → Prop) (v : Value) (l : List UInt8) : Prop := (l = [] ∧ OctG w G v none) ∨ OctG w G v (some l)

theorem find_tag {w : World} {G : Nat → Prop} {k : Nat} {v : Value} {vl : List UInt8} (hv : tagV w G v vl) : ∀ (l : List (Nat × List UInt8)) (es : List MapEntry) (i0 : Nat), EntriesG w G l es → (l.map Prod.fst).Nodup →
    (∃ i val x, Instr.findNow (.int .u32) (.int .u32 k) es i0 = some (some (i0 + i, val)) ∧ es[i]? = some x ∧ x.key = .int .u32 k ∧ (l.map Prod.fst).contains k = true ∧
      EntriesG w G (l.map fun x => if x.1 = k then (k, vl) else x) (es.modify i fun e => { e with key := .int .u32 k, val := v })) ∨
    (Instr.findNow (.int .u32) (.int .u32 k) es i0 = some none ∧ (l.map Prod.fst).contains k = false)
  | [], es, i0, he, _ => by
    simp only [EntriesG] at he
    subst he
    exact .inr ⟨rfl, rfl⟩
  | (k', l') :: l, es, i0, he, hnd => by
    obtain ⟨v', b, rest, rfl, h2, h3⟩ := he
    simp only [List.map_cons, List.nodup_cons] at hnd
    by_cases hk : k' = k
    · subst hk
      left
      refine ⟨0, v', ⟨.int .u32 k', v', b⟩, by simp [Instr.findNow, Instr.sameNow], rfl, rfl, by simp, ?_⟩
      have hrest : (l.map fun x => if x.1 = k' then (k', vl) else x) = l := by
        conv => rhs; rw [← List.map_id l]
        refine List.map_congr_left fun x hx => ?_
        have : x.1 ≠ k' := fun e => hnd.1 (List.mem_map.2 ⟨x, hx, e⟩)
        simp [this]
      simp only [List.map_cons, if_true, hrest, List.modify_zero_cons, EntriesG]
      exact ⟨v, b, rest, rfl, hv, h3⟩
    · have hk2 : ((k : Int) == (k' : Int)) = false := by
        have : (k : Int) ≠ (k' : Int) := by omega
        simpa using this
      rcases find_tag hv l rest (i0 + 1) h3 hnd.2 with ⟨i, val, x, g1, g2, g3, g4, g5⟩ | ⟨g1, g2⟩
      · left
        refine ⟨i + 1, val, x, ?_, by simpa using g2, g3, ?_, ?_⟩
        · simp only [Instr.findNow, Instr.sameNow, if_true, hk2, g1]
          congr 3; omega
        · simp only [List.map_cons, List.contains_cons, g4, Bool.or_true]
        · simp only [List.map_cons, if_neg hk, List.modify_succ_cons, EntriesG]
          exact ⟨v', b, _, rfl, h2, g5⟩
      · right
        refine ⟨by simp only [Instr.findNow, Instr.sameNow, if_true, hk2, g1], ?_⟩
        have : (k == k') = false := by simpa using fun e => hk e.symm
        simp only [List.map_cons, List.contains_cons, g2, this, Bool.or_false]

theorem EntriesG.append {w : World} {G : Nat → Prop} {k b : Nat} {v : Value} {vl : List UInt8} (hv : tagV w G v vl) : ∀ {l : List (Nat × List UInt8)} {es : List MapEntry}, EntriesG w G l es → EntriesG w G (l ++ [(k, vl)]) (es ++ [⟨.int .u32 k, v, b⟩])
  | [], es, he => by
    simp only [EntriesG] at he
    subst he
    exact ⟨v, b, [], rfl, hv, rfl⟩
  | (k', l') :: l, es, ⟨v', b', rest, h1, h2, h3⟩ => by
    subst h1
    exact ⟨v', b', _, rfl, h2, EntriesG.append hv h3⟩

theorem tput_keys {l : List (Nat × List UInt8)} {k : Nat} {v : List UInt8} (hn : (l.map Prod.fst).Nodup) : ((tput l k v).map Prod.fst).Nodup ∧ ∀ x ∈ tput l k v, x.1 = k ∨ x.1 ∈ l.map Prod.fst := by
  unfold tput
  split
  · rename_i hc
    have e : (l.map fun x => if x.1 = k then (k, v) else x).map Prod.fst = l.map Prod.fst := by
      rw [List.map_map]
      refine List.map_congr_left fun x _ => ?_
      simp only [Function.comp]
      split
      · rename_i h; exact h.symm
      · rfl
    rw [e]
    refine ⟨hn, fun x hx => ?_⟩
    have : x.1 ∈ (l.map fun x => if x.1 = k then (k, v) else x).map Prod.fst := List.mem_map.2 ⟨x, hx, rfl⟩
    rw [e] at this
    exact .inr this
  · rename_i hc
    refine ⟨?_, fun x hx => ?_⟩
    · rw [List.map_append, List.nodup_append]
      refine ⟨hn, by simp, fun a ha b hb => ?_⟩
      simp at hb
      subst hb
      intro e
      subst e
      exact hc (by simpa using ha)
    · rcases List.mem_append.1 hx with hx | hx
      · exact .inr (List.mem_map.2 ⟨x, hx, rfl⟩)
      · simp at hx; subst hx; exact .inl rfl

/-- An entry is set. -/
theorem run_setTag (B : Base P N) (hT : N.t_Tags ≠ 0) {w : World} {G : Nat → Prop} {mr : Nat} {l : List (Nat × List UInt8)} {es : Array MapEntry} {ck k : Nat} {v : Value} {vl : List UInt8} (hv : tagV w G v vl) (hk : k < 4294967296)
    (hb : w.heap[mr]? = some (.map es ck)) (h4 : ∀ e ∈ es.toList, e.born < ck) (h5 : (es.toList.map MapEntry.born).Nodup) (h6 : EntriesG w G l es.toList) (h7 : (l.map Prod.fst).Nodup) (h8 : ∀ x ∈ l, x.1 < 4294967296) :
    ∃ w' es' ck', (Instr.mapUpdate N.t_map_uint32_Luint8 (.map (some mr)) (.int .u32 k) v).run P w = .ok () w' ∧ Mod w w' (blk mr) ∧ w'.heap.size = w.heap.size ∧ w'.heap[mr]? = some (.map es' ck') ∧ (∀ e ∈ es'.toList, e.born < ck') ∧ (es'.toList.map MapEntry.born).Nodup ∧
      EntriesG w G (tput l k vl) es'.toList ∧ ((tput l k vl).map Prod.fst).Nodup ∧ ∀ x ∈ tput l k vl, x.1 < 4294967296 := by
  obtain ⟨_, _, hmap⟩ := B.tags hT
  have hkeys := tput_keys (k := k) (v := vl) h7
  have hbound : ∀ x ∈ tput l k vl, x.1 < 4294967296 := fun x hx => by
    rcases hkeys.2 x hx with h | h
    · omega
    · obtain ⟨y, hy, e⟩ := List.mem_map.1 h
      rw [← e]; exact h8 y hy
  have hck := MapKept.run_checkKey (P := P) (w := w) (k := .int .u32 k) B.uint32.und rfl false 9999
  have hgo := MapKept.run_getObj_map (P := P) hb
  rcases find_tag (k := k) hv l es.toList 0 h6 h7 with ⟨i, val, x, g1, g2, g3, g4, g5⟩ | ⟨g1, g2⟩
  · have hfk := MapKept.run_findKey (P := P) (w := w) (k := .int .u32 k) B.uint32.und g1
    have hks := MapKept.run_keyThatStays (P := P) (w := w) (d := .int .u32) (k := .int .u32 k) rfl
    have hi : es[i]? = some x := by simpa using g2
    have hold : (((es[i]?).map (·.key)).getD (.int .u32 k)) = .int .u32 k := by rw [hi]; simpa using g3
    have hso := MapKept.run_setObj_map (P := P) (.map (es.modify i fun e => { e with key := .int .u32 k, val := v }) ck) hb
    refine ⟨_, es.modify i (fun e => { e with key := .int .u32 k, val := v }), ck, ?_, Mod.setMap hb, by simp, (MapKept.heap_set hb).1, ?_, ?_, ?_, hkeys.1, hbound⟩
    · simp only [Instr.mapUpdate, Sem.run_bind, hmap.run_und, Result.andThen_ok, hgo, hck, hfk, Nat.zero_add, hold, hks, hso]
    · intro e he
      rw [Array.toList_modify] at he
      obtain ⟨j, hj⟩ := List.getElem?_of_mem he
      rw [List.getElem?_modify] at hj
      cases hx : es.toList[j]? with
      | none => rw [hx] at hj; simp at hj
      | some y =>
        rw [hx] at hj
        have hy := h4 y (List.mem_of_getElem? hx)
        simp at hj
        split at hj <;> (subst hj; exact hy)
    · have : (es.modify i fun e => { e with key := .int .u32 k, val := v }).toList.map MapEntry.born = es.toList.map MapEntry.born := by
        rw [Array.toList_modify]
        apply List.ext_getElem?
        intro j
        rw [List.getElem?_map, List.getElem?_modify, List.getElem?_map]
        cases es.toList[j]? with
        | none => rfl
        | some y => simp; split <;> rfl
      rw [this]; exact h5
    · unfold tput
      rw [if_pos g4, Array.toList_modify]
      exact g5
  · have hfk := MapKept.run_findKey (P := P) (w := w) (k := .int .u32 k) B.uint32.und g1
    have hso := MapKept.run_setObj_map (P := P) (.map (es.push ⟨.int .u32 k, v, ck⟩) (ck + 1)) hb
    refine ⟨_, es.push ⟨.int .u32 k, v, ck⟩, ck + 1, ?_, Mod.setMap hb, by simp, (MapKept.heap_set hb).1, ?_, ?_, ?_, hkeys.1, hbound⟩
    · simp only [Instr.mapUpdate, Sem.run_bind, hmap.run_und, Result.andThen_ok, hgo, hck, hfk, hso]
    · intro e he
      simp at he
      rcases he with he | he
      · have := h4 e (by simpa using he); omega
      · subst he; simp
    · simp only [Array.toList_push, List.map_append, List.map_cons, List.map_nil]
      rw [List.nodup_append]
      refine ⟨h5, by simp, fun a ha b hb' => ?_⟩
      simp at hb'
      subst hb'
      obtain ⟨y, hy, e⟩ := List.mem_map.1 ha
      have := h4 y hy
      omega
    · unfold tput
      rw [if_neg (by rw [g2]; simp), Array.toList_push]
      exact EntriesG.append hv h6
end
end Go.Kf

/- Tags: how they are read. -/
namespace Go.Kf
open Go Go.RowKit

section
variable {P : Program} {N : Nums}

theorem tagV.mod {w w' : World} {M : Nat → Nat → Prop} {G G' : Nat → Prop} (h : Mod w w' M) (hG : ∀ k, G k → k < w.heap.size ∧ (∀ o, ¬ M k o) ∧ G' k) {v : Value} {l : List UInt8} (hb : tagV w G v l) : tagV w' G' v l :=
  hb.imp (fun x => ⟨x.1, x.2.mod h hG⟩) fun x => x.mod h hG

/-- What is kept of tags while they are read: the map is a block of its own, from c on. -/
def TagsC (w : World) (G : Nat → Prop) (c : Nat) (v : Value) (l : List (Nat × List UInt8)) : Prop :=
  (v = .map none ∧ l = []) ∨ ∃ m es ck, v = .map (some m) ∧ c ≤ m ∧ m < w.heap.size ∧ w.heap[m]? = some (.map es ck) ∧ (∀ e ∈ es.toList, e.born < ck) ∧ (es.toList.map MapEntry.born).Nodup ∧ EntriesG w G l es.toList ∧ (l.map Prod.fst).Nodup ∧ ∀ x ∈ l, x.1 < 4294967296

theorem call_Set (B : Base P N) (F : Fns P N) (hN : N.f_PTags_Set ≠ 0) (hT : N.t_Tags ≠ 0) {w : World} {G : Nat → Prop} {b c k : Nat} {m v : Value} {l : List (Nat × List UInt8)} {vl : List UInt8}
    (hc : w.cell? ⟨b, 0, none⟩ = some m) (ht : w.there b 0 1) (htg : TagsC w G c m l) (hbc : b < c) (hcw : c ≤ w.heap.size) (hG : ∀ i, G i → i < c ∧ i ≠ b) (hv : tagV w G v vl) (hk : k < 4294967296) :
    Call P N.f_PTags_Set #[.pointer (some ⟨b, 0, none⟩), .int .u32 k, v] w fun _ w' => ∃ m', w'.cell? ⟨b, 0, none⟩ = some m' ∧ m'.oneCell' = true ∧ TagsC w' G c m' (tput l k vl) ∧ Mod w w' fun i _ => i = b ∨ c ≤ i := by
  obtain ⟨_, hHF, hmap⟩ := B.tags hT
  have hb := there_lt ht (by omega)
  refine (F.PTags_Set hN).call rfl fun loc N' hlo => ?_
  unfold c_PTags_Set
  obtain ⟨σ, hσ⟩ : ∃ σ, σ = argEnv #[.pointer (some ⟨b, 0, none⟩), .int .u32 k, v] := ⟨_, rfl⟩
  have f0 : σ 0 = .pointer (some ⟨b, 0, none⟩) := by rw [hσ]; rfl
  have f1 : σ 1 = .int .u32 k := by rw [hσ]; rfl
  have f2 : σ 2 = v := by rw [hσ]; rfl
  rw [← hσ]
  clear hσ
  -- the end: an entry of the map
  have fin : ∀ {σ' : Env} {w1 : World} {mr : Nat} {l1 : List (Nat × List UInt8)}, Ag 3 σ σ' → w1.cell? ⟨b, 0, none⟩ = some (.map (some mr)) → TagsC w1 G c (.map (some mr)) l → c ≤ w1.heap.size → Mod w w1 (fun i _ => i = b ∨ c ≤ i) → tagV w1 G v vl →
      W P loc N' (.ops [⟨some 0, .move (V 0), 0, none, []⟩, ⟨some 1, .nilCheck (T 0), 0, none, []⟩, ⟨some 2, .fieldAddr N.t_Tags (T 1) 0, 0, none, []⟩, ⟨some 3, .load N.t_map_uint32_Luint8 (T 2), 0, none, []⟩, ⟨some 4, .move (V 1), 0, none, []⟩, ⟨some 5, .move (V 2), 0, none, []⟩,
        ⟨none, .mapUpdate N.t_map_uint32_Luint8 (T 3) (T 4) (T 5), 0, none, []⟩]) (retQ P [] fun _ w' => ∃ m', w'.cell? ⟨b, 0, none⟩ = some m' ∧ m'.oneCell' = true ∧ TagsC w' G c m' (tput l k vl) ∧ Mod w w' fun i _ => i = b ∨ c ≤ i) σ' w1 := by
    intro σ' w1 mr l1 ha hc1 ht1 hcw1 hm1 hv1
    rcases ht1 with ⟨h, _⟩ | ⟨m1, es, ck, e1, h1, h2, h3, h4, h5, h6, h7, h8⟩
    · cases h
    · cases e1
      obtain ⟨w2, es', ck', hrun, hm2, hs2, g1, g2, g3, g4, g5, g6⟩ := run_setTag B hT hv1 hk h3 h4 h5 h6 h7 h8
      have e0 := ha 0 (by omega)
      have e1 := ha 1 (by omega)
      have e2 := ha 2 (by omega)
      rw [f0] at e0
      rw [f1] at e1
      rw [f2] at e2
      refine W_ops fun τ => ?_
      simp (decide := true) (disch := omega) only [runR, step_move, step_load, step_fieldAddr, ev_tmp, put_at, envOf_var, sel_true, sel_false, Nat.reduceBeqDiff, BEq.rfl, Nat.reduceAdd, Nat.zero_add, e0]
      rw [step_nilCheck rfl]
      simp (decide := true) (disch := omega) only [stepV_ok, stepU_ok, ev_tmp, put_at, envOf_var, sel_true, sel_false, Nat.reduceBeqDiff, BEq.rfl, ldc_some, Nat.add_zero, hHF.run, hmap.run_load1 rfl, hc1, e1, e2, step_mapUpdate, hrun]
      refine ⟨.inl rfl, .tuple #[], rfl, .map (some mr), ?_, rfl, .inr ⟨mr, es', ck', rfl, h1, by omega, g1, g2, g3, ?_, g5, g6⟩, hm1.trans hm2 fun i o _ h => h.elim id fun h => .inr (by have : i = mr := h; omega)⟩
      · rw [hm2.cell _ _ (by omega) (fun h => by have : b = mr := h; omega)]; exact hc1
      · exact g4.mod hm2 fun i hi => ⟨by have := hG i hi; omega, fun o h => by have : i = mr := h; have := hG i hi; omega, hi⟩
  refine W_seq' fun K hK => W_seq' fun K1 hK1 => W_ops fun τ => ?_
  simp (decide := true) (disch := omega) only [runR, step_move, step_load, step_binOp, step_fieldAddr, ev_tmp, ev_const, put_at, envOf_var, sel_true, BEq.rfl, Nat.reduceAdd, Nat.zero_add, f0]
  rw [step_nilCheck rfl]
  have hml : ∃ mo, m = .map mo := by
    rcases htg with ⟨h, _⟩ | ⟨m1, es, ck, e1, _⟩
    · exact ⟨_, h⟩
    · exact ⟨_, e1⟩
  obtain ⟨mo, rfl⟩ := hml
  simp (decide := true) (disch := omega) only [stepV_ok, put_at, sel_true, BEq.rfl, ldc_some, Nat.add_zero, hHF.run, hmap.run_load1 rfl, hc, run_eqlMap hmap.und]
  refine hK1 _ _ (gen_locs fun σ1 hσ => ?_)
  have a1 : Ag 3 σ σ1 := fun i hi => by
    rw [hσ]
    match i, hi with
    | 0, _ => simp (decide := true) only [put_at, envOf_var, sel_false, Nat.reduceBeqDiff, Nat.zero_add]
    | 1, _ => simp (decide := true) only [put_at, envOf_var, sel_false, Nat.reduceBeqDiff, Nat.reduceAdd]
    | 2, _ => simp (decide := true) only [put_at, envOf_var, sel_false, Nat.reduceBeqDiff, Nat.reduceAdd]
  have a3 := hσ 3
  simp (decide := true) only [put_at, sel_true, BEq.rfl, Nat.reduceAdd] at a3
  clear hσ hK1 K1
  refine W_if hlo a3 ?_
  cases mo with
  | some mr =>
    refine W_skip (hK _ _ (fin (l1 := l) a1 hc htg hcw (.refl _ _) hv))
  | none =>
    have hl : l = [] := by
      rcases htg with ⟨_, h⟩ | ⟨m1, es, ck, e1, _⟩
      · exact h
      · cases e1
    subst hl
    simp only [Option.isNone_none, if_true]
    have e0 := a1 0 (by omega)
    rw [f0] at e0
    have hmk : (Instr.makeMap N.t_map_uint32_Luint8 none).run P w = .ok (.map (some w.heap.size)) (w.alloc (.map #[] 0)) := by
      simp [Instr.makeMap, newObj, Sem.run, bind, Sem.bind]
    obtain ⟨w1, hw1⟩ : ∃ w1, w1 = w.alloc (.map #[] 0) := ⟨_, rfl⟩
    have m1 : Mod w w1 none' := by rw [hw1]; exact Mod.alloc _ _ _
    have s1 : w1.heap.size = w.heap.size + 1 := by rw [hw1]; exact alloc_size _ _
    have n1 : w1.heap[w.heap.size]? = some (.map #[] 0) := by rw [hw1]; exact alloc_new _ _
    have t1 : w1.there b 0 1 := m1.there hb ht
    have st := hmap.run_store1 (w := w1) (b := b) (o := 0) (v := .map (some w.heap.size)) rfl t1
    have c1 : w1.cell? ⟨b, 0, none⟩ = some (.map none) := by rw [m1.cell _ _ hb (fun h => h)]; exact hc
    refine W_ops fun τ => ?_
    rw [hw1] at st
    simp (decide := true) (disch := omega) only [runR, step_move, step_store, step_fieldAddr, stepV_ok, ev_tmp, put_at, envOf_var, sel_true, sel_false, Nat.reduceBeqDiff, BEq.rfl, Nat.zero_add, Option.map_none, e0, step_makeMap, hmk]
    rw [step_nilCheck (a := ⟨b, 0, none⟩) (by simp (decide := true) only [ev_tmp, put_at, sel_true, sel_false, Nat.reduceBeqDiff, BEq.rfl])]
    simp (decide := true) (disch := omega) only [stepV_ok, stepU_ok, put_at, sel_true, sel_false, Nat.reduceBeqDiff, BEq.rfl, Nat.add_zero, hHF.run, st, locs_own, locs_envOf]
    rw [← hw1]
    have m2 : Mod w1 (w1.setCell ⟨b, 0, none⟩ (.map (some w.heap.size))) (blk b) := Mod.setCell fun _ => rfl
    have m02 : Mod w (w1.setCell ⟨b, 0, none⟩ (.map (some w.heap.size))) (fun i _ => i = b ∨ c ≤ i) := m1.trans m2 fun i o _ h => h.elim False.elim fun h => .inl h
    have s2 : (w1.setCell ⟨b, 0, none⟩ (.map (some w.heap.size))).heap.size = w1.heap.size := by simp [World.setCell]
    refine hK _ _ (fin (l1 := []) a1 (World.cell?_setCell_same _ _ _ c1) (.inr ⟨w.heap.size, #[], 0, rfl, hcw, by omega, ?_, by simp, by simp, by simp [EntriesG], by simp, by simp⟩) (by omega) m02 ?_)
    · rw [m2.block _ (by omega) (fun o h => by have : w.heap.size = b := h; omega)]; exact n1
    · exact hv.mod m02 fun i hi => ⟨by have := hG i hi; omega, fun o h => by have := hG i hi; omega, hi⟩

/-- What holds at the head of each round. -/
structure TRnd (lo hi r b1 b2 : Nat) (s0 : RS) (w0 : World) (n : Nat) (σ : Env) (w : World) : Prop where
  f0 : σ 0 = .pointer (some ⟨r, 0, none⟩)
  f1 : σ 1 = .pointer (some ⟨b1, 0, none⟩)
  f2 : σ 2 = .pointer (some ⟨b2, 0, none⟩)
  f3 : σ 3 = .int .u32 n
  lt : n < 4294967296
  st : ∃ l s m, RdAt w lo hi r s ∧ tagsN n l s = tagsR s0 ∧ w.cell? ⟨b2, 0, none⟩ = some m ∧ m.oneCell' = true ∧ TagsC w (fun k => lo ≤ k ∧ k < hi) (b2 + 1) m l
  t1 : w.there b1 0 1
  t2 : w.there b2 0 1
  c1 : w.cell? ⟨b1, 0, none⟩ = some (.map none)
  mod : Mod w0 w (fun i _ => i = r ∨ b2 ≤ i)
  size : b2 + 1 ≤ w.heap.size

theorem tagsOk (B : Base P N) (F : Fns P N) (hN : N.f_internalReadTags ≠ 0) (hT : N.t_Tags ≠ 0) : TagsOk P N := by
  have hF := F.internalReadTags hN
  have hU := hF.2.2.1
  have hS := hF.2.1
  have hSet := hF.2.2.2
  refine ⟨hF.1.has, fun w lo hi r s hr => hF.1.call rfl fun loc N' hlo => ?_⟩
  obtain ⟨⟨fs, htg⟩, hHF, hmap⟩ := B.tags hT
  have hrlt := hr.lt
  have hhi := hr.hi_le
  unfold c_internalReadTags
  refine W_seq' fun K hK => W_ops fun τ => ?_
  simp (decide := true) only [runR, step_alloc, stepV_ok, Nat.reduceAdd, htg.run_alloc, locs_put_var, locs_envOf]
  refine hK _ _ ?_
  clear hK K
  obtain ⟨w1, hw1⟩ : ∃ w1, w1 = w.alloc (.cells (Value.cells (.agg #[.map none])) N.t_Tags) := ⟨_, rfl⟩
  rw [← hw1]
  have m1 : Mod w w1 none' := by rw [hw1]; exact Mod.alloc _ _ _
  have s1 : w1.heap.size = w.heap.size + 1 := by rw [hw1]; exact alloc_size _ _
  have r1 : w1.rangeAt w.heap.size 0 [.map none] := by rw [hw1]; exact rangeAt_alloc w _ _ _
  have t1 : w1.there w.heap.size 0 1 := by rw [hw1]; exact there_alloc w _ _
  clear hw1
  refine W_seq' fun K hK => W_ops fun τ => ?_
  simp (decide := true) only [runR, step_alloc, stepV_ok, Nat.reduceAdd, htg.run_alloc, locs_put_var, locs_envOf]
  refine hK _ _ ?_
  clear hK K
  obtain ⟨w2, hw2⟩ : ∃ w2, w2 = w1.alloc (.cells (Value.cells (.agg #[.map none])) N.t_Tags) := ⟨_, rfl⟩
  rw [← hw2]
  have m2 : Mod w1 w2 none' := by rw [hw2]; exact Mod.alloc _ _ _
  have s2 : w2.heap.size = w1.heap.size + 1 := by rw [hw2]; exact alloc_size _ _
  have r2 : w2.rangeAt w1.heap.size 0 [.map none] := by rw [hw2]; exact rangeAt_alloc w1 _ _ _
  have t2 : w2.there w1.heap.size 0 1 := by rw [hw2]; exact there_alloc w1 _ _
  clear hw2
  have m02 : Mod w w2 none' := m1.trans' m2
  have hr2 : RdAt w2 lo hi r s := hr.mod m02 (fun _ h => h) (fun _ _ _ _ h => h)
  obtain ⟨σ, hσ⟩ : ∃ σ, σ = upd (upd (argEnv #[.pointer (some ⟨r, 0, none⟩)]) 1 (.pointer (some ⟨w.heap.size, 0, none⟩))) 2 (.pointer (some ⟨w1.heap.size, 0, none⟩)) := ⟨_, rfl⟩
  have f0 : σ 0 = .pointer (some ⟨r, 0, none⟩) := by rw [hσ, upd_ne (by decide), upd_ne (by decide)]; rfl
  have f1 : σ 1 = .pointer (some ⟨w.heap.size, 0, none⟩) := by rw [hσ, upd_ne (by decide)]; exact upd_same _ _ _
  have f2 : σ 2 = .pointer (some ⟨w1.heap.size, 0, none⟩) := by rw [hσ]; exact upd_same _ _ _
  rw [← hσ]
  clear hσ
  -- how many
  refine W_seq' fun K hK => W_seq' fun K1 hK1 => W_ops fun τ => ?_
  simp (decide := true) (disch := omega) only [runR, step_move, step_assign, ev_tmp, envOf_var, Nat.reduceAdd, Nat.zero_add, f0]
  rw [step_call1 (F.PReader_Uvarint hU).1.has]
  simp (decide := true) (disch := omega) only [ev_tmp, put_at, sel_true, BEq.rfl]
  refine (rd_Uvarint B F hU w2 lo hi r s hr2).mono ?_
  rintro v w3 ⟨rfl, hr3, hm3⟩
  simp (decide := true) (disch := omega) only [locs_put_var, locs_own, locs_envOf]
  have hs3 := hm3.size
  have hlt := uvN_lt s
  refine hK1 _ _ (W_block (W_loop (TRnd lo hi r w.heap.size w1.heap.size s w) (n := (uvN s).1) ⟨by rw [upd_ne (by decide)]; exact f0, by rw [upd_ne (by decide)]; exact f1, by rw [upd_ne (by decide)]; exact f2, upd_same _ _ _, hlt, ⟨[], (uvN s).2, .map none, hr3, rfl, ?_, rfl, .inl ⟨rfl, rfl⟩⟩, hm3.there (by omega) (m2.there (by omega) t1), hm3.there (by omega) t2, ?_, (m02.trans hm3 fun i o _ h => h.elim False.elim .inl), by omega⟩ ?_))
  · rw [hm3.cell _ _ (by omega) (fun h => by have : w1.heap.size = r := h; omega)]; exact r2 0 _ rfl
  · rw [hm3.cell _ _ (by omega) (fun h => by have : w.heap.size = r := h; omega), m2.cell _ _ (by omega) (fun h => h)]; exact r1 0 _ rfl
  clear hK1 K1
  intro n σ1 w4 hI
  obtain ⟨l, s4, m, hr4, hrest, hc, hone, htc⟩ := hI.st
  have hsz4 := hI.size
  have hapr : ∀ k, lo ≤ k → k < hi → k < w.heap.size ∧ k ≠ r := fun k h1 h2 => ⟨by omega, by have := hr.apart; omega⟩
  refine W_seq' fun K2 hK2 => W_seq' fun K3 hK3 => W_ops fun τ => ?_
  have e3 := hI.f3
  simp (decide := true) (disch := omega) only [runR, step_move, step_binOp, run_gtr, stepV_ok, ev_tmp, ev_const, put_at, envOf_var, sel_true, BEq.rfl, Nat.reduceAdd, e3, locs_put_var, locs_own, locs_envOf]
  refine hK3 _ _ (W_if hlo (upd_same _ _ _) ?_)
  clear hK3 K3
  cases n with
  | zero =>
    rw [if_neg (by simp)]
    refine W_exit ?_
    simp only [thenQ, inB, if_true]
    refine hK _ _ ?_
    -- the end
    simp only [tagsN] at hrest
    obtain ⟨σ5, hσ5⟩ : ∃ σ5, σ5 = upd σ1 4 (.bool (decide (((0 : Nat) : Int) > 0))) := ⟨_, rfl⟩
    have g1 : σ5 1 = .pointer (some ⟨w.heap.size, 0, none⟩) := by rw [hσ5, upd_ne (by decide)]; exact hI.f1
    have g2 : σ5 2 = .pointer (some ⟨w1.heap.size, 0, none⟩) := by rw [hσ5, upd_ne (by decide)]; exact hI.f2
    have hgen : ∀ {c : C} {Q : Exit → Env → World → Prop}, W P loc N' c Q σ5 w4 → W P loc N' c Q (upd σ1 4 (.bool (decide (((0 : Nat) : Int) > 0)))) w4 := fun h => hσ5 ▸ h
    refine hgen ?_
    clear hgen hσ5
    refine W_seq' fun K4 hK4 => W_ops fun τ => ?_
    have hld := htg.run_load (w := w4) (b := w1.heap.size) (o := 0) (cs := [m]) (rangeAt_one.2 hc) rfl (fun h => by cases h)
    have hlv : ldv (.struct fs) [m] = .agg #[m] := rfl
    have hst := htg.run_store (w := w4) (b := w.heap.size) (o := 0) (v := .agg #[m]) (cs := [m]) rfl rfl hI.t1 (fun c hc => by simp at hc; subst hc; exact hone)
    simp (decide := true) (disch := omega) only [runR, step_load, step_store, stepV_ok, stepU_ok, ev_tmp, put_at, envOf_var, sel_true, sel_false, Nat.reduceBeqDiff, BEq.rfl, Nat.reduceAdd, g1, g2, hld, hlv, hst]
    refine hK4 _ _ (gen_locs fun σ6 hσ => W_ret ⟨.inr rfl, .agg #[m], ⟨⟨w.heap.size, 0, none⟩, ?_, ?_⟩, ?_⟩)
    · have := hσ 1
      simp (decide := true) only [put_at, envOf_var, sel_false, Nat.reduceBeqDiff, Nat.reduceAdd, g1] at this
      exact this
    · have h2 := rangeAt_setCells [m] 0 w4 _ (rangeAt_one.2 hI.c1) (Nat.le_refl _)
      have hl2 := htg.run_load (w := w4.setCells w.heap.size 0 [m]) (b := w.heap.size) (o := 0) (cs := [m]) (by simpa using h2) rfl (fun h => by cases h)
      simpa [Instr.loadAt, Instr.sureAddr, Sem.run_bind, hlv] using hl2
    · have m5 : Mod w4 (w4.setCells w.heap.size 0 [m]) (blk w.heap.size) := Mod.setCells _ 0 _ fun _ _ _ _ => rfl
      have s5 : (w4.setCells w.heap.size 0 [m]).heap.size = w4.heap.size := by simp [World.setCells, World.setCell]
      have hs0 := hI.mod.size
      rw [← hrest]
      refine ⟨m, rfl, hone, ?_, hr4.mod m5 (fun o h => by have : r = w.heap.size := h; omega) (fun k o h1 h2 h => by have : k = w.heap.size := h; omega), ?_⟩
      · rcases htc with ⟨e1, e2⟩ | ⟨mm, es, ck, e1, h1, h2, h3, h4, h5, h6, h7, h8⟩
        · exact .inl ⟨e1, e2⟩
        · refine .inr ⟨mm, es, ck, e1, .inr ⟨by omega, by omega⟩, ?_, h4, h5, ?_, h7, h8⟩
          · rw [m5.block _ h2 (fun o h => by have : mm = w.heap.size := h; omega)]; exact h3
          · exact h6.mod m5 fun k hk => ⟨by omega, fun o h => by have : k = w.heap.size := h; omega, .inl hk⟩
      · refine (hI.mod.trans m5 (M := fun i _ => i = r ∨ w.heap.size ≤ i) fun i o _ h => h.elim (fun h => h.imp id fun h => by omega) (fun h => .inr (by have : i = w.heap.size := h; omega))).mono fun i o hi h => h.elim id fun h => by omega
  | succ n =>
    rw [show decide (((n + 1 : Nat) : Int) > 0) = true from by simp, if_pos rfl]
    refine W_skip (hK2 _ _ ?_)
    clear hK2 K2
    obtain ⟨σ5, hσ5⟩ : ∃ σ5, σ5 = upd σ1 4 (.bool true) := ⟨_, rfl⟩
    have g0 : σ5 0 = .pointer (some ⟨r, 0, none⟩) := by rw [hσ5, upd_ne (by decide)]; exact hI.f0
    have g1 : σ5 1 = .pointer (some ⟨w.heap.size, 0, none⟩) := by rw [hσ5, upd_ne (by decide)]; exact hI.f1
    have g2 : σ5 2 = .pointer (some ⟨w1.heap.size, 0, none⟩) := by rw [hσ5, upd_ne (by decide)]; exact hI.f2
    have g3 : σ5 3 = .int .u32 ((n + 1 : Nat) : Int) := by rw [hσ5, upd_ne (by decide)]; exact hI.f3
    rw [← hσ5]
    clear hσ5
    refine W_seq' fun K2 hK2 => W_block (W_seq' fun K3 hK3 => W_ops fun τ => ?_)
    simp (decide := true) (disch := omega) only [runR, step_move, step_assign, ev_tmp, put_at, envOf_var, sel_false, Nat.reduceBeqDiff, Nat.reduceAdd, Nat.zero_add, g0]
    rw [step_call1 (F.PReader_Uvarint hU).1.has]
    simp (decide := true) (disch := omega) only [ev_tmp, put_at, envOf_var, sel_true, sel_false, Nat.reduceBeqDiff, BEq.rfl]
    refine (rd_Uvarint B F hU w4 lo hi r s4 hr4).mono ?_
    rintro v w5 ⟨rfl, hr5, hm5⟩
    simp (decide := true) (disch := omega) only [g0]
    rw [step_call1 (F.PReader_Uvarint hU).1.has]
    simp (decide := true) (disch := omega) only [ev_tmp, put_at, sel_true, sel_false, Nat.reduceBeqDiff, BEq.rfl]
    refine (rd_Uvarint B F hU w5 lo hi r _ hr5).mono ?_
    rintro v w6 ⟨rfl, hr6, hm6⟩
    simp (decide := true) (disch := omega) only []
    refine hK3 _ _ (gen_locs fun σ6 hσ => ?_)
    have p0 := hσ 0
    have p1 := hσ 1
    have p2 := hσ 2
    have p3 := hσ 3
    have p5 := hσ 5
    have p6 := hσ 6
    simp (decide := true) only [put_at, envOf_var, sel_true, sel_false, Nat.reduceBeqDiff, BEq.rfl, Nat.reduceAdd, Nat.zero_add, g0, g1, g2, g3] at p0 p1 p2 p3 p5 p6
    clear hσ hK3 K3
    have hklt := uvN_lt s4
    have hzlt := uvN_lt (uvN s4).2
    refine W_ops fun τ => ?_
    have e1 : IntKind.i64.wrap ((uvN (uvN s4).2).1 : Int) = ((uvN (uvN s4).2).1 : Int) := wrap_i64 (by omega) (by omega)
    simp (decide := true) (disch := omega) only [runR, step_move, step_convert, stepV_ok, ev_tmp, put_at, envOf_var, sel_true, sel_false, Nat.reduceBeqDiff, BEq.rfl, Nat.reduceAdd, Nat.zero_add, p0, p5, p6, run_conv B.uint32 B.int ⟨_, rfl⟩, e1]
    rw [step_call2 (F.PReader_Span hS).has]
    simp (decide := true) (disch := omega) only [ev_tmp, put_at, sel_true, sel_false, Nat.reduceBeqDiff, BEq.rfl]
    refine (call_Span B F hS (n := ((uvN (uvN s4).2).1 : Int)) hr6).mono ?_
    rintro v w7 ⟨hb7, hr7, hm7⟩
    rw [step_call3 (F.PTags_Set hSet).has]
    simp (decide := true) (disch := omega) only [ev_tmp, put_at, envOf_var, sel_true, sel_false, Nat.reduceBeqDiff, BEq.rfl, Nat.reduceAdd, p2]
    have hm47 : Mod w4 w7 (blk r) := (hm5.trans' hm6).trans' hm7
    have hs7 := hm47.size
    have hc7 : w7.cell? ⟨w1.heap.size, 0, none⟩ = some m := by rw [hm47.cell _ _ (by omega) (fun h => by have : w1.heap.size = r := h; omega)]; exact hc
    have htc7 : TagsC w7 (fun k => lo ≤ k ∧ k < hi) (w1.heap.size + 1) m l := by
      rcases htc with h | ⟨mm, es, ck, e1, h1, h2, h3, h4, h5, h6, h7, h8⟩
      · exact .inl h
      · refine .inr ⟨mm, es, ck, e1, h1, by omega, ?_, h4, h5, ?_, h7, h8⟩
        · rw [hm47.block _ h2 (fun o h => by have : mm = r := h; omega)]; exact h3
        · exact h6.mod hm47 fun k hk => ⟨by omega, fun o h => (hapr k hk.1 hk.2).2 h, hk⟩
    have hv7 : tagV w7 (fun k => lo ≤ k ∧ k < hi) v (spanL ((uvN (uvN s4).2).1 : Int) (uvN (uvN s4).2).2) := by
      rcases hb7 with ⟨h0, h1, h2⟩ | ⟨b, o, c, h0, h1, h2, h3, h4⟩
      · exact .inl ⟨h2, h1⟩
      · exact .inr ⟨b, o, c, h1, h2, h3, h4⟩
    refine (call_Set B F hSet hT (c := w1.heap.size + 1) hc7 (hm47.there (by omega) hI.t2) htc7 (by omega) (by omega) (fun i hi => by omega) hv7 hklt).mono ?_
    rintro _ w8 ⟨m', hc8, hone8, htc8, hm8⟩
    have hs8 := hm8.size
    refine gen_locs (K := fun σ' w' => inB 1 (thenQ K2 _) .normal σ' w') fun σ8 hσ => hK2 _ _ ?_
    have q0 := hσ 0
    have q1 := hσ 1
    have q2 := hσ 2
    have q3 := hσ 3
    simp (decide := true) only [put_at, envOf_var, sel_false, Nat.reduceBeqDiff, Nat.reduceAdd, Nat.zero_add, p0, p1, p2, p3] at q0 q1 q2 q3
    clear hσ hK2 K2
    refine W_ops fun τ => ?_
    have hw : IntKind.u32.wrap (((n + 1 : Nat) : Int) - 1) = (n : Int) := by
      have := hI.lt
      rw [show (((n + 1 : Nat) : Int) - 1) = ((n : Nat) : Int) by omega]
      exact wrap_u32 n (by omega)
    simp (decide := true) (disch := omega) only [runR, step_move, step_assign, step_binOp, run_isub, stepV_ok, ev_tmp, ev_const, put_at, envOf_var, sel_true, BEq.rfl, Nat.reduceAdd, q3, hw, locs_put_var, locs_own, locs_envOf]
    have hm48 : Mod w4 w8 (fun i _ => i = r ∨ w1.heap.size ≤ i) := hm47.trans hm8 fun i o _ h => h.elim (fun h => .inl h) fun h => .inr (by omega)
    refine ⟨n, by omega, by rw [upd_ne (by decide)]; exact q0, by rw [upd_ne (by decide)]; exact q1, by rw [upd_ne (by decide)]; exact q2, upd_same _ _ _, by have := hI.lt; omega,
      ⟨_, _, m', hr7.mod hm8 (fun o h => by omega) (fun k o h1 h2 h => by omega), hrest, hc8, hone8, htc8⟩, hm48.there (by omega) hI.t1, hm48.there (by omega) hI.t2, ?_, hI.mod.trans' hm48, by omega⟩
    rw [hm48.cell _ _ (by omega) (fun h => by omega)]
    exact hI.c1
end
end Go.Kf

/- What a seat's tables say, as tests. -/
namespace Go.Kf
open Go Go.RowKit

def dEq : TypeDesc → TypeDesc → Bool
  | .int a, .int b => decide (a = b)
  | .bool, .bool => true
  | .string, .string => true
  | .slice a, .slice b => Nat.beq a b
  | .pointer a, .pointer b => Nat.beq a b
  | .map a b, .map c d => Nat.beq a c && Nat.beq b d
  | .array a b, .array c d => Nat.beq a c && Nat.beq b d
  | _, _ => false

theorem dEq_ok {a b : TypeDesc} (h : dEq a b = true) : a = b := by
  cases a <;> cases b <;> simp_all [dEq]

def vEq1 : Value → Value → Bool
  | .int a n, .int b m => decide (a = b) && decide (n = m)
  | .bool a, .bool b => a == b
  | .string a, .string b => decide (a.data = #[]) && decide (b.data = #[])
  | .slice none 0 0, .slice none 0 0 => true
  | .pointer none, .pointer none => true
  | .map none, .map none => true
  | .nilIface, .nilIface => true
  | _, _ => false

theorem vEq1_ok {a b : Value} (h : vEq1 a b = true) : a = b := by
  unfold vEq1 at h
  split at h
  · simp at h; rw [h.1, h.2]
  · simp at h; rw [h]
  · rename_i a b
    simp at h
    obtain ⟨a⟩ := a
    obtain ⟨b⟩ := b
    simp at h
    rw [h.1, h.2]
  · rfl
  · rfl
  · rfl
  · rfl
  · cases h

def vEqL : List Value → List Value → Bool
  | [], [] => true
  | a :: l, b :: m => vEq1 a b && vEqL l m
  | _, _ => false

theorem vEqL_ok : ∀ {l m : List Value}, vEqL l m = true → l = m
  | [], [], _ => rfl
  | a :: l, b :: m, h => by
    simp only [vEqL, Bool.and_eq_true] at h
    rw [vEq1_ok h.1, vEqL_ok h.2]
  | [], _ :: _, h => by simp [vEqL] at h
  | _ :: _, [], h => by simp [vEqL] at h

def vEq : Value → Value → Bool
  | .agg a, .agg b => vEqL a.toList b.toList
  | a, b => vEq1 a b

theorem vEq_ok {a b : Value} (h : vEq a b = true) : a = b := by
  unfold vEq at h
  split at h
  · have := vEqL_ok h
    rw [Array.toList_inj] at this
    rw [this]
  · exact vEq1_ok h

def infoB (P : Program) (t : TypeId) (sz by' : Nat) (z : Value) : Bool :=
  match P.info? t with
  | some i => Nat.beq i.size sz && Nat.beq i.bytes by' && (match i.zero with | some z' => vEq z' z | none => false)
  | none => false

theorem infoB_ok {P : Program} {t : TypeId} {sz by' : Nat} {z : Value} (h : infoB P t sz by' z = true) : ∃ i, P.info? t = some i ∧ i.size = sz ∧ i.bytes = by' ∧ i.zero = some z := by
  unfold infoB at h
  split at h
  · rename_i i hi
    simp only [Bool.and_eq_true] at h
    obtain ⟨⟨h1, h2⟩, h3⟩ := h
    refine ⟨i, hi, by simpa using h1, by simpa using h2, ?_⟩
    split at h3
    · rename_i z' hz; rw [hz, vEq_ok h3]
    · cases h3
  · cases h

def tiB (P : Program) (t : TypeId) (d : TypeDesc) (sz by' : Nat) (z : Value) : Bool :=
  (match P.underlying t with | some d' => dEq d' d | none => false) && infoB P t sz by' z

theorem tiB_ok {P : Program} {t : TypeId} {d : TypeDesc} {sz by' : Nat} {z : Value} (h : tiB P t d sz by' z = true) : TI P t d sz by' z := by
  unfold tiB at h
  rw [Bool.and_eq_true] at h
  refine ⟨?_, infoB_ok h.2⟩
  have h1 := h.1
  split at h1
  · rename_i d' hd; rw [hd, dEq_ok h1]
  · cases h1

/-- A struct. -/
def tsB (P : Program) (t : TypeId) (sz by' : Nat) (z : Value) : Bool :=
  (match P.underlying t with | some (.struct _) => true | _ => false) && infoB P t sz by' z

theorem tsB_ok {P : Program} {t : TypeId} {sz by' : Nat} {z : Value} (h : tsB P t sz by' z = true) : ∃ fs, TI P t (.struct fs) sz by' z := by
  unfold tsB at h
  rw [Bool.and_eq_true] at h
  have h1 := h.1
  split at h1
  · rename_i fs hfs; exact ⟨fs, hfs, infoB_ok h.2⟩
  · cases h1

def hfB (P : Program) (t : TypeId) (k off : Nat) : Bool :=
  match P.underlying t with
  | some (.struct fs) => (match fs[k]? with
    | some f => Nat.beq f.offset off && (match P.info? f.type with | some i => !Nat.beq i.size 0 | none => false)
    | none => false)
  | _ => false

theorem hfB_ok {P : Program} {t : TypeId} {k off : Nat} (h : hfB P t k off = true) : HF P t k off := by
  unfold hfB at h
  split at h
  · rename_i fs hfs
    split at h
    · rename_i f hf
      rw [Bool.and_eq_true] at h
      have h2 := h.2
      split at h2
      · rename_i i hi
        exact ⟨fs, f, i, hfs, hf, by simpa using h.1, hi, fun e => by rw [e] at h2; cases h2⟩
      · cases h2
    · cases h
  · cases h

def placesB (P : Program) (t : TypeId) (l : List (Nat × Nat)) : Bool :=
  match P.underlying t with
  | some (.struct fs) => (match fs.toList.mapM (fun f => (P.info? f.type).map fun i => (f.offset, i.size)) with
    | some l' => decide (l' = l)
    | none => false)
  | _ => false

def sfB (P : Program) (t : TypeId) (places : List (Nat × Nat)) (by' : Nat) (z : List Value) : Bool := tsB P t z.length by' (.agg z.toArray) && placesB P t places

theorem sfB_ok {P : Program} {t : TypeId} {places : List (Nat × Nat)} {by' : Nat} {z : List Value} (h : sfB P t places by' z = true) : SF P t places by' z := by
  unfold sfB at h
  rw [Bool.and_eq_true] at h
  obtain ⟨fs, ht⟩ := tsB_ok h.1
  refine ⟨fs, ht, ?_⟩
  have h2 := h.2
  unfold placesB at h2
  rw [ht.und] at h2
  simp only at h2
  split at h2
  · rename_i l' hl; rw [hl]; simpa using h2
  · cases h2

/-! ### The basic types -/
def ifB (n : Nat) (b : Bool) : Bool := Nat.beq n 0 || b
theorem ifB_ok {n : Nat} {b : Bool} (h : ifB n b = true) (hn : n ≠ 0) : b = true := by
  unfold ifB at h
  rw [Bool.or_eq_true] at h
  rcases h with h | h
  · exact absurd (by simpa using h) hn
  · exact h

def errB (P : Program) (t : TypeId) : Bool := (match P.underlying t with | some (.interface _) => true | _ => false) && infoB P t 1 16 .nilIface
theorem errB_ok {P : Program} {t : TypeId} (h : errB P t = true) : ∃ ms, TI P t (.interface ms) 1 16 .nilIface := by
  unfold errB at h
  rw [Bool.and_eq_true] at h
  have h1 := h.1
  split at h1
  · rename_i fs hfs; exact ⟨fs, hfs, infoB_ok h.2⟩
  · cases h1

def bigB (P : Program) (t : TypeId) : Bool := (match P.underlying t with | some (.struct fs) => decide (fs.size = 0) | _ => false) && infoB P t 0 0 (.agg #[])
theorem bigB_ok {P : Program} {t : TypeId} (h : bigB P t = true) : TI P t (.struct #[]) 0 0 (.agg #[]) := by
  unfold bigB at h
  rw [Bool.and_eq_true] at h
  have h1 := h.1
  split at h1
  · rename_i fs hfs
    have : fs = #[] := Array.eq_empty_of_size_eq_zero (by simpa using h1)
    subst this
    exact ⟨hfs, infoB_ok h.2⟩
  · cases h1

def base1B (P : Program) (N : Nums) : Bool :=
  tiB P N.t_int8 (.int .i8) 1 1 (.int .i8 0) && (tiB P N.t_int16 (.int .i16) 1 2 (.int .i16 0) && (tiB P N.t_int32 (.int .i32) 1 4 (.int .i32 0) && (tiB P N.t_int64 (.int .i64) 1 8 (.int .i64 0) && (tiB P N.t_int (.int .i64) 1 8 (.int .i64 0) &&
  (tiB P N.t_uint8 (.int .u8) 1 1 (.int .u8 0) && (tiB P N.t_uint16 (.int .u16) 1 2 (.int .u16 0) && (tiB P N.t_uint32 (.int .u32) 1 4 (.int .u32 0) && (tiB P N.t_uint64 (.int .u64) 1 8 (.int .u64 0) && tiB P N.t_bool .bool 1 1 (.bool false)))))))))
def base2B (P : Program) (N : Nums) : Bool :=
  tiB P N.t_string .string 1 16 (.string ⟨#[]⟩) && (tiB P N.t_Luint8 (.slice N.t_uint8) 1 24 (.slice none 0 0) && (bigB P N.t_bigEndian && (errB P N.t_error && (sfB P N.t_Reader [(0, 1), (1, 1)] 32 [.slice none 0 0, .bool false] && (hfB P N.t_Reader 0 0 && (hfB P N.t_Reader 1 1 &&
  (ifB N.t_16_uint8 (tiB P N.t_16_uint8 (.array 16 N.t_uint8) 16 16 (.agg (Array.replicate 16 (.int .u8 0)))) && (ifB N.t_Pstring (tiB P N.t_Pstring (.pointer N.t_string) 1 8 (.pointer none)) &&
  (ifB N.t_Tags (tsB P N.t_Tags 1 8 (.agg #[.map none])) && (ifB N.t_Tags (hfB P N.t_Tags 0 0) && ifB N.t_Tags (tiB P N.t_map_uint32_Luint8 (.map N.t_uint32 N.t_Luint8) 1 8 (.map none)))))))))))) 

theorem base_ok {P : Program} {N : Nums} (hm : P.follows .mixedOrders = true) (h1 : base1B P N = true) (h2 : base2B P N = true) : Base P N := by
  unfold base1B at h1
  unfold base2B at h2
  simp only [Bool.and_eq_true] at h1 h2
  obtain ⟨a1, a2, a3, a4, a5, a6, a7, a8, a9, a10⟩ := h1
  obtain ⟨b1, b2, b3, b4, b5, b6, b7, b8, b9, b10, b11, b12⟩ := h2
  exact { mixed := hm, int8 := tiB_ok a1, int16 := tiB_ok a2, int32 := tiB_ok a3, int64 := tiB_ok a4, int := tiB_ok a5, uint8 := tiB_ok a6, uint16 := tiB_ok a7, uint32 := tiB_ok a8, uint64 := tiB_ok a9, bool := tiB_ok a10,
          string := tiB_ok b1, Lu8 := tiB_ok b2, big := bigB_ok b3, error := .inr (errB_ok b4), reader := sfB_ok b5, reader0 := hfB_ok b6, reader1 := hfB_ok b7,
          uuid := fun h => tiB_ok (ifB_ok b8 h), pstring := fun h => tiB_ok (ifB_ok b9 h), tags := fun h => ⟨tsB_ok (ifB_ok b10 h), hfB_ok (ifB_ok b11 h), tiB_ok (ifB_ok b12 h)⟩ }

/-! ### Schemas -/
def dB (k : PK) : Option Value → Bool
  | none => true
  | some d => k != .uuid && d.oneCell'

def lenB (N : Nums) (fx : Bool) : Bool := !Nat.beq N.f_PReader_ArrayLen 0 && !Nat.beq N.f_PReader_Ok 0 && !Nat.beq N.f_PReader_Complete 0 && (!fx || !Nat.beq N.f_PReader_CompactArrayLen 0)
def prB (N : Nums) (k : PK) : Bool := !Nat.beq (k.f N) 0 && (k != .uuid || !Nat.beq N.t_16_uint8 0)
def txB (N : Nums) (fx : Bool) (k : Txt) : Bool := (k.fns N fx).all (fun f => !Nat.beq f 0) && (k != .nstr || !Nat.beq N.t_Pstring 0)

/-- How many octets a struct has, by the table. -/
def bytesOf (P : Program) (t : TypeId) : Nat := match P.info? t with | some i => i.bytes | none => 0

section
variable (P : Program) (N : Nums) (fx : Bool)
mutual
def Ty.okB : Ty → Bool
  | .pr k d => prB N k && dB k d
  | .txt k => txB N fx k
  | .arr st none e => tiB P st (.slice (e.ty N)) 1 24 (.slice none 0 0) && (lenB N fx && e.okB)
  | _ => false
def El.okB : El → Bool
  | .pr k => prB N k
  | .txt k => txB N fx k
  | .row T _ _ fs => tsB P T fs.sz (bytesOf P T) (.agg fs.zero.toArray) && (Nat.ble (bytesOf P T) 131072 && (Nat.blt 0 fs.sz && fs.okB T 0 0))
def Fds.okB (Tt : TypeId) : Fds → Nat → Nat → Bool
  | .nil, _, _ => true
  | .tags, idx, off => fx && (hfB P Tt idx off && (!Nat.beq N.t_Tags 0 && !Nat.beq N.f_internalReadTags 0))
  | .cons _ t r, idx, off => hfB P Tt idx off && (t.okB && r.okB Tt (idx + 1) (off + t.sz))
end
end
end Go.Kf

/- A schema that passes the test is read. -/
namespace Go.Kf
open Go Go.RowKit

section
variable (P : Program) (N : Nums)
mutual
/-- The functions that set defaults are what they ought to be. -/
def Ty.dfs : Ty → Prop
  | .arr _ _ e => e.dfs
  | _ => True
def El.dfs : El → Prop
  | .row T _ f fs => FOk P f 1 (seqs (fs.dfl N T 0)) [] ∧ fs.dfs
  | _ => True
def Fds.dfs : Fds → Prop
  | .cons _ t r => t.dfs ∧ r.dfs
  | _ => True
end
end

theorem nbeq {n : Nat} (h : (!Nat.beq n 0) = true) : n ≠ 0 := fun e => by rw [e] at h; cases h

section
variable {P : Program} {N : Nums} {fx : Bool}

theorem prB_ok {k : PK} (h : prB N k = true) : k.f N ≠ 0 ∧ (k = .uuid → N.t_16_uint8 ≠ 0) := by
  unfold prB at h
  rw [Bool.and_eq_true, Bool.or_eq_true] at h
  refine ⟨nbeq h.1, fun e => ?_⟩
  rcases h.2 with h2 | h2
  · subst e; simp at h2
  · exact nbeq h2

theorem txB_ok {k : Txt} (h : txB N fx k = true) : (∀ f ∈ k.fns N fx, f ≠ 0) ∧ (k = .nstr → N.t_Pstring ≠ 0) := by
  unfold txB at h
  rw [Bool.and_eq_true, Bool.or_eq_true, List.all_eq_true] at h
  refine ⟨fun f hf => nbeq (h.1 f hf), fun e => ?_⟩
  rcases h.2 with h2 | h2
  · subst e; simp at h2
  · exact nbeq h2

theorem dB_ok {k : PK} {d : Option Value} (h : dB k d = true) : (d.getD k.zero).cells.toList.length = k.sz ∧ ∀ x, d = some x → k ≠ .uuid ∧ x.oneCell' = true := by
  cases d with
  | none => exact ⟨pk_zero_len k, fun x hx => by cases hx⟩
  | some d =>
    simp only [dB, Bool.and_eq_true, bne_iff_ne, ne_eq] at h
    refine ⟨?_, fun x hx => by cases hx; exact h⟩
    simp only [Option.getD_some]
    rw [cells_one h.2, pk_sz h.1]; rfl

theorem pk_bytes (B : Base P N) {k : PK} (hu : k = .uuid → N.t_16_uint8 ≠ 0) : ∃ d by', TI P (k.t N) d k.sz by' k.zero ∧ by' ≤ 131072 := by
  cases k with
  | bool => exact ⟨_, _, B.bool, by decide⟩
  | i8 => exact ⟨_, _, B.int8, by decide⟩
  | i16 => exact ⟨_, _, B.int16, by decide⟩
  | i32 => exact ⟨_, _, B.int32, by decide⟩
  | i64 => exact ⟨_, _, B.int64, by decide⟩
  | uuid => exact ⟨_, _, B.uuid (hu rfl), by decide⟩

theorem tx_bytes (B : Base P N) {k : Txt} (hp : k = .nstr → N.t_Pstring ≠ 0) : ∃ d by', TI P (k.t N) d 1 by' k.zero ∧ by' ≤ 131072 := by
  cases k with
  | str => exact ⟨_, _, B.string, by decide⟩
  | nstr => exact ⟨_, _, B.pstring (hp rfl), by decide⟩
  | byt => exact ⟨_, _, B.Lu8, by decide⟩
  | nbyt => exact ⟨_, _, B.Lu8, by decide⟩

/-- What is known of an element's type. -/
def ElT (P : Program) (N : Nums) (e : El) : Prop := (∃ d by' z, TI P (e.ty N) d e.sz by' z ∧ z.cells.toList = e.zero ∧ by' ≤ 131072) ∧ 0 < e.sz ∧ e.zero.length = e.sz

mutual
theorem Ty.ok_of (B : Base P N) (F : Fns P N) : ∀ (t : Ty), t.okB P N fx = true → t.dfs P N → TyOk P N fx t ∧ t.dok
  | .pr k d, h, _ => by
    simp only [Ty.okB, Bool.and_eq_true] at h
    obtain ⟨h1, h2⟩ := prB_ok h.1
    exact ⟨tyOk_pr B F h1 h2 (dB_ok h.2).1, (dB_ok h.2).1⟩
  | .txt k, h, _ => by
    simp only [Ty.okB] at h
    obtain ⟨h1, h2⟩ := txB_ok h
    exact ⟨tyOk_txt B F h1 h2, trivial⟩
  | .arr st none e, h, hd => by
    simp only [Ty.okB, Bool.and_eq_true, lenB, Bool.or_eq_true] at h
    obtain ⟨h1, ⟨⟨⟨⟨l1, l2⟩, l3⟩, l4⟩, h3⟩⟩ := h
    obtain ⟨he, ht, hs, hz⟩ := El.ok_of B F e h3 hd
    refine ⟨tyOk_arr B F ⟨tiB_ok h1, ht, hs, hz, nbeq l1, nbeq l2, nbeq l3⟩ (fun e => ?_) he, trivial⟩
    rcases l4 with l4 | l4
    · rw [e] at l4; cases l4
    · exact nbeq l4
  | .arr st (some n) e, h, _ => by simp only [Ty.okB] at h; cases h
  | .row .., h, _ => by simp only [Ty.okB] at h; cases h
theorem El.ok_of (B : Base P N) (F : Fns P N) : ∀ (e : El), e.okB P N fx = true → e.dfs P N → ElOk P N fx e ∧ ElT P N e
  | .pr k, h, _ => by
    simp only [El.okB] at h
    obtain ⟨h1, h2⟩ := prB_ok h
    obtain ⟨d, by', ht, hb⟩ := pk_bytes B h2
    exact ⟨elOk_pr B F h1 h2 (pk_zero_len k), ⟨d, by', _, ht, rfl, hb⟩, by cases k <;> decide, pk_zero_len k⟩
  | .txt k, h, _ => by
    simp only [El.okB] at h
    obtain ⟨h1, h2⟩ := txB_ok h
    obtain ⟨d, by', ht, hb⟩ := tx_bytes B h2
    exact ⟨elOk_txt B F h1 h2, ⟨d, by', _, ht, by cases k <;> rfl, hb⟩, Nat.one_pos, rfl⟩
  | .row T pT f fs, h, hd => by
    simp only [El.okB, Bool.and_eq_true] at h
    obtain ⟨h1, h2, h3, h4⟩ := h
    obtain ⟨fs', ht⟩ := tsB_ok h1
    obtain ⟨g1, g2, g3, g4⟩ := Fds.ok_of B F fs h4 hd.2
    have hdf := dfOk B hd.1 g4 g2
    exact ⟨elOk_row ht hdf g1 g2, ⟨_, _, _, ht, by simp [Value.cells, El.zero], by simpa using h2⟩, by simpa [El.sz] using h3, Fds.zero_length fs⟩
theorem Fds.ok_of (B : Base P N) (F : Fns P N) : ∀ (fs : Fds) {Tt : TypeId} {idx off : Nat}, fs.okB P N fx Tt idx off = true → fs.dfs P N → FdsOk P N fx fs ∧ fs.hf P Tt idx off ∧ fs.dok ∧ fs.plain
  | .nil, _, _, _, _, _ => ⟨fdsOk_nil, trivial, trivial, trivial⟩
  | .tags, Tt, idx, off, h, _ => by
    simp only [Fds.okB, Bool.and_eq_true] at h
    obtain ⟨h1, h2, h3, h4⟩ := h
    subst h1
    exact ⟨fdsOk_tags B (nbeq h3) (tagsOk B F (nbeq h4) (nbeq h3)), hfB_ok h2, trivial, trivial⟩
  | .cons g t r, Tt, idx, off, h, hd => by
    simp only [Fds.okB, Bool.and_eq_true] at h
    obtain ⟨h1, h2, h3⟩ := h
    obtain ⟨g1, g2⟩ := Ty.ok_of B F t h2 hd.1
    obtain ⟨k1, k2, k3, k4⟩ := Fds.ok_of B F r h3 hd.2
    refine ⟨fdsOk_cons g1 g2 k1, ⟨hfB_ok h1, k2⟩, ⟨g2, k3⟩, ?_⟩
    cases t with
    | pr k d =>
      cases d with
      | none => exact k4
      | some d =>
        simp only [Ty.okB, Bool.and_eq_true] at h2
        obtain ⟨a, b⟩ := (dB_ok h2.2).2 d rfl
        exact ⟨a, b, k4⟩
    | txt k => exact k4
    | arr st nul e => exact k4
    | row T' pT f fs => simp only [Ty.okB] at h2; cases h2
end

/-- A whole message. -/
theorem msgT_of (B : Base P N) (F : Fns P N) {m : Msg} (h : m.fs.okB P N fx m.tT 1 1 = true) (h0 : hfB P m.tT 0 0 = true) (hc : (!Nat.beq N.f_PReader_Complete 0) = true) (hd : m.fs.dfs P N) (hD : FOk P m.dflt 1 (seqs (m.fs.dfl N m.tT 1)) []) : MsgT P N m fx := by
  obtain ⟨k1, k2, k3, k4⟩ := Fds.ok_of B F m.fs h hd
  exact ⟨k2, hfB_ok h0, k4, hD, k1, nbeq hc⟩
end
end Go.Kf

/- A region that draws its order: reads that stay good, and what else there is in any order that it allows. -/
namespace Go.Kf
open Go Go.RowKit

/-- The operations that are no reads, in any order that waits. -/
def anyC (P : Program) (Cw : World → Prop) (l : List ROp) (rd : Nat → Bool) (K : Env → World → Prop) : Nat → List Nat → Env → World → Prop
  | 0, _, ρ, w => K ρ w
  | f + 1, C, ρ, w => ∀ i, readyP l C i → stepR P (l.getD i default) ρ w fun ρ w => (lastB l rd i = true ∨ Cw w) ∧ anyC P Cw l rd K f (C.erase i) ρ w

def pairB2 (l : List ROp) (rd : Nat → Bool) (i j : Nat) : Bool :=
  match (l.getD i default).dst with
  | none => true
  | some d =>
    if i == j then !(opTemps (l.getD j default)).contains d
    else (match (l.getD j default).dst with | some d' => !(Nat.beq d' d) | none => true) &&
      (!(opTemps (l.getD j default)).contains d || ((l.getD j default).after.contains i && (!rd j || rd i)))

def plan2 (l : List ROp) (rd : Nat → Bool) : Bool :=
  backB l && l.all (fun r => !isSel r.op) && (List.range l.length).all fun i => (List.range l.length).all fun j => pairB2 l rd i j

section
variable {P : Program} {l : List ROp} {rd : Nat → Bool}

theorem plan2_sel (h : plan2 l rd = true) {i : Nat} (hi : i < l.length) : isSel (l.getD i default).op = false := by
  unfold plan2 at h
  simp only [Bool.and_eq_true, List.all_eq_true] at h
  have := h.1.2 l[i] (List.getElem_mem hi)
  simpa [List.getD, hi] using this

theorem plan2_back (h : plan2 l rd = true) : backB l = true := by
  unfold plan2 at h
  simp only [Bool.and_eq_true] at h
  exact h.1.1

theorem pair2 (h : plan2 l rd = true) {i j d : Nat} (hi : i < l.length) (hj : j < l.length) (hd : (l.getD i default).dst = some d) :
    (i = j → d ∉ opTemps (l.getD j default)) ∧ (i ≠ j → (l.getD j default).dst ≠ some d ∧ (d ∈ opTemps (l.getD j default) → i ∈ (l.getD j default).after ∧ (rd j = true → rd i = true))) := by
  have h1 : pairB2 l rd i j = true := by
    unfold plan2 at h
    rw [Bool.and_eq_true, List.all_eq_true] at h
    have h1 := h.2 i (List.mem_range.2 hi)
    rw [List.all_eq_true] at h1
    exact h1 j (List.mem_range.2 hj)
  unfold pairB2 at h1
  rw [hd] at h1
  simp only at h1
  refine ⟨fun e => ?_, fun e => ?_⟩
  · have : (i == j) = true := by simpa using e
    rw [this] at h1; simpa using h1
  · have : (i == j) = false := by simpa using e
    rw [this] at h1
    simp only [Bool.false_eq_true, if_false, Bool.and_eq_true] at h1
    refine ⟨fun hc => ?_, fun hm => ?_⟩
    · rw [hc] at h1; simp at h1
    · have h2 := h1.2
      simp only [Bool.or_eq_true, Bool.not_eq_true', List.contains_eq_mem, decide_eq_true_eq, Bool.and_eq_true, decide_eq_false_iff_not] at h2
      rcases h2 with h2 | h2
      · exact absurd hm h2
      · refine ⟨h2.1, fun hr => ?_⟩
        rcases h2.2 with h3 | h3
        · rw [hr] at h3; cases h3
        · exact h3

theorem reads_spec2 (hp : plan2 l rd = true) {Cw : World → Prop} {K : Env → Prop} : ∀ (is : List Nat) (ρ : Env), is.Pairwise (· < ·) → (∀ i ∈ is, i < l.length) → readsR P Cw l rd K is ρ →
    ∃ ρ1, K ρ1 ∧ (∀ t, (∀ i ∈ is, rd i = true → (l.getD i default).dst ≠ some t) → ρ1 t = ρ t) ∧
      ∀ i ∈ is, rd i = true → ∃ v, (∀ d, (l.getD i default).dst = some d → ρ1 d = v) ∧ ∀ w, Cw w → yieldsR P (l.getD i default) ρ1 w v
  | [], ρ, _, _, h => ⟨ρ, h, fun _ _ => rfl, fun _ hi => by cases hi⟩
  | i :: is, ρ, hs, hlt, h => by
    have hs' := List.pairwise_cons.1 hs
    have hi := hlt i (by simp)
    have hlt' : ∀ j ∈ is, j < l.length := fun j hj => hlt j (by simp [hj])
    unfold readsR at h
    by_cases hr : rd i = true
    · rw [if_pos hr] at h
      obtain ⟨v, hy, h⟩ := h
      obtain ⟨ρ1, hK, hrest, hall⟩ := reads_spec2 hp is _ hs'.2 hlt' h
      refine ⟨ρ1, hK, fun t ht => ?_, fun j hj hrj => ?_⟩
      · rw [hrest t fun j hj hrj => ht j (by simp [hj]) hrj]
        have := ht i (by simp) hr
        cases hd : (l.getD i default).dst with
        | none => rfl
        | some d =>
          simp only [put]
          rw [if_neg (fun e => this (by rw [hd, e]))]
      · rcases List.mem_cons.1 hj with rfl | hj'
        · have hval : ∀ d, (l.getD j default).dst = some d → ρ1 d = v := fun d hd => by
            rw [hrest d fun k hk hrk hdk => by
              have hne : j ≠ k := by have := hs'.1 k hk; omega
              exact ((pair2 hp hi (hlt' k hk) hd ).2 hne).1 hdk]
            rw [hd]; simp [put]
          refine ⟨v, hval, fun w hw => yieldsR_congr (plan2_sel hp hi) (fun t ht => ?_) (hy w hw)⟩
          have hnd : (l.getD j default).dst ≠ some t := fun hd => (pair2 hp hi hi hd ).1 rfl ht
          rw [hrest t fun k hk hrk hdk => by
            have hk' := hlt' k hk
            have hne : k ≠ j := by have := hs'.1 k hk; omega
            have := ((pair2 hp hk' hi hdk).2 hne).2 ht
            have := backB_spec (plan2_back hp) hi this.1
            have := hs'.1 k hk; omega]
          cases hd : (l.getD j default).dst with
          | none => rfl
          | some d =>
            simp only [put]
            rw [if_neg (fun e => hnd (by rw [hd, e]))]
        · exact hall j hj' hrj
    · rw [if_neg hr] at h
      obtain ⟨ρ1, hK, hrest, hall⟩ := reads_spec2 hp is _ hs'.2 hlt' h
      refine ⟨ρ1, hK, fun t ht => hrest t fun j hj hrj => ht j (by simp [hj]) hrj, fun j hj hrj => ?_⟩
      rcases List.mem_cons.1 hj with rfl | hj'
      · exact absurd hrj hr
      · exact hall j hj' hrj


theorem anyP_of_plan2 (hp : plan2 l rd = true) {Cw : World → Prop} {K : Env → World → Prop} {ρ1 : Env}
    (hread : ∀ i, i < l.length → rd i = true → ∃ v, (∀ d, (l.getD i default).dst = some d → ρ1 d = v) ∧ ∀ w, Cw w → yieldsR P (l.getD i default) ρ1 w v) :
    ∀ (f : Nat) (pend : List Nat) (ρ : Env) (w : World), pend.length = f → pend.Pairwise (· < ·) → (∀ i ∈ pend, i < l.length) →
      (∀ j, j < l.length → j ∉ pend → ∀ e ∈ (l.getD j default).after, e ∉ pend) →
      (∀ t, (∀ j, j < l.length → j ∉ pend → rd j = false → (l.getD j default).dst ≠ some t) → fillP l rd ρ1 pend ρ t = ρ1 t) →
      ((∃ i ∈ pend, rd i = true) → Cw w) →
      anyC P Cw l rd K (pend.filter fun i => !rd i).length (pend.filter fun i => !rd i) (fillP l rd ρ1 pend ρ) w → anyP P l K f pend ρ w := by
  intro f
  induction f with
  | zero =>
    intro pend ρ w hf _ _ _ _ _ hc
    have hnil : pend = [] := List.length_eq_zero_iff.1 hf
    subst hnil
    have : fillP l rd ρ1 [] ρ = ρ := funext fun t => fillP_neg (fun i hi => by cases hi)
    rw [this] at hc
    exact hc
  | succ f ih =>
    intro pend ρ w hf hs hlt hcl hinv hCw hc i hready
    obtain ⟨hi, hall⟩ := hready
    have hil := hlt i hi
    have hnd : pend.Nodup := hs.imp (fun h => Nat.ne_of_lt h)
    -- what i looks at is done
    have hlook : ∀ t ∈ opTemps (l.getD i default), fillP l rd ρ1 pend ρ t = ρ t := fun t ht => fillP_neg fun k hk hrk hdk => by
      have hkl := hlt k hk
      by_cases hki : k = i
      · subst hki; exact (pair2 hp hkl hkl hdk).1 rfl ht
      · exact hall k (((pair2 hp hkl hil hdk).2 hki).2 ht).1 hk
    have hsel := plan2_sel hp hil
    -- the next state
    have hs' : (pend.erase i).Pairwise (· < ·) := hs.sublist List.erase_sublist
    have hlt' : ∀ j ∈ pend.erase i, j < l.length := fun j hj => hlt j (List.mem_of_mem_erase hj)
    have hlen' : (pend.erase i).length = f := by rw [List.length_erase_of_mem hi]; omega
    have hmem : ∀ j, j ∈ pend.erase i ↔ j ≠ i ∧ j ∈ pend := fun j => hnd.mem_erase_iff
    have hcl' : ∀ j, j < l.length → j ∉ pend.erase i → ∀ e ∈ (l.getD j default).after, e ∉ pend.erase i := fun j hj hjp e he hep => by
      have hep' := (hmem e).1 hep
      by_cases hji : j = i
      · subst hji; exact hall e he hep'.2
      · exact hcl j hj (fun h => hjp ((hmem j).2 ⟨hji, h⟩)) e he hep'.2
    by_cases hr : rd i = true
    · -- a read
      obtain ⟨v, hv, hy⟩ := hread i hil hr
      have heq : ∀ t ∈ opTemps (l.getD i default), ρ1 t = ρ t := fun t ht => by
        rw [← hlook t ht]
        refine (hinv t fun j hj hjp hrj hdj => ?_).symm
        by_cases hji : j = i
        · subst hji; rw [hr] at hrj; cases hrj
        · have := (((pair2 hp hj hil hdj).2 hji).2 ht).2 hr
          rw [hrj] at this; cases this
      have hy' := yieldsR_congr hsel heq (hy w (hCw ⟨i, hi, hr⟩))
      have hfill : fillP l rd ρ1 (pend.erase i) (put ρ (l.getD i default).dst v) = fillP l rd ρ1 pend ρ := by
        funext t
        by_cases ht : ∃ k ∈ pend.erase i, rd k = true ∧ (l.getD k default).dst = some t
        · obtain ⟨k, hk, hrk, hdk⟩ := ht
          rw [fillP_pos hk hrk hdk, fillP_pos ((hmem k).1 hk).2 hrk hdk]
        · rw [fillP_neg fun k hk hrk hdk => ht ⟨k, hk, hrk, hdk⟩]
          cases hd : (l.getD i default).dst with
          | none =>
            simp only [put]
            exact (fillP_neg fun k hk hrk hdk => by
              by_cases hki : k = i
              · subst hki; rw [hd] at hdk; cases hdk
              · exact ht ⟨k, (hmem k).2 ⟨hki, hk⟩, hrk, hdk⟩).symm
          | some d =>
            simp only [put]
            by_cases htd : t = d
            · subst htd
              rw [if_pos rfl, fillP_pos hi hr hd, hv t hd]
            · rw [if_neg htd]
              exact (fillP_neg fun k hk hrk hdk => by
                by_cases hki : k = i
                · subst hki; rw [hd] at hdk; exact htd (Option.some.inj hdk).symm
                · exact ht ⟨k, (hmem k).2 ⟨hki, hk⟩, hrk, hdk⟩).symm
      have hfil : (pend.erase i).filter (fun j => !rd j) = pend.filter fun j => !rd j := by
        rw [hnd.erase_eq_filter, List.filter_filter]
        refine List.filter_congr fun j hj => ?_
        by_cases hji : j = i
        · subst hji; simp [hr]
        · simp [hji]
      have hgo : anyP P l K f (pend.erase i) (put ρ (l.getD i default).dst v) w := by
        refine ih _ _ _ hlen' hs' hlt' hcl' (fun t ht => ?_) (fun ⟨k, hk, hrk⟩ => hCw ⟨k, ((hmem k).1 hk).2, hrk⟩) (by rw [hfil, hfill]; exact hc)
        · rw [hfill]
          refine hinv t fun j hj hjp hrj => ht j hj (fun h => hjp ((hmem j).1 h).2) hrj
      unfold stepR
      rcases hy' with ⟨hw, hrun⟩ | ⟨hw, rfl⟩
      · rw [if_pos hw, hrun]; exact hgo
      · rw [if_neg (by rw [hw]; simp)]; exact hgo
    · -- the chain's next
      have hr' : rd i = false := by simpa using hr
      have hiC : i ∈ pend.filter fun j => !rd j := List.mem_filter.2 ⟨hi, by simp [hr']⟩
      have hfil : (pend.erase i).filter (fun j => !rd j) = (pend.filter fun j => !rd j).erase i := by
        have hndC : (pend.filter fun j => !rd j).Nodup := hnd.sublist List.filter_sublist
        rw [hnd.erase_eq_filter, hndC.erase_eq_filter, List.filter_filter, List.filter_filter]
        refine List.filter_congr fun j _ => Bool.and_comm _ _
      have hlenC : (pend.filter fun j => !rd j).length = ((pend.filter fun j => !rd j).erase i).length + 1 := by
        have := List.length_erase_of_mem hiC
        have := List.length_pos_of_mem hiC
        omega
      rw [hlenC] at hc
      have hc := hc i ⟨hiC, fun e he hec => hall e he (List.mem_filter.1 hec).1⟩
      have hown : ∀ k ∈ pend.erase i, rd k = true → ∀ d, (l.getD i default).dst = some d → (l.getD k default).dst ≠ some d := fun k hk hrk d hd hdk => by
        have hkl := hlt' k hk
        exact ((pair2 hp hil hkl hd).2 (fun e => ((hmem k).1 hk).1 e.symm)).1 hdk
      have hfill : ∀ v, fillP l rd ρ1 (pend.erase i) (put ρ (l.getD i default).dst v) = put (fillP l rd ρ1 pend ρ) (l.getD i default).dst v := by
        intro v
        have hsame : ∀ t, (l.getD i default).dst ≠ some t → fillP l rd ρ1 (pend.erase i) (put ρ (l.getD i default).dst v) t = fillP l rd ρ1 pend ρ t := by
          intro t hti
          by_cases ht : ∃ k ∈ pend.erase i, rd k = true ∧ (l.getD k default).dst = some t
          · obtain ⟨k, hk, hrk, hdk⟩ := ht
            rw [fillP_pos hk hrk hdk, fillP_pos ((hmem k).1 hk).2 hrk hdk]
          · rw [fillP_neg fun k hk hrk hdk => ht ⟨k, hk, hrk, hdk⟩]
            rw [fillP_neg (pend := pend) fun k hk hrk hdk => by
              by_cases hki : k = i
              · subst hki; rw [hr'] at hrk; cases hrk
              · exact ht ⟨k, (hmem k).2 ⟨hki, hk⟩, hrk, hdk⟩]
            cases hd : (l.getD i default).dst with
            | none => rfl
            | some d =>
              simp only [put]
              rw [if_neg (fun e => hti (by rw [hd, e]))]
        funext t
        by_cases hti : (l.getD i default).dst = some t
        · rw [fillP_neg fun k hk hrk => hown k hk hrk t hti, hti]
          simp [put]
        · rw [hsame t hti]
          cases hd : (l.getD i default).dst with
          | none => rfl
          | some d =>
            simp only [put]
            rw [if_neg (fun e => hti (by rw [hd, e]))]
      have hgo : ∀ v w', ((lastB l rd i = true ∨ Cw w') ∧ anyC P Cw l rd K ((pend.filter fun j => !rd j).erase i).length ((pend.filter fun j => !rd j).erase i) (put (fillP l rd ρ1 pend ρ) (l.getD i default).dst v) w') → anyP P l K f (pend.erase i) (put ρ (l.getD i default).dst v) w' := by
        rintro v w' ⟨hlast, hch⟩
        refine ih _ _ _ hlen' hs' hlt' hcl' (fun t ht => ?_) (fun ⟨k, hk, hrk⟩ => ?_) (by rw [hfil, hfill]; exact hch)
        · rw [hfill]
          have hti := ht i hil (fun h => ((hmem i).1 h).1 rfl) hr'
          have h1 : put (fillP l rd ρ1 pend ρ) (l.getD i default).dst v t = fillP l rd ρ1 pend ρ t := by
            cases hd : (l.getD i default).dst with
            | none => rfl
            | some d => simp only [put]; rw [if_neg (fun e => hti (by rw [hd, e]))]
          rw [h1]
          exact hinv t fun j hj hjp hrj => ht j hj (fun h => hjp ((hmem j).1 h).2) hrj
        · rcases hlast with hlast | hcw
          · unfold lastB at hlast
            rw [List.all_eq_true] at hlast
            have := hlast k (List.mem_range.2 (hlt' k hk))
            simp only [hrk, Bool.not_true, Bool.false_or] at this
            exact absurd ((hmem k).1 hk).2 (reach_done (plan2_back hp) hcl _ i k hil hall this)
          · exact hcw
      have hexec : exec (fillP l rd ρ1 pend ρ) (l.getD i default) = exec ρ (l.getD i default) := exec_congr hsel hlook
      have hwant : wantedR (fillP l rd ρ1 pend ρ) (l.getD i default).guard = wantedR ρ (l.getD i default).guard := wantedR_congr hlook
      unfold stepR at hc ⊢
      rw [hexec, hwant] at hc
      by_cases hw : wantedR ρ (l.getD i default).guard = true
      · rw [if_pos hw] at hc ⊢
        exact upon_map hgo hc
      · rw [if_neg hw] at hc ⊢
        exact hgo _ _ hc



theorem anyP_mixed2 (hp : plan2 l rd = true) {Cw : World → Prop} {K : Env → World → Prop} {ρ : Env} {w : World} (hw : Cw w)
    (h : readsR P Cw l rd (fun ρ1 => anyC P Cw l rd K ((List.range l.length).filter fun i => !rd i).length ((List.range l.length).filter fun i => !rd i) ρ1 w) (List.range l.length) ρ) : anyP P l K l.length (List.range l.length) ρ w := by
  obtain ⟨ρ1, hK, hrest, hall⟩ := reads_spec2 hp _ _ List.pairwise_lt_range (fun i hi => List.mem_range.1 hi) h
  have hfill : fillP l rd ρ1 (List.range l.length) ρ = ρ1 := by
    funext t
    by_cases ht : ∃ k ∈ List.range l.length, rd k = true ∧ (l.getD k default).dst = some t
    · obtain ⟨k, hk, hrk, hdk⟩ := ht
      exact fillP_pos hk hrk hdk
    · rw [fillP_neg fun k hk hrk hdk => ht ⟨k, hk, hrk, hdk⟩]
      exact (hrest t fun k hk hrk hdk => ht ⟨k, hk, hrk, hdk⟩).symm
  refine anyP_of_plan2 hp (ρ1 := ρ1) (fun i hi hr => ?_) l.length _ ρ w (by simp) List.pairwise_lt_range (fun i hi => List.mem_range.1 hi) (fun j hj hjp => absurd (List.mem_range.2 hj) hjp)
    (fun t _ => by rw [hfill]) (fun _ => hw) (by rw [hfill]; exact hK)
  exact hall i (List.mem_range.2 hi) hr

/-- Each waits for one that is still to come, but the first. -/
def seqB (l : List ROp) : List Nat → Bool
  | [] => true
  | i :: C => C.all (fun j => (l.getD j default).after.any fun e => (i :: C).contains e) && seqB l C

theorem anyC_of_chain {Cw : World → Prop} {K : Env → World → Prop} : ∀ (C : List Nat) (ρ : Env) (w : World), seqB l C = true → C.Nodup → (∀ j, C.getLast? = some j → lastB l rd j = true) →
    chainZ P Cw K (C.map fun j => l.getD j default) ρ w → anyC P Cw l rd K C.length C ρ w
  | [], _, _, _, _, _, h => h
  | i :: C, ρ, w, hs, hnd, hlast, h => by
    simp only [seqB, Bool.and_eq_true, List.all_eq_true] at hs
    intro j hj
    have hji : j = i := by
      rcases List.mem_cons.1 hj.1 with e | he
      · exact e
      · have h1 := hs.1 j he
        rw [List.any_eq_true] at h1
        obtain ⟨e, he1, he2⟩ := h1
        exact absurd (by simpa using he2) (hj.2 e he1)
    subst hji
    rw [List.erase_cons_head]
    cases C with
    | nil =>
      refine stepR_mono (fun ρ w hk => ⟨.inl (hlast j rfl), ?_⟩) h
      exact hk
    | cons k C =>
      refine stepR_mono (fun ρ w hk => ⟨.inr hk.1, ?_⟩) h
      exact anyC_of_chain (k :: C) ρ w hs.2 (List.nodup_cons.1 hnd).2 (fun j' h' => hlast j' (by simpa using h')) hk.2
end

/-- What is no read. -/
def restI (l : List ROp) (rd : List Bool) : List Nat := (List.range l.length).filter fun i => !rdOf rd i

theorem W_drawC {P : Program} {loc : List Nat} {N : Nat} {Q : Exit → Env → World → Prop} {σ : Env} {w : World} {l : List ROp} (hm : P.follows .mixedOrders = true) (rd : List Bool) (hl : rd.length = l.length) (hp : plan2 l (rdOf rd) = true) (Cw : World → Prop) (hw : Cw w.drew)
    (h : ∀ τ, readsZ P Cw (fun ρ1 => anyC P Cw l (rdOf rd) (fun ρ w => Q .normal (locs ρ) w) (restI l rd).length (restI l rd) ρ1 w.drew) (l.zip rd) (envOf σ τ)) : W P loc N (.draw l) Q σ w := by
  have hzl : (l.zip rd).length = l.length := by simp [hl]
  have hz : ∀ i p, (l.zip rd)[i]? = some p → l.getD (0 + i) default = p.1 ∧ rdOf rd (0 + i) = p.2 := by
    intro i p hi
    rw [List.getElem?_zip_eq_some] at hi
    simp [List.getD, rdOf, hi.1, hi.2]
  refine W_draw hm (plan2_back hp) fun τ => anyP_mixed2 hp (Cw := Cw) hw ?_
  have e : List.range l.length = List.range' 0 (l.zip rd).length := by rw [hzl, List.range_eq_range']
  have h2 := readsR_of_Z (P := P) (Cw := Cw) (l := l) (rd := rdOf rd) (l.zip rd) 0 _ hz (h τ)
  rw [← e] at h2
  exact h2

/-- The same, what is no read being one chain. -/
def planM (l : List ROp) (rd : List Bool) : Bool :=
  Nat.beq rd.length l.length && plan2 l (rdOf rd) && seqB l (restI l rd) && (match (restI l rd).getLast? with
    | some j => lastB l (rdOf rd) j
    | none => true)

theorem W_drawM {P : Program} {loc : List Nat} {N : Nat} {Q : Exit → Env → World → Prop} {σ : Env} {w : World} {l : List ROp} (hm : P.follows .mixedOrders = true) (rd : List Bool) (hB : planM l rd = true) (Cw : World → Prop) (hw : Cw w.drew)
    (h : ∀ τ, readsZ P Cw (fun ρ1 => chainZ P Cw (fun ρ w => Q .normal (locs ρ) w) (chainOps l rd) ρ1 w.drew) (l.zip rd) (envOf σ τ)) : W P loc N (.draw l) Q σ w := by
  unfold planM at hB
  rw [Bool.and_eq_true, Bool.and_eq_true, Bool.and_eq_true] at hB
  obtain ⟨⟨⟨hl, hp⟩, hs⟩, hlast⟩ := hB
  have hl : rd.length = l.length := by simpa using hl
  have hz : ∀ i p, (l.zip rd)[i]? = some p → l.getD (0 + i) default = p.1 ∧ rdOf rd (0 + i) = p.2 := by
    intro i p hi
    rw [List.getElem?_zip_eq_some] at hi
    simp [List.getD, rdOf, hi.1, hi.2]
  have hcs := filter_zip (l := l) (rd := rdOf rd) (l.zip rd) 0 hz
  rw [show (l.zip rd).length = l.length by simp [hl], ← List.range_eq_range'] at hcs
  refine W_drawC hm rd hl hp Cw hw fun τ => ?_
  have mono : ∀ (r : List (ROp × Bool)) (ρ : Env) (K K' : Env → Prop), (∀ ρ, K ρ → K' ρ) → readsZ P Cw K r ρ → readsZ P Cw K' r ρ := by
    intro r
    induction r with
    | nil => intro ρ K K' hk h; exact hk _ h
    | cons p r ih =>
      intro ρ K K' hk h
      obtain ⟨o, b⟩ := p
      cases b with
      | true => obtain ⟨v, hv, h⟩ := h; exact ⟨v, hv, ih _ _ _ hk h⟩
      | false => exact ih _ _ _ hk h
  refine mono _ _ _ _ (fun ρ1 hc => ?_) (h τ)
  refine anyC_of_chain _ _ _ hs (List.nodup_range.sublist List.filter_sublist) (fun j hj => ?_) ?_
  · rw [hj] at hlast; exact hlast
  · have e : (restI l rd).map (fun j => l.getD j default) = chainOps l rd := hcs
    rw [e]; exact hc
end Go.Kf

/- Octets held against octets. -/
namespace Go.Kf
open Go Go.RowKit

section
variable {P : Program} {N : Nums} {loc : List Nat} {N' : Nat} {Q : Exit → Env → World → Prop} {σ : Env} {w : World}

/-- Rounds over a range. -/
def cRange (N : Nums) (i l c k : Nat) (body : C) : C :=
  .block k (.loop (.seq (.ops [⟨some (c + 100), .binOp .lss N.t_int (V i) (V l) N.t_int, 0, none, []⟩]) (.seq (.cond c .skip (.exit k)) (.seq (.block (k + 1) body)
    (.ops [⟨some 0, .binOp .add N.t_int (V i) (.const (.int .i64 1)) N.t_int, 0, none, []⟩, ⟨some (i + 100), .move (T 0), 0, none, []⟩])))))

theorem W_cRange (hlo : LocOk loc N') {i l c k L : Nat} {body : C} (hL : L < 4611686018427387904) (I : Nat → Env → World → Prop)
    (hI : ∀ j σ w, I j σ w → σ i = .int .i64 j ∧ σ l = .int .i64 L ∧ j ≤ L) (hc : ∀ j σ w b, I j σ w → I j (upd σ c (.bool b)) w)
    (h0 : I 0 σ w) (hend : ∀ σ w, I L σ w → Q .normal σ w)
    (hb : ∀ j σ w, j < L → I j σ w → W P loc N' body (fun e σ' w' => match e with
      | .normal => σ' i = .int .i64 j ∧ I (j + 1) (upd σ' i (.int .i64 ((j + 1 : Nat) : Int))) w'
      | .ret => Q .ret σ' w'
      | _ => False) σ w) : W P loc N' (cRange N i l c k body) Q σ w := by
  unfold cRange
  refine W_block (W_loop (fun m σ w => ∃ j, m = L - j ∧ I j σ w) (n := L) ⟨0, by omega, h0⟩ ?_)
  rintro m σ1 w1 ⟨j, rfl, hj⟩
  obtain ⟨f1, f2, f3⟩ := hI j σ1 w1 hj
  refine W_seq' fun K hK => W_ops fun τ => ?_
  simp (decide := true) (disch := omega) only [runR, step_binOp, run_lss, stepV_ok, ev_tmp, envOf_var, f1, f2, locs_put_var, locs_envOf]
  refine hK _ _ ?_
  clear hK K
  refine W_seq' fun K hK => W_if hlo (upd_same _ _ _) ?_
  by_cases hlt : (j : Int) < L
  · rw [decide_eq_true hlt, if_pos rfl]
    refine W_skip (hK _ _ ?_)
    clear hK K
    have hj2 := hc j σ1 w1 true hj
    refine W_seq' fun K hK => W_block (W_mono (hb j _ w1 (by omega) hj2) ?_)
    rintro e σ2 w2 hq
    cases e with
    | normal =>
      obtain ⟨g1, g2⟩ := hq
      refine hK _ _ (W_ops fun τ => ?_)
      have hw : IntKind.i64.wrap ((j : Int) + 1) = (((j + 1 : Nat) : Int)) := by
        rw [show ((j : Int) + 1) = ((j + 1 : Nat) : Int) by omega]
        exact wrap_i64 (by omega) (by omega)
      simp (decide := true) (disch := omega) only [runR, step_move, step_binOp, run_iadd, stepV_ok, ev_tmp, ev_const, put_at, envOf_var, sel_true, BEq.rfl, g1, hw, locs_put_var, locs_own, locs_envOf]
      exact ⟨L - (j + 1), by omega, j + 1, rfl, g2⟩
    | ret => exact hq
    | _ => exact hq.elim
  · rw [decide_eq_false hlt, if_neg (by simp)]
    refine W_exit ?_
    simp only [thenQ, inB, if_true]
    have hjL : j = L := by omega
    subst hjL
    exact hend _ _ (hc _ _ _ _ hj)

theorem tagV.get (B : Base P N) {G : Nat → Prop} {v : Value} {l : List UInt8} (h : tagV w G v l) {j : Nat} {x : UInt8} (hx : l[j]? = some x) :
    ∃ b o, (∀ w', (Instr.indexAt N.t_Luint8 v (.int .i64 j)).run P w' = .ok (.pointer (some ⟨b, o, none⟩)) w') ∧ w.cell? ⟨b, o, none⟩ = some (.int .u8 x.toNat) := by
  have hj := (List.getElem?_eq_some_iff.1 hx).1
  rcases h with ⟨rfl, _⟩ | ⟨b, o, c, rfl, h2, h3, h4⟩
  · simp at hj
  · refine ⟨b, o + j * 1, fun w' => run_indexAt B.Lu8 B.uint8 hj, ?_⟩
    have := h4 j (byteV x) (by rw [List.getElem?_map, hx]; rfl)
    simpa [byteV] using this

theorem tagV.len (B : Base P N) {G : Nat → Prop} {v : Value} {l : List UInt8} {ty : TypeId} {w' : World} (h : tagV w G v l) : (Builtin.len_ #[N.t_Luint8] ty #[v]).run P w' = .ok (.int .i64 l.length) w' := by
  rcases h with ⟨rfl, h⟩ | ⟨b, o, c, rfl, _⟩
  · have : v = .slice none 0 0 := h
    subst this
    rw [B.Lu8.run_len]; rfl
  · exact B.Lu8.run_len
end

theorem readsZ_of_still {P : Program} {w : World} {K : Env → Prop} : ∀ (r : List ROp) (ρ : Env), (∀ o ∈ r, pureOp o.op = true) → stillL P w K r ρ → readsZ P (· = w) K (r.map fun o => (o, true)) ρ
  | [], _, _, h => h
  | o :: r, ρ, hp, h => by
    obtain ⟨v, w', hor, hw', hs⟩ := stepR_pure (hp o (by simp)) h
    refine ⟨v, fun w1 e => ?_, readsZ_of_still r _ (fun o ho => hp o (by simp [ho])) hs⟩
    subst e
    rcases hor with ⟨ha, hb⟩ | ⟨ha, hb, _⟩
    · left; refine ⟨ha, ?_⟩; rw [hb, hw']
    · right; exact ⟨ha, hb⟩

/-- A region of reads alone. -/
def stillB (l : List ROp) : Bool := planM l (l.map fun _ => true) && l.all fun o => pureOp o.op

theorem chainOps_all (l : List ROp) : chainOps l (l.map fun _ => true) = [] := by
  unfold chainOps
  have : (l.zip (l.map fun _ => true)).filter (fun p => !p.2) = [] := by
    rw [List.filter_eq_nil_iff]
    intro p hp
    have := (List.of_mem_zip hp).2
    rw [List.mem_map] at this
    obtain ⟨_, _, e⟩ := this
    simp [← e]
  rw [this]; rfl

theorem zip_true (l : List ROp) : l.zip (l.map fun _ => true) = l.map fun o => (o, true) := by
  induction l with
  | nil => rfl
  | cons o l ih => simp only [List.map_cons, List.zip_cons_cons, ih]

theorem W_drawS {P : Program} {loc : List Nat} {N : Nat} {Q : Exit → Env → World → Prop} {σ : Env} {w : World} {l : List ROp} (hm : P.follows .mixedOrders = true) (hB : stillB l = true)
    (h : ∀ τ, stillL P w.drew (fun ρ => Q .normal (locs ρ) w.drew) l (envOf σ τ)) : W P loc N (.draw l) Q σ w := by
  unfold stillB at hB
  rw [Bool.and_eq_true, List.all_eq_true] at hB
  refine W_drawM hm (l.map fun _ => true) hB.1 (· = w.drew) rfl fun τ => ?_
  rw [zip_true, chainOps_all]
  exact readsZ_of_still l _ hB.2 (h τ)

section
variable {P : Program} {N : Nums}

theorem rangeAt_stay {w w' : World} (h : Mod w w' none') {b o : Nat} {cs : List Value} (hr : w.rangeAt b o cs) : w'.rangeAt b o cs := fun j v hj => by
  have h1 := hr j v hj
  rw [h.cell b (o + j) (cell_lt (by rw [h1]; rfl)) (fun h => h)]
  exact h1

theorem OctG.stay {w w' : World} (h : Mod w w' none') {G : Nat → Prop} {v : Value} {o : Option (List UInt8)} (hb : OctG w G v o) : OctG w' G v o := by
  cases o with
  | none => exact hb
  | some l =>
    obtain ⟨b, o, c, h1, h2, h3, h4⟩ := hb
    exact ⟨b, o, c, h1, h2, h3, rangeAt_stay h h4⟩

theorem tagV.stay {w w' : World} (h : Mod w w' none') {G : Nat → Prop} {v : Value} {l : List UInt8} (hb : tagV w G v l) : tagV w' G v l := hb.imp (fun x => ⟨x.1, x.2⟩) fun x => x.stay h

theorem call_Same (B : Base P N) (F : Fns P N) (hN : N.f_spec_Same ≠ 0) {w : World} {G G' : Nat → Prop} {v1 v2 : Value} {l : List UInt8} (h1 : tagV w G v1 l) (h2 : tagV w G' v2 l) (hl : l.length < 4611686018427387904) :
    Call P N.f_spec_Same #[v1, v2] w fun v w' => v = .bool true ∧ Mod w w' none' := by
  refine (F.spec_Same hN).call rfl fun loc N' hlo => ?_
  unfold c_spec_Same
  refine W_seq' fun K hK => W_const (hK _ _ ?_)
  clear hK K
  obtain ⟨σ, hσ⟩ : ∃ σ, σ = upd (argEnv #[v1, v2]) 2 (.bool false) := ⟨_, rfl⟩
  have f0 : σ 0 = v1 := by rw [hσ, upd_ne (by decide)]; rfl
  have f1 : σ 1 = v2 := by rw [hσ, upd_ne (by decide)]; rfl
  rw [← hσ]
  clear hσ
  refine W_seq' fun K hK => W_seq' fun K1 hK1 => W_ops fun τ => ?_
  simp (decide := true) (disch := omega) only [runR, step_move, step_binOp, step_len, run_ineq, stepV_ok, ev_tmp, put_at, envOf_var, sel_true, sel_false, Nat.reduceBeqDiff, BEq.rfl, Nat.reduceAdd, Nat.zero_add, f0, f1, h1.len B, h2.len B, locs_put_var, locs_own, locs_envOf]
  refine hK1 _ _ (W_if hlo (upd_same _ _ _) ?_)
  clear hK1 K1
  rw [show ((l.length : Int) != (l.length : Int)) = false from by simp, if_neg (by simp)]
  refine W_skip (hK _ _ ?_)
  clear hK K
  refine W_seq' fun K hK => W_seq' fun K1 hK1 => W_ops fun τ => ?_
  simp (decide := true) (disch := omega) only [runR, step_move, step_len, stepV_ok, ev_tmp, ev_const, put_at, envOf_var, sel_true, BEq.rfl, Nat.reduceAdd, Nat.zero_add, upd_ne, f0, h1.len B]
  refine hK1 _ _ (gen_locs fun σ2 hσ => ?_)
  have g0 := hσ 0
  have g1 := hσ 1
  have g4 := hσ 4
  have g5 := hσ 5
  simp (decide := true) only [put_at, envOf_var, sel_true, sel_false, Nat.reduceBeqDiff, BEq.rfl, Nat.reduceAdd, Nat.zero_add, upd_ne, f0, f1] at g0 g1 g4 g5
  clear hσ hK1 K1
  refine W_cRange (i := 5) (l := 4) (c := 6) (k := 0) hlo hl (fun j σ w' => σ 0 = v1 ∧ σ 1 = v2 ∧ σ 4 = .int .i64 l.length ∧ σ 5 = .int .i64 j ∧ j ≤ l.length ∧ Mod w w' none') (fun j σ w h => ⟨h.2.2.2.1, h.2.2.1, h.2.2.2.2.1⟩) (fun j σ w b h => ?_) ⟨g0, g1, g4, g5, Nat.zero_le _, .refl _ _⟩ (fun σ' w' h => hK _ _ ?_) (fun j σ' w' hj h => ?_)
  · obtain ⟨a, b, c, d, e, f⟩ := h
    exact ⟨by rw [upd_ne (by decide)]; exact a, by rw [upd_ne (by decide)]; exact b, by rw [upd_ne (by decide)]; exact c, by rw [upd_ne (by decide)]; exact d, e, f⟩
  · refine W_seq' fun K2 hK2 => W_const (hK2 _ _ (W_ret ⟨.inr rfl, _, rfl, upd_same _ _ _, h.2.2.2.2.2⟩))
  · obtain ⟨a, b, c, d, e, f⟩ := h
    have hx : l[j]? = some l[j] := List.getElem?_eq_getElem hj
    have md : Mod w w'.drew none' := f.trans' (Mod.drew _ _)
    obtain ⟨b1, o1, hi1, hc1⟩ := (h1.stay md).get B hx
    obtain ⟨b2, o2, hi2, hc2⟩ := (h2.stay md).get B hx
    refine W_seq' fun K2 hK2 => W_ops fun τ => ?_
    simp (decide := true) (disch := omega) only [runR, step_move, step_assign, ev_tmp, put_at, envOf_var, sel_true, BEq.rfl, Nat.reduceAdd, d]
    refine hK2 _ _ (gen_locs fun σ3 hσ => ?_)
    have p0 := hσ 0
    have p1 := hσ 1
    have p4 := hσ 4
    have p5 := hσ 5
    have p7 := hσ 7
    simp (decide := true) only [put_at, envOf_var, sel_true, sel_false, Nat.reduceBeqDiff, BEq.rfl, Nat.reduceAdd, Nat.zero_add, a, b, c, d] at p0 p1 p4 p5 p7
    clear hσ hK2 K2
    refine W_seq' fun K2 hK2 => W_drawS B.mixed (by kernel_rfl) fun τ => ?_
    simp (decide := true) (disch := omega) only [stillL, step_move, step_load, step_binOp, step_indexAddr, run_ineq, stepV_ok, ev_tmp, put_at, envOf_var, sel_true, sel_false, Nat.reduceBeqDiff, BEq.rfl, ldc_some, Nat.reduceAdd, Nat.zero_add, true_and, p0, p1, p7, hi1, hi2, B.uint8.run_load1 rfl, hc1, hc2]
    refine hK2 _ _ (gen_locs fun σ4 hσ => ?_)
    have q0 := hσ 0
    have q1 := hσ 1
    have q4 := hσ 4
    have q5 := hσ 5
    have q8 := hσ 8
    simp (decide := true) only [put_at, envOf_var, sel_true, sel_false, Nat.reduceBeqDiff, BEq.rfl, Nat.reduceAdd, Nat.zero_add, p0, p1, p4, p5] at q0 q1 q4 q5 q8
    clear hσ hK2 K2
    refine W_if hlo q8 ?_
    rw [show ((l[j].toNat : Int) != (l[j].toNat : Int)) = false from by simp, if_neg (by simp)]
    refine W_skip ⟨q5, ?_⟩
    exact ⟨by rw [upd_ne (by decide)]; exact q0, by rw [upd_ne (by decide)]; exact q1, by rw [upd_ne (by decide)]; exact q4, upd_same _ _ _, by omega, md⟩
end
end Go.Kf

/- A region that draws its order, its reads first. -/
namespace Go.Kf
open Go Go.RowKit

theorem anyC_of_run {P : Program} {l : List ROp} {rd : Nat → Bool} {Cw : World → Prop} {K : Env → World → Prop} : ∀ (C : List Nat) (ρ : Env) (w : World), seqB l C = true → (∀ j ∈ C, lastB l rd j = true) →
    runR P (C.map fun j => l.getD j default) ρ w K → anyC P Cw l rd K C.length C ρ w
  | [], _, _, _, _, h => h
  | i :: C, ρ, w, hs, hlast, h => by
    simp only [seqB, Bool.and_eq_true, List.all_eq_true] at hs
    intro j hj
    have hji : j = i := by
      rcases List.mem_cons.1 hj.1 with e | he
      · exact e
      · have h1 := hs.1 j he
        rw [List.any_eq_true] at h1
        obtain ⟨e, he1, he2⟩ := h1
        exact absurd (by simpa using he2) (hj.2 e he1)
    subst hji
    rw [List.erase_cons_head]
    exact stepR_mono (fun ρ w hk => ⟨.inl (hlast j (by simp)), anyC_of_run C ρ w hs.2 (fun k hk => hlast k (by simp [hk])) hk⟩) h

def rdK (l : List ROp) (k : Nat) : List Bool := (l.take k).map (fun _ => true) ++ (l.drop k).map fun _ => false

def drawKB (l : List ROp) (k : Nat) : Bool :=
  Nat.ble k l.length && (plan2 l (rdOf (rdK l k)) && (seqB l (restI l (rdK l k)) && ((restI l (rdK l k)).all (fun j => lastB l (rdOf (rdK l k)) j) && (l.take k).all fun o => pureOp o.op)))

theorem readsZ_skip {P : Program} {Cw : World → Prop} {K : Env → Prop} : ∀ (r : List ROp) (ρ : Env), K ρ → readsZ P Cw K (r.map fun o => (o, false)) ρ
  | [], _, h => h
  | _ :: r, ρ, h => readsZ_skip r ρ h

theorem readsZ_append {P : Program} {Cw : World → Prop} {K : Env → Prop} : ∀ (a b : List (ROp × Bool)) (ρ : Env), readsZ P Cw (fun ρ => readsZ P Cw K b ρ) a ρ → readsZ P Cw K (a ++ b) ρ
  | [], _, _, h => h
  | (o, true) :: a, b, ρ, ⟨v, hv, h⟩ => ⟨v, hv, readsZ_append a b _ h⟩
  | (o, false) :: a, b, ρ, h => readsZ_append a b ρ h

theorem W_drawK {P : Program} {loc : List Nat} {N : Nat} {Q : Exit → Env → World → Prop} {σ : Env} {w : World} {l : List ROp} (hm : P.follows .mixedOrders = true) (k : Nat) (hB : drawKB l k = true)
    (h : ∀ τ, stillL P w.drew (fun ρ => runR P (l.drop k) ρ w.drew fun ρ w => Q .normal (locs ρ) w) (l.take k) (envOf σ τ)) : W P loc N (.draw l) Q σ w := by
  unfold drawKB at hB
  simp only [Bool.and_eq_true, List.all_eq_true] at hB
  obtain ⟨hk, hp, hs, hlast, hpure⟩ := hB
  have hk : k ≤ l.length := by simpa using hk
  have hlen : (rdK l k).length = l.length := by simp [rdK]; omega
  have hzip : l.zip (rdK l k) = (l.take k).map (fun o => (o, true)) ++ (l.drop k).map fun o => (o, false) := by
    have : ∀ (a b : List ROp), (a ++ b).zip ((a.map fun _ => true) ++ b.map fun _ => false) = (a.map fun o => (o, true)) ++ b.map fun o => (o, false) := by
      intro a b
      induction a with
      | nil =>
        induction b with
        | nil => rfl
        | cons o b ih => simpa using ih
      | cons o a ih => simpa using ih
    have h2 := this (l.take k) (l.drop k)
    rw [List.take_append_drop] at h2
    exact h2
  have hrest : (restI l (rdK l k)).map (fun j => l.getD j default) = l.drop k := by
    have hz : ∀ i p, (l.zip (rdK l k))[i]? = some p → l.getD (0 + i) default = p.1 ∧ rdOf (rdK l k) (0 + i) = p.2 := by
      intro i p hi
      rw [List.getElem?_zip_eq_some] at hi
      simp [List.getD, rdOf, hi.1, hi.2]
    have hcs := filter_zip (l := l) (rd := rdOf (rdK l k)) (l.zip (rdK l k)) 0 hz
    rw [show (l.zip (rdK l k)).length = l.length by simp [hlen], ← List.range_eq_range'] at hcs
    have e : ((l.zip (rdK l k)).filter fun p => !p.2).map Prod.fst = l.drop k := by
      rw [hzip, List.filter_append]
      have e1 : ((l.take k).map fun o => (o, true)).filter (fun p : ROp × Bool => !p.2) = [] := by
        rw [List.filter_eq_nil_iff]; intro p hp; obtain ⟨o, _, rfl⟩ := List.mem_map.1 hp; simp
      have e2 : ((l.drop k).map fun o => (o, false)).filter (fun p : ROp × Bool => !p.2) = (l.drop k).map fun o => (o, false) := by
        rw [List.filter_eq_self]; intro p hp; obtain ⟨o, _, rfl⟩ := List.mem_map.1 hp; rfl
      rw [e1, e2, List.nil_append, List.map_map]
      simp [Function.comp_def]
    exact hcs.trans e
  refine W_drawC hm (rdK l k) hlen hp (· = w.drew) rfl fun τ => ?_
  rw [hzip]
  refine readsZ_append _ _ _ ?_
  have mono : ∀ (r : List ROp) (ρ : Env) (K K' : Env → Prop), (∀ ρ, K ρ → K' ρ) → stillL P w.drew K r ρ → stillL P w.drew K' r ρ := by
    intro r
    induction r with
    | nil => intro ρ K K' hk h; exact hk _ h
    | cons o r ih => intro ρ K K' hk h; exact stepR_mono (fun ρ w' hh => ⟨hh.1, ih ρ K K' hk hh.2⟩) h
  refine readsZ_of_still _ _ hpure (mono _ _ _ _ (fun ρ hr => ?_) (h τ))
  refine readsZ_skip _ _ ?_
  refine anyC_of_run _ _ _ hs hlast ?_
  rw [hrest]; exact hr
end Go.Kf

/- Trees: what is told of a message, and how it lies in memory. -/
namespace Go.Kf
open Go Go.RowKit

inductive Tr where
  | mk (n : Int) (s : List UInt8) (nl : Bool) (l : List Tr) (u : List (Nat × List UInt8))

def UsG (w : World) (G : Nat → Prop) : List (Nat × List UInt8) → List Value → Prop
  | [], cs => cs = []
  | (k, l) :: r, cs => ∃ v rest, cs = .int .u32 k :: v :: rest ∧ tagV w G v l ∧ UsG w G r rest

/-- A list of tags. -/
def RepU (w : World) (G : Nat → Prop) (v : Value) (u : List (Nat × List UInt8)) : Prop :=
  (v = .slice none 0 0 ∧ u = []) ∨ ∃ b c cs, v = .slice (some ⟨b, 0, none⟩) u.length c ∧ u.length ≤ c ∧ (u ≠ [] → G b) ∧ UsG w G u cs ∧ w.rangeAt b 0 cs

mutual
def RepT (w : World) (G : Nat → Prop) : Tr → List Value → Prop
  | .mk n s nl l u, cs => ∃ vs vl vu, cs = [.int .i64 n, vs, .bool nl, vl, vu] ∧ tagV w G vs s ∧
      ((vl = .slice none 0 0 ∧ l = []) ∨ ∃ b c css, vl = .slice (some ⟨b, 0, none⟩) l.length c ∧ l.length ≤ c ∧ (l ≠ [] → G b) ∧ RepTs w G l css ∧ w.rangeAt b 0 css.flatten) ∧ RepU w G vu u
def RepTs (w : World) (G : Nat → Prop) : List Tr → List (List Value) → Prop
  | [], css => css = []
  | t :: l, css => ∃ c r, css = c :: r ∧ RepT w G t c ∧ RepTs w G l r
end

theorem RepT.len {w : World} {G : Nat → Prop} {t : Tr} {cs : List Value} (h : RepT w G t cs) : cs.length = 5 := by
  cases t
  simp only [RepT] at h
  obtain ⟨_, _, _, rfl, _⟩ := h
  rfl

theorem tagV.one {w : World} {G : Nat → Prop} {v : Value} {l : List UInt8} (h : tagV w G v l) : v.oneCell' = true := by
  rcases h with ⟨_, h⟩ | ⟨b, o, c, rfl, _⟩
  · have : v = .slice none 0 0 := h
    subst this; rfl
  · rfl

theorem RepT.one {w : World} {G : Nat → Prop} {t : Tr} {cs : List Value} (h : RepT w G t cs) : ∀ c ∈ cs, c.oneCell' = true := by
  cases t
  simp only [RepT] at h
  obtain ⟨vs, vl, vu, rfl, h1, h2, h3⟩ := h
  have e2 : vl.oneCell' = true := by
    rcases h2 with ⟨rfl, _⟩ | ⟨b, c, css, rfl, _⟩ <;> rfl
  have e3 : vu.oneCell' = true := by
    rcases h3 with ⟨rfl, _⟩ | ⟨b, c, css, rfl, _⟩ <;> rfl
  intro c hc
  simp at hc
  rcases hc with rfl | rfl | rfl | rfl | rfl
  · rfl
  · exact h1.one
  · rfl
  · exact e2
  · exact e3

theorem UsG.stay {w w' : World} (h : Mod w w' none') {G : Nat → Prop} : ∀ {u : List (Nat × List UInt8)} {cs : List Value}, UsG w G u cs → UsG w' G u cs
  | [], _, hu => hu
  | (k, l) :: r, _, ⟨v, rest, h1, h2, h3⟩ => ⟨v, rest, h1, h2.stay h, UsG.stay h h3⟩
theorem RepU.stay {w w' : World} (h : Mod w w' none') {G : Nat → Prop} {v : Value} {u : List (Nat × List UInt8)} (hu : RepU w G v u) : RepU w' G v u :=
  hu.imp id fun ⟨b, c, cs, h1, h2, h3, h4, h5⟩ => ⟨b, c, cs, h1, h2, h3, h4.stay h, rangeAt_stay h h5⟩

mutual
theorem RepT.stay {w w' : World} (h : Mod w w' none') {G : Nat → Prop} : ∀ (t : Tr) {cs : List Value}, RepT w G t cs → RepT w' G t cs
  | .mk n s nl l u, _, ⟨vs, vl, vu, h1, h2, h3, h4⟩ => ⟨vs, vl, vu, h1, h2.stay h, h3.imp id fun ⟨b, c, css, g1, g2, g3, g4, g5⟩ => ⟨b, c, css, g1, g2, g3, RepTs.stay h l g4, rangeAt_stay h g5⟩, h4.stay h⟩
theorem RepTs.stay {w w' : World} (h : Mod w w' none') {G : Nat → Prop} : ∀ (l : List Tr) {css : List (List Value)}, RepTs w G l css → RepTs w' G l css
  | [], _, hr => hr
  | t :: l, _, ⟨c, r, h1, h2, h3⟩ => ⟨c, r, h1, RepT.stay h t h2, RepTs.stay h l h3⟩
end

theorem UsG.mod {w w' : World} {M : Nat → Nat → Prop} {G G' : Nat → Prop} (h : Mod w w' M) (hG : ∀ k, G k → k < w.heap.size ∧ (∀ o, ¬ M k o) ∧ G' k) : ∀ {u : List (Nat × List UInt8)} {cs : List Value}, UsG w G u cs → UsG w' G' u cs
  | [], _, hu => hu
  | (k, l) :: r, _, ⟨v, rest, h1, h2, h3⟩ => ⟨v, rest, h1, h2.mod h hG, UsG.mod h hG h3⟩
theorem RepU.mod {w w' : World} {M : Nat → Nat → Prop} {G G' : Nat → Prop} (h : Mod w w' M) (hG : ∀ k, G k → k < w.heap.size ∧ (∀ o, ¬ M k o) ∧ G' k) {v : Value} {u : List (Nat × List UInt8)} (hu : RepU w G v u) : RepU w' G' v u := by
  rcases hu with hu | ⟨b, c, cs, h1, h2, h3, h4, h5⟩
  · exact .inl hu
  · refine .inr ⟨b, c, cs, h1, h2, fun hne => (hG b (h3 hne)).2.2, h4.mod h hG, ?_⟩
    cases u with
    | nil => simp only [UsG] at h4; subst h4; intro j v hj; simp at hj
    | cons x u => obtain ⟨g1, g2, _⟩ := hG b (h3 (by simp)); exact h.rangeAt g1 (fun i _ _ => g2 i) h5

mutual
theorem RepT.mod {w w' : World} {M : Nat → Nat → Prop} {G G' : Nat → Prop} (h : Mod w w' M) (hG : ∀ k, G k → k < w.heap.size ∧ (∀ o, ¬ M k o) ∧ G' k) : ∀ (t : Tr) {cs : List Value}, RepT w G t cs → RepT w' G' t cs
  | .mk n s nl l u, _, ⟨vs, vl, vu, h1, h2, h3, h4⟩ => ⟨vs, vl, vu, h1, h2.mod h hG, h3.imp id fun ⟨b, c, css, g1, g2, g3, g4, g5⟩ => ⟨b, c, css, g1, g2, fun hne => (hG b (g3 hne)).2.2, RepTs.mod h hG l g4, by
      cases l with
      | nil => simp only [RepTs] at g4; subst g4; intro j v hj; simp at hj
      | cons x l => obtain ⟨k1, k2, _⟩ := hG b (g3 (by simp)); exact h.rangeAt k1 (fun i _ _ => k2 i) g5⟩, h4.mod h hG⟩
theorem RepTs.mod {w w' : World} {M : Nat → Nat → Prop} {G G' : Nat → Prop} (h : Mod w w' M) (hG : ∀ k, G k → k < w.heap.size ∧ (∀ o, ¬ M k o) ∧ G' k) : ∀ (l : List Tr) {css : List (List Value)}, RepTs w G l css → RepTs w' G' l css
  | [], _, hr => hr
  | t :: l, _, ⟨c, r, h1, h2, h3⟩ => ⟨c, r, h1, RepT.mod h hG t h2, RepTs.mod h hG l h3⟩
end

theorem RepTs.length {w : World} {G : Nat → Prop} : ∀ {l : List Tr} {css : List (List Value)}, RepTs w G l css → css.length = l.length
  | [], _, h => by simp only [RepTs] at h; subst h; rfl
  | t :: l, _, ⟨c, r, h1, h2, h3⟩ => by subst h1; simp [RepTs.length h3]
theorem RepTs.append {w : World} {G : Nat → Prop} : ∀ {l : List Tr} {css : List (List Value)} {l' : List Tr} {css' : List (List Value)}, RepTs w G l css → RepTs w G l' css' → RepTs w G (l ++ l') (css ++ css')
  | [], _, _, _, h, h' => by simp only [RepTs] at h; subst h; exact h'
  | t :: l, _, _, _, ⟨c, r, h1, h2, h3⟩, h' => by subst h1; exact ⟨c, r ++ _, rfl, h2, RepTs.append h3 h'⟩
theorem RepTs.get {w : World} {G : Nat → Prop} : ∀ {l : List Tr} {css : List (List Value)} {j : Nat} {t : Tr}, RepTs w G l css → l[j]? = some t → ∃ c, css[j]? = some c ∧ RepT w G t c
  | [], _, j, t, _, hj => by simp at hj
  | t' :: l, _, 0, t, ⟨c, r, h1, h2, h3⟩, hj => by subst h1; simp at hj; subst hj; exact ⟨c, rfl, h2⟩
  | t' :: l, _, j + 1, t, ⟨c, r, h1, h2, h3⟩, hj => by subst h1; simpa using RepTs.get h3 (by simpa using hj)

/-- Element j of a row of rows. -/
theorem flatten_get {w : World} {b n : Nat} : ∀ {css : List (List Value)} {o j : Nat} {c : List Value}, w.rangeAt b o css.flatten → (∀ x ∈ css, x.length = n) → css[j]? = some c → w.rangeAt b (o + j * n) c
  | [], o, j, c, _, _, hj => by simp at hj
  | x :: css, o, 0, c, h, hn, hj => by
    simp at hj; subst hj
    rw [List.flatten_cons, rangeAt_append] at h
    simpa using h.1
  | x :: css, o, j + 1, c, h, hn, hj => by
    rw [List.flatten_cons, rangeAt_append] at h
    have := flatten_get (j := j) h.2 (fun y hy => hn y (by simp [hy])) (by simpa using hj)
    rw [hn x (by simp)] at this
    rwa [show o + n + j * n = o + (j + 1) * n by rw [Nat.succ_mul]; omega] at this

theorem RepTs.len5 {w : World} {G : Nat → Prop} : ∀ {l : List Tr} {css : List (List Value)}, RepTs w G l css → ∀ x ∈ css, x.length = 5
  | [], _, h, x, hx => by simp only [RepTs] at h; subst h; simp at hx
  | t :: l, _, ⟨c, r, h1, h2, h3⟩, x, hx => by
    subst h1
    rcases List.mem_cons.1 hx with rfl | hx
    · exact h2.len
    · exact RepTs.len5 h3 x hx

/-- What the types of trees are: of the told ones, or of the reference's. -/
structure TreeT (P : Program) (N : Nums) (tt tg lt lg : TypeId) : Prop where
  tree : SF P tt [(0, 1), (1, 1), (2, 1), (3, 1), (4, 1)] 88 [.int .i64 0, .slice none 0 0, .bool false, .slice none 0 0, .slice none 0 0]
  tag : SF P tg [(0, 1), (1, 1)] 32 [.int .u32 0, .slice none 0 0]
  h0 : HF P tt 0 0
  h1 : HF P tt 1 1
  h2 : HF P tt 2 2
  h3 : HF P tt 3 3
  h4 : HF P tt 4 4
  g0 : HF P tg 0 0
  g1 : HF P tg 1 1
  lt : TI P lt (.slice tt) 1 24 (.slice none 0 0)
  lg : TI P lg (.slice tg) 1 24 (.slice none 0 0)
end Go.Kf

/- Trees that are alike are told so: lemmas. -/
namespace Go.Kf
open Go Go.RowKit

section
variable {P : Program} {N : Nums}

theorem run_bneq {t : TypeId} {sz by' : Nat} {z : Value} (h : TI P t .bool sz by' z) {x y : Operand} {a b : Bool} {w : World} :
    (do eqGuard .neq t x y (.bool a) (.bool b); binOp .neq t (.bool a) (.bool b) : Sem Value).run P w = .ok (.bool (a != b)) w := by
  have e : (Op.equal t (.bool a) (.bool b)).run P w = .ok (a == b) w := by
    unfold Op.equal Op.maxDepth
    rw [show (10000 : Nat) = 9999 + 1 from rfl]
    unfold Op.equalIn
    rw [Sem.run_bind, run_underlying h.und, Result.andThen_ok]
    rfl
  have e1 : (eqGuard .neq t x y (.bool a) (.bool b)).run P w = .ok () w := rfl
  rw [Sem.run_bind, e1, Result.andThen_ok]
  show ((do pure (.bool (!(← Op.equal t (.bool a) (.bool b)))) : Sem Value)).run P w = _
  rw [Sem.run_bind, e, Result.andThen_ok]
  rfl

def smallT : Tr → Prop
  | .mk _ s _ l u => s.length < 4611686018427387904 ∧ l.length < 4611686018427387904 ∧ u.length < 4611686018427387904 ∧ ∀ x ∈ u, x.2.length < 4611686018427387904

def ST (P : Program) (N : Nums) (t : Tr) : Prop := ∀ (w : World) (G G' : Nat → Prop) (c1 c2 : List Value), RepT w G t c1 → RepT w G' t c2 → Call P N.f_spec_SameTree #[.agg c1.toArray, .agg c2.toArray] w fun v w' => v = .bool true ∧ Mod w w' none'

theorem len_of {t : TypeId} {e : TypeId} {a b : Nat} {z : Value} (h : TI P t (.slice e) a b z) {ty : TypeId} {w : World} {v : Value} {n : Nat} (hv : (v = .slice none 0 0 ∧ n = 0) ∨ ∃ b c, v = .slice (some ⟨b, 0, none⟩) n c) : (Builtin.len_ #[t] ty #[v]).run P w = .ok (.int .i64 n) w := by
  rcases hv with ⟨rfl, rfl⟩ | ⟨b, c, rfl⟩
  · exact h.run_len
  · exact h.run_len

theorem same_tail (B : Base P N) (hT : TreeT P N N.t_spec_Tree N.t_spec_Tag N.t_Lspec_Tree N.t_Lspec_Tag) {σ : Env} {w3 : World} {bA bB nl nu : Nat} {l1 l2 u1 u2 : Value} (f2 : σ 2 = .pointer (some ⟨bA, 0, none⟩)) (f3 : σ 3 = .pointer (some ⟨bB, 0, none⟩))
    (x3 : w3.cell? ⟨bA, 3, none⟩ = some l1) (x4 : w3.cell? ⟨bA, 4, none⟩ = some u1) (y3 : w3.cell? ⟨bB, 3, none⟩ = some l2) (y4 : w3.cell? ⟨bB, 4, none⟩ = some u2)
    (hl1 : (l1 = .slice none 0 0 ∧ nl = 0) ∨ ∃ b c, l1 = .slice (some ⟨b, 0, none⟩) nl c) (hl2 : (l2 = .slice none 0 0 ∧ nl = 0) ∨ ∃ b c, l2 = .slice (some ⟨b, 0, none⟩) nl c)
    (hu1 : (u1 = .slice none 0 0 ∧ nu = 0) ∨ ∃ b c, u1 = .slice (some ⟨b, 0, none⟩) nu c) (hu2 : (u2 = .slice none 0 0 ∧ nu = 0) ∨ ∃ b c, u2 = .slice (some ⟨b, 0, none⟩) nu c)
    {ρ : Env} (hρ : ∀ i, ρ (i + 100) = σ i) (h12 : ρ 12 = .bool false) (h17 : ρ 17 = .bool true) {K : Env → World → Prop} (hK : ∀ σ' : Env, σ' 2 = .pointer (some ⟨bA, 0, none⟩) → σ' 3 = .pointer (some ⟨bB, 0, none⟩) → σ' 5 = .bool false → K σ' w3) :
    runR P [
      ⟨(some 18), .unOp .not N.t_bool (T 17), 0, (some (some 12, false)), []⟩,
      ⟨(some 19), .pick (T 12) (.const (.bool true)) (T 18), 0, none, []⟩,
      ⟨(some 20), .move (T 19), 0, none, []⟩,
      ⟨(some 21), .fieldAddr N.t_spec_Tree (V 2) 3, 0, (some (some 20, false)), []⟩,
      ⟨(some 22), .load N.t_Lspec_Tree (T 21), 0, (some (some 20, false)), []⟩,
      ⟨(some 23), .call ⟨(.builtin .len), #[(T 22)], #[N.t_Lspec_Tree]⟩, N.t_int, (some (some 20, false)), []⟩,
      ⟨(some 24), .fieldAddr N.t_spec_Tree (V 3) 3, 0, (some (some 20, false)), []⟩,
      ⟨(some 25), .load N.t_Lspec_Tree (T 24), 0, (some (some 20, false)), []⟩,
      ⟨(some 26), .call ⟨(.builtin .len), #[(T 25)], #[N.t_Lspec_Tree]⟩, N.t_int, (some (some 20, false)), []⟩,
      ⟨(some 27), .binOp .neq N.t_int (T 23) (T 26) N.t_int, 0, (some (some 20, false)), []⟩,
      ⟨(some 28), .pick (T 20) (.const (.bool true)) (T 27), 0, none, []⟩,
      ⟨(some 29), .move (T 28), 0, none, []⟩,
      ⟨(some 30), .fieldAddr N.t_spec_Tree (V 2) 4, 0, (some (some 29, false)), []⟩,
      ⟨(some 31), .load N.t_Lspec_Tag (T 30), 0, (some (some 29, false)), []⟩,
      ⟨(some 32), .call ⟨(.builtin .len), #[(T 31)], #[N.t_Lspec_Tag]⟩, N.t_int, (some (some 29, false)), []⟩,
      ⟨(some 33), .fieldAddr N.t_spec_Tree (V 3) 4, 0, (some (some 29, false)), []⟩,
      ⟨(some 34), .load N.t_Lspec_Tag (T 33), 0, (some (some 29, false)), []⟩,
      ⟨(some 35), .call ⟨(.builtin .len), #[(T 34)], #[N.t_Lspec_Tag]⟩, N.t_int, (some (some 29, false)), []⟩,
      ⟨(some 36), .binOp .neq N.t_int (T 32) (T 35) N.t_int, 0, (some (some 29, false)), []⟩,
      ⟨(some (5 + 100)), .pick (T 29) (.const (.bool true)) (T 36), 0, none, []⟩] ρ w3 fun ρ w => K (locs ρ) w := by
  have r2 : ρ 102 = .pointer (some ⟨bA, 0, none⟩) := by rw [← f2]; exact hρ 2
  have r3 : ρ 103 = .pointer (some ⟨bB, 0, none⟩) := by rw [← f3]; exact hρ 3
  simp (decide := true) only [runR, step_move, step_load, step_binOp, step_unOp, step_fieldAddr, step_len, run_ineq, run_not, run_pick, stepV_ok, ev_tmp, ev_const, put_at, sel_true, sel_false, Nat.reduceBeqDiff, BEq.rfl, ldc_some, Nat.reduceAdd, Nat.zero_add, if_false, r2, r3, h12, h17, hT.h3.run, hT.h4.run, hT.lt.run_load1 rfl, hT.lg.run_load1 rfl, x3, x4, y3, y4, len_of hT.lt hl1, len_of hT.lt hl2, len_of hT.lg hu1, len_of hT.lg hu2, step_guard_yes, step_pick, bne_self_eq_false, Bool.not_true]
  refine hK _ ?_ ?_ ?_
  · simp (decide := true) only [put_at, locs_def, sel_false, Nat.reduceBeqDiff, Nat.reduceAdd, r2]
  · simp (decide := true) only [put_at, locs_def, sel_false, Nat.reduceBeqDiff, Nat.reduceAdd, r3]
  · simp (decide := true) only [put_at, locs_def, sel_true, BEq.rfl, Nat.reduceAdd]

theorem runR_append {P : Program} {K : Env → World → Prop} : ∀ (a b : List ROp) (ρ : Env) (w : World), runR P a ρ w (fun ρ w => runR P b ρ w K) → runR P (a ++ b) ρ w K
  | [], _, _, _, h => h
  | o :: a, b, ρ, w, h => by
    show stepR P o ρ w fun ρ w => runR P (a ++ b) ρ w K
    exact stepR_mono (fun ρ w hk => runR_append a b ρ w hk) h

theorem same_head (B : Base P N) (F : Fns P N) (hS : N.f_spec_Same ≠ 0) (hT : TreeT P N N.t_spec_Tree N.t_spec_Tag N.t_Lspec_Tree N.t_Lspec_Tag) {σ : Env} {w2 : World} {bA bB : Nat} {n : Int} {nl : Bool} {s1 s2 : Value} {s : List UInt8} {G G' : Nat → Prop} (f2 : σ 2 = .pointer (some ⟨bA, 0, none⟩)) (f3 : σ 3 = .pointer (some ⟨bB, 0, none⟩))
    (x0 : w2.cell? ⟨bA, 0, none⟩ = some (.int .i64 n)) (x1 : w2.cell? ⟨bA, 1, none⟩ = some s1) (x2 : w2.cell? ⟨bA, 2, none⟩ = some (.bool nl)) (y0 : w2.cell? ⟨bB, 0, none⟩ = some (.int .i64 n)) (y1 : w2.cell? ⟨bB, 1, none⟩ = some s2) (y2 : w2.cell? ⟨bB, 2, none⟩ = some (.bool nl))
    (a1 : tagV w2 G s1 s) (b1 : tagV w2 G' s2 s) (hs : s.length < 4611686018427387904) {τ : Env} {K : Env → World → Prop} (hK : ∀ (ρ : Env) (w3 : World), Mod w2 w3 none' → (∀ i, ρ (i + 100) = σ i) → ρ 12 = .bool false → ρ 17 = .bool true → K ρ w3) :
    runR P [
      ⟨(some 0), .fieldAddr N.t_spec_Tree (V 2) 0, 0, none, []⟩,
      ⟨(some 1), .load N.t_int64 (T 0), 0, none, []⟩,
      ⟨(some 2), .fieldAddr N.t_spec_Tree (V 3) 0, 0, none, []⟩,
      ⟨(some 3), .load N.t_int64 (T 2), 0, none, []⟩,
      ⟨(some 4), .binOp .neq N.t_int64 (T 1) (T 3) N.t_int64, 0, none, []⟩,
      ⟨(some 5), .move (T 4), 0, none, []⟩,
      ⟨(some 6), .fieldAddr N.t_spec_Tree (V 2) 2, 0, (some (some 5, false)), []⟩,
      ⟨(some 7), .load N.t_bool (T 6), 0, (some (some 5, false)), []⟩,
      ⟨(some 8), .fieldAddr N.t_spec_Tree (V 3) 2, 0, (some (some 5, false)), []⟩,
      ⟨(some 9), .load N.t_bool (T 8), 0, (some (some 5, false)), []⟩,
      ⟨(some 10), .binOp .neq N.t_bool (T 7) (T 9) N.t_bool, 0, (some (some 5, false)), []⟩,
      ⟨(some 11), .pick (T 5) (.const (.bool true)) (T 10), 0, none, []⟩,
      ⟨(some 12), .move (T 11), 0, none, []⟩,
      ⟨(some 13), .fieldAddr N.t_spec_Tree (V 2) 1, 0, (some (some 12, false)), []⟩,
      ⟨(some 14), .load N.t_Luint8 (T 13), 0, (some (some 12, false)), []⟩,
      ⟨(some 15), .fieldAddr N.t_spec_Tree (V 3) 1, 0, (some (some 12, false)), []⟩,
      ⟨(some 16), .load N.t_Luint8 (T 15), 0, (some (some 12, false)), []⟩,
      ⟨(some 17), .call ⟨(.value (.func N.f_spec_Same)), #[(T 14), (T 16)], #[N.t_Luint8, N.t_Luint8]⟩, N.t_bool, (some (some 12, false)), []⟩] (envOf σ τ) w2 K := by
  simp (decide := true) only [runR, step_move, step_load, step_binOp, step_fieldAddr, run_ineq, run_pick, stepV_ok, ev_tmp, ev_const, put_at, envOf_var, sel_true, sel_false, Nat.reduceBeqDiff, BEq.rfl, ldc_some, Nat.reduceAdd, Nat.add_zero, Nat.zero_add, if_false, f2, f3, hT.h0.run, hT.h1.run, hT.h2.run, B.int64.run_load1 rfl, B.bool.run_load1 rfl, B.Lu8.run_load1 rfl, x0, x1, x2, y0, y1, y2, step_guard_yes, run_bneq B.bool, step_pick, bne_self_eq_false]
  rw [step_call2 (F.spec_Same hS).has]
  simp (decide := true) only [ev_tmp, put_at, sel_true, sel_false, Nat.reduceBeqDiff, BEq.rfl]
  refine (call_Same B F hS a1 b1 hs).mono ?_
  rintro v w3 ⟨rfl, m3⟩
  refine hK _ w3 m3 (fun i => ?_) ?_ ?_
  · simp (decide := true) only [put_at, envOf_var, sel_false, Nat.reduceBeqDiff]
  · simp (decide := true) only [put_at, sel_true, sel_false, Nat.reduceBeqDiff, BEq.rfl]
  · simp (decide := true) only [put_at, sel_true, BEq.rfl]

end
end Go.Kf

/- Trees that are alike are told so: the tags. -/
namespace Go.Kf
open Go Go.RowKit

section
variable {P : Program} {N : Nums}

theorem UsG.get {w : World} {G : Nat → Prop} : ∀ {u : List (Nat × List UInt8)} {cs : List Value} {j : Nat} {x : Nat × List UInt8}, UsG w G u cs → u[j]? = some x → ∃ v, cs[j * 2]? = some (.int .u32 x.1) ∧ cs[j * 2 + 1]? = some v ∧ tagV w G v x.2
  | [], _, j, x, _, hj => by simp at hj
  | (k, l) :: u, _, 0, x, ⟨v, rest, h1, h2, h3⟩, hj => by
    subst h1
    simp at hj; subst hj
    exact ⟨v, rfl, rfl, h2⟩
  | (k, l) :: u, _, j + 1, x, ⟨v, rest, h1, h2, h3⟩, hj => by
    subst h1
    obtain ⟨v', g1, g2, g3⟩ := UsG.get h3 (by simpa using hj)
    refine ⟨v', ?_, ?_, g3⟩
    · rw [show (j + 1) * 2 = j * 2 + 1 + 1 by omega]; simpa using g1
    · rw [show (j + 1) * 2 + 1 = j * 2 + 1 + 1 + 1 by omega]; simpa using g2

theorem W_sameTag (B : Base P N) (F : Fns P N) (hS : N.f_spec_Same ≠ 0) (hT : TreeT P N N.t_spec_Tree N.t_spec_Tag N.t_Lspec_Tree N.t_Lspec_Tag) {loc : List Nat} {N' : Nat} {Q : Exit → Env → World → Prop} {σ : Env} {w : World} {bA bB b1 b2 c1 c2 nu j k : Nat} {v1 v2 : Value} {s : List UInt8} {G G' : Nat → Prop}
    (f2 : σ 2 = .pointer (some ⟨bA, 0, none⟩)) (f3 : σ 3 = .pointer (some ⟨bB, 0, none⟩)) (f14 : σ 14 = .int .i64 j) (hj : j < nu)
    (x4 : w.drew.cell? ⟨bA, 4, none⟩ = some (.slice (some ⟨b1, 0, none⟩) nu c1)) (y4 : w.drew.cell? ⟨bB, 4, none⟩ = some (.slice (some ⟨b2, 0, none⟩) nu c2))
    (k1 : w.drew.cell? ⟨b1, j * 2, none⟩ = some (.int .u32 k)) (k2 : w.drew.cell? ⟨b2, j * 2, none⟩ = some (.int .u32 k)) (e1 : w.drew.cell? ⟨b1, j * 2 + 1, none⟩ = some v1) (e2 : w.drew.cell? ⟨b2, j * 2 + 1, none⟩ = some v2)
    (a1 : tagV w.drew G v1 s) (a2 : tagV w.drew G' v2 s) (hs : s.length < 4611686018427387904)
    (hQ : ∀ (σ' : Env) (w' : World), Mod w.drew w' none' → (∀ i, i ≠ 15 → σ' i = σ i) → σ' 15 = .bool false → Q .normal σ' w') : W P loc N' (.draw [
      ⟨(some 0), .fieldAddr N.t_spec_Tree (V 2) 4, 0, none, []⟩,
      ⟨(some 1), .load N.t_Lspec_Tag (T 0), 0, none, [0]⟩,
      ⟨(some 2), .move (V 14), 0, none, []⟩,
      ⟨(some 3), .indexAddr N.t_Lspec_Tag (T 1) (T 2), 0, none, [1, 2]⟩,
      ⟨(some 4), .fieldAddr N.t_spec_Tag (T 3) 0, 0, none, [3]⟩,
      ⟨(some 5), .load N.t_uint32 (T 4), 0, none, [4]⟩,
      ⟨(some 6), .fieldAddr N.t_spec_Tree (V 3) 4, 0, none, []⟩,
      ⟨(some 7), .load N.t_Lspec_Tag (T 6), 0, none, [6]⟩,
      ⟨(some 8), .move (V 14), 0, none, []⟩,
      ⟨(some 9), .indexAddr N.t_Lspec_Tag (T 7) (T 8), 0, none, [7, 8]⟩,
      ⟨(some 10), .fieldAddr N.t_spec_Tag (T 9) 0, 0, none, [9]⟩,
      ⟨(some 11), .load N.t_uint32 (T 10), 0, none, [10]⟩,
      ⟨(some 12), .binOp .neq N.t_uint32 (T 5) (T 11) N.t_uint32, 0, none, [5, 11]⟩,
      ⟨(some 13), .move (T 12), 0, none, [12]⟩,
      ⟨(some 14), .fieldAddr N.t_spec_Tree (V 2) 4, 0, (some (some 13, false)), [13]⟩,
      ⟨(some 15), .load N.t_Lspec_Tag (T 14), 0, (some (some 13, false)), [14, 13]⟩,
      ⟨(some 16), .move (V 14), 0, (some (some 13, false)), [13]⟩,
      ⟨(some 17), .indexAddr N.t_Lspec_Tag (T 15) (T 16), 0, (some (some 13, false)), [15, 16, 13]⟩,
      ⟨(some 18), .fieldAddr N.t_spec_Tag (T 17) 1, 0, (some (some 13, false)), [17, 13]⟩,
      ⟨(some 19), .load N.t_Luint8 (T 18), 0, (some (some 13, false)), [18, 13]⟩,
      ⟨(some 20), .fieldAddr N.t_spec_Tree (V 3) 4, 0, (some (some 13, false)), [13]⟩,
      ⟨(some 21), .load N.t_Lspec_Tag (T 20), 0, (some (some 13, false)), [20, 13]⟩,
      ⟨(some 22), .move (V 14), 0, (some (some 13, false)), [13]⟩,
      ⟨(some 23), .indexAddr N.t_Lspec_Tag (T 21) (T 22), 0, (some (some 13, false)), [21, 22, 13]⟩,
      ⟨(some 24), .fieldAddr N.t_spec_Tag (T 23) 1, 0, (some (some 13, false)), [23, 13]⟩,
      ⟨(some 25), .load N.t_Luint8 (T 24), 0, (some (some 13, false)), [24, 13]⟩,
      ⟨(some 26), .call ⟨(.value (.func N.f_spec_Same)), #[(T 19), (T 25)], #[N.t_Luint8, N.t_Luint8]⟩, N.t_bool, (some (some 13, false)), [19, 25, 13, 13]⟩,
      ⟨(some 27), .unOp .not N.t_bool (T 26), 0, (some (some 13, false)), [26, 13]⟩,
      ⟨(some (15 + 100)), .pick (T 13) (.const (.bool true)) (T 27), 0, none, [13, 27]⟩]) Q σ w := by
  obtain ⟨fs, ht0, _⟩ := hT.tag.out
  have ht : TI P N.t_spec_Tag (.struct fs) 2 32 (.agg [.int .u32 0, .slice none 0 0].toArray) := ht0
  have ix1 := fun w => run_indexAt (w := w) hT.lg ht (bl := b1) (o := 0) (n := nu) (c := c1) (i := j) (k := .i64) hj
  have ix2 := fun w => run_indexAt (w := w) hT.lg ht (bl := b2) (o := 0) (n := nu) (c := c2) (i := j) (k := .i64) hj
  simp only [Nat.zero_add] at ix1 ix2
  refine W_drawK B.mixed 26 (by kernel_rfl) fun τ => ?_
  simp (decide := true) only [runR, stillL, step_move, step_load, step_binOp, step_fieldAddr, step_indexAddr, run_ineq, stepV_ok, ev_tmp, put_at, envOf_var, sel_true, sel_false, Nat.reduceBeqDiff, BEq.rfl, ldc_some, Nat.reduceAdd, Nat.add_zero, Nat.zero_add, List.take_succ_cons, List.take_zero, List.drop_succ_cons, List.drop_zero, true_and, f2, f3, f14, hT.h4.run, hT.g0.run, hT.g1.run, hT.lg.run_load1 rfl, B.uint32.run_load1 rfl, B.Lu8.run_load1 rfl, x4, y4, ix1, ix2, k1, k2, e1, e2, step_guard_yes, bne_self_eq_false]
  rw [step_call2 (F.spec_Same hS).has]
  simp (decide := true) only [ev_tmp, put_at, sel_true, sel_false, Nat.reduceBeqDiff, BEq.rfl]
  refine (call_Same B F hS a1 a2 hs).mono ?_
  rintro v w3 ⟨rfl, m3⟩
  simp (decide := true) only [step_unOp, run_not, run_pick, stepV_ok, ev_tmp, ev_const, put_at, sel_true, sel_false, Nat.reduceBeqDiff, BEq.rfl, if_false, step_guard_yes, step_pick, Bool.not_true]
  refine gen_locs (K := fun σ' w' => Q .normal σ' w') fun σ4 hσ => hQ _ _ m3 (fun i hi => ?_) ?_
  · have := hσ i
    rw [this, put_at, show (i + 100 == 15 + 100) = false from by simpa using hi]
    simp (decide := true) only [put_at, envOf_var, sel_false, Nat.reduceBeqDiff]
  · have := hσ 15
    simp (decide := true) only [put_at, sel_true, BEq.rfl, Nat.reduceAdd] at this
    exact this
end
end Go.Kf

/- Trees that are alike are told so. -/
namespace Go.Kf
open Go Go.RowKit

section
variable {P : Program} {N : Nums}

theorem same_step (B : Base P N) (F : Fns P N) (hN : N.f_spec_SameTree ≠ 0) (hT : TreeT P N N.t_spec_Tree N.t_spec_Tag N.t_Lspec_Tree N.t_Lspec_Tag) {n : Int} {s : List UInt8} {nl : Bool} {l : List Tr} {u : List (Nat × List UInt8)}
    (hsm : smallT (.mk n s nl l u)) (ih : ∀ x ∈ l, ST P N x) : ST P N (.mk n s nl l u) := by
  intro w G G' c1 c2 h1 h2
  have hF := F.spec_SameTree hN
  obtain ⟨hs, hl, hu, huv⟩ := hsm
  refine hF.1.call rfl fun loc N' hlo => ?_
  unfold c_spec_SameTree
  simp only [RepT] at h1 h2
  obtain ⟨s1, l1, u1, rfl, a1, a2, a3⟩ := h1
  obtain ⟨s2, l2, u2, rfl, b1, b2, b3⟩ := h2
  refine W_seq' fun K hK => W_ops fun τ => ?_
  simp (decide := true) only [runR, step_assign, step_box, run_box, stepV_ok, ev_tmp, ev_const, put_at, envOf_var, sel_false, Nat.reduceBeqDiff, Nat.reduceAdd, Nat.zero_add, argEnv2_0, argEnv2_1]
  obtain ⟨w1, hw1⟩ : ∃ w1, w1 = w.alloc (.cells (Value.cells (.agg [.int .i64 n, s1, .bool nl, l1, u1].toArray)) N.t_spec_Tree) := ⟨_, rfl⟩
  have m1 : Mod w w1 none' := by rw [hw1]; exact Mod.alloc _ _ _
  have r1 : w1.rangeAt w.heap.size 0 [.int .i64 n, s1, .bool nl, l1, u1] := by rw [hw1]; exact rangeAt_alloc w _ _ _
  rw [← hw1]
  clear hw1
  obtain ⟨w2, hw2⟩ : ∃ w2, w2 = w1.alloc (.cells (Value.cells (.agg [.int .i64 n, s2, .bool nl, l2, u2].toArray)) N.t_spec_Tree) := ⟨_, rfl⟩
  have m2 : Mod w1 w2 none' := by rw [hw2]; exact Mod.alloc _ _ _
  have r2 : w2.rangeAt w1.heap.size 0 [.int .i64 n, s2, .bool nl, l2, u2] := by rw [hw2]; exact rangeAt_alloc w1 _ _ _
  rw [← hw2]
  clear hw2
  have m02 : Mod w w2 none' := m1.trans' m2
  have r1' := rangeAt_stay m2 r1
  obtain ⟨bA, hbA⟩ : ∃ b, b = w.heap.size := ⟨_, rfl⟩
  obtain ⟨bB, hbB⟩ : ∃ b, b = w1.heap.size := ⟨_, rfl⟩
  rw [← hbA] at r1' ⊢
  rw [← hbB] at r2 ⊢
  refine hK _ _ (gen_locs fun σ hσ => ?_)
  have f2 := hσ 2
  have f3 := hσ 3
  simp (decide := true) only [put_at, sel_true, sel_false, Nat.reduceBeqDiff, BEq.rfl, Nat.reduceAdd] at f2 f3
  clear hσ hK K r1 m1 m2
  have cells : ∀ {w' : World}, Mod w2 w' none' → (w'.cell? ⟨bA, 0, none⟩ = some (.int .i64 n) ∧ w'.cell? ⟨bA, 1, none⟩ = some s1 ∧ w'.cell? ⟨bA, 2, none⟩ = some (.bool nl) ∧ w'.cell? ⟨bA, 3, none⟩ = some l1 ∧ w'.cell? ⟨bA, 4, none⟩ = some u1) ∧
      (w'.cell? ⟨bB, 0, none⟩ = some (.int .i64 n) ∧ w'.cell? ⟨bB, 1, none⟩ = some s2 ∧ w'.cell? ⟨bB, 2, none⟩ = some (.bool nl) ∧ w'.cell? ⟨bB, 3, none⟩ = some l2 ∧ w'.cell? ⟨bB, 4, none⟩ = some u2) := by
    intro w' hm
    have q1 := rangeAt_stay hm r1'
    have q2 := rangeAt_stay hm r2
    exact ⟨⟨q1 0 _ rfl, q1 1 _ rfl, q1 2 _ rfl, q1 3 _ rfl, q1 4 _ rfl⟩, ⟨q2 0 _ rfl, q2 1 _ rfl, q2 2 _ rfl, q2 3 _ rfl, q2 4 _ rfl⟩⟩
  obtain ⟨⟨x0, x1, x2, x3, x4⟩, ⟨y0, y1, y2, y3, y4⟩⟩ := cells (.refl w2 _)
  refine W_seq' fun K hK => W_seq' fun K1 hK1 => W_ops fun τ => runR_append [_, _, _, _, _, _, _, _, _, _, _, _, _, _, _, _, _, _] _ _ _ (same_head B F hF.2 hT f2 f3 x0 x1 x2 y0 y1 y2 (a1.stay m02) (b1.stay m02) hs fun ρ w3 m3 hρ h12 h17 => ?_)
  obtain ⟨⟨x0, x1, x2, x3, x4⟩, ⟨y0, y1, y2, y3, y4⟩⟩ := cells m3
  have hl1 : (l1 = .slice none 0 0 ∧ l.length = 0) ∨ ∃ b c, l1 = .slice (some ⟨b, 0, none⟩) l.length c := a2.imp (fun h => ⟨h.1, by rw [h.2]; rfl⟩) fun ⟨b, c, _, h, _⟩ => ⟨b, c, h⟩
  have hl2 : (l2 = .slice none 0 0 ∧ l.length = 0) ∨ ∃ b c, l2 = .slice (some ⟨b, 0, none⟩) l.length c := b2.imp (fun h => ⟨h.1, by rw [h.2]; rfl⟩) fun ⟨b, c, _, h, _⟩ => ⟨b, c, h⟩
  have hu1 : (u1 = .slice none 0 0 ∧ u.length = 0) ∨ ∃ b c, u1 = .slice (some ⟨b, 0, none⟩) u.length c := a3.imp (fun h => ⟨h.1, by rw [h.2]; rfl⟩) fun ⟨b, c, _, h, _⟩ => ⟨b, c, h⟩
  have hu2 : (u2 = .slice none 0 0 ∧ u.length = 0) ∨ ∃ b c, u2 = .slice (some ⟨b, 0, none⟩) u.length c := b3.imp (fun h => ⟨h.1, by rw [h.2]; rfl⟩) fun ⟨b, c, _, h, _⟩ => ⟨b, c, h⟩
  refine same_tail B hT f2 f3 x3 x4 y3 y4 hl1 hl2 hu1 hu2 hρ h12 h17 (K := K1) fun σ1 g2 g3 g5 => hK1 _ _ ?_
  clear hK1 K1
  refine W_if hlo g5 ?_
  rw [if_neg (by simp)]
  refine W_skip (hK _ _ ?_)
  clear hK K g5
  have m23 : Mod w2 w3 none' := m3
  -- the lists
  refine W_seq' fun K hK => W_seq' fun K1 hK1 => W_ops fun τ => ?_
  simp (decide := true) only [runR, step_move, step_load, step_fieldAddr, step_len, stepV_ok, ev_tmp, ev_const, put_at, envOf_var, sel_true, BEq.rfl, ldc_some, Nat.reduceAdd, Nat.zero_add, g2, hT.h3.run, hT.lt.run_load1 rfl, x3, len_of hT.lt hl1]
  refine hK1 _ _ (gen_locs fun σ2 hσ => ?_)
  have p2 := hσ 2
  have p3 := hσ 3
  have p6 := hσ 6
  have p7 := hσ 7
  simp (decide := true) only [put_at, envOf_var, sel_true, sel_false, Nat.reduceBeqDiff, BEq.rfl, Nat.reduceAdd, g2, g3] at p2 p3 p6 p7
  clear hσ hK1 K1
  refine W_cRange (i := 7) (l := 6) (c := 8) (k := 0) hlo hl (fun j σ w' => σ 2 = .pointer (some ⟨bA, 0, none⟩) ∧ σ 3 = .pointer (some ⟨bB, 0, none⟩) ∧ σ 6 = .int .i64 l.length ∧ σ 7 = .int .i64 j ∧ j ≤ l.length ∧ Mod w2 w' none') (fun j σ w h => ⟨h.2.2.2.1, h.2.2.1, h.2.2.2.2.1⟩) (fun j σ w b h => ?_) ⟨p2, p3, p6, p7, Nat.zero_le _, m3⟩ (fun σ' w' h => hK _ _ ?_) (fun j σ' w' hj h => ?_)
  · obtain ⟨a, b, c, d, e, f⟩ := h
    exact ⟨by rw [upd_ne (by decide)]; exact a, by rw [upd_ne (by decide)]; exact b, by rw [upd_ne (by decide)]; exact c, by rw [upd_ne (by decide)]; exact d, e, f⟩
  · obtain ⟨c2', c3', _, _, _, m5⟩ := h
    obtain ⟨⟨z0, z1, z2, z3, z4⟩, ⟨t0, t1, t2, t3, t4⟩⟩ := cells m5
    refine W_seq' fun K2 hK2 => W_seq' fun K3 hK3 => W_ops fun τ => ?_
    simp (decide := true) only [runR, step_move, step_load, step_fieldAddr, step_len, stepV_ok, ev_tmp, ev_const, put_at, envOf_var, sel_true, BEq.rfl, ldc_some, Nat.reduceAdd, Nat.zero_add, c2', hT.h4.run, hT.lg.run_load1 rfl, z4, len_of hT.lg hu1]
    refine hK3 _ _ (gen_locs fun σ5 hσ => ?_)
    have d2 := hσ 2
    have d3 := hσ 3
    have d11 := hσ 11
    have d12 := hσ 12
    simp (decide := true) only [put_at, envOf_var, sel_true, sel_false, Nat.reduceBeqDiff, BEq.rfl, Nat.reduceAdd, c2', c3'] at d2 d3 d11 d12
    clear hσ hK3 K3
    refine W_cRange (i := 12) (l := 11) (c := 13) (k := 2) hlo hu (fun j σ w' => σ 2 = .pointer (some ⟨bA, 0, none⟩) ∧ σ 3 = .pointer (some ⟨bB, 0, none⟩) ∧ σ 11 = .int .i64 u.length ∧ σ 12 = .int .i64 j ∧ j ≤ u.length ∧ Mod w2 w' none') (fun j σ w h => ⟨h.2.2.2.1, h.2.2.1, h.2.2.2.2.1⟩) (fun j σ w b h => ?_) ⟨d2, d3, d11, d12, Nat.zero_le _, m5⟩ (fun σ' w' h => hK2 _ _ ?_) (fun j σ' w' hj h => ?_)
    · obtain ⟨a, b, c, d, e, f⟩ := h
      exact ⟨by rw [upd_ne (by decide)]; exact a, by rw [upd_ne (by decide)]; exact b, by rw [upd_ne (by decide)]; exact c, by rw [upd_ne (by decide)]; exact d, e, f⟩
    · exact W_seq' fun K4 hK4 => W_const (hK4 _ _ (W_ret ⟨.inr rfl, _, rfl, upd_same _ _ _, m02.trans' h.2.2.2.2.2⟩))
    · obtain ⟨a, b, c, d, e, f⟩ := h
      refine W_seq' fun K4 hK4 => W_ops fun τ => ?_
      simp (decide := true) only [runR, step_move, step_assign, ev_tmp, put_at, envOf_var, sel_true, BEq.rfl, Nat.reduceAdd, d]
      refine hK4 _ _ (gen_locs fun σ3 hσ => ?_)
      have q2 := hσ 2
      have q3 := hσ 3
      have q11 := hσ 11
      have q12 := hσ 12
      have q14 := hσ 14
      simp (decide := true) only [put_at, envOf_var, sel_true, sel_false, Nat.reduceBeqDiff, BEq.rfl, Nat.reduceAdd, a, b, c, d] at q2 q3 q11 q12 q14
      clear hσ hK4 K4
      have md : Mod w2 w'.drew none' := f.trans' (Mod.drew _ _)
      obtain ⟨⟨_, _, _, _, z4⟩, ⟨_, _, _, _, t4⟩⟩ := cells md
      have hmw : Mod w w'.drew none' := m02.trans' md
      have hx : u[j]? = some u[j] := List.getElem?_eq_getElem hj
      have elem : ∀ {G : Nat → Prop} {uv : Value}, RepU w G uv u → ∃ bb cc v, uv = .slice (some ⟨bb, 0, none⟩) u.length cc ∧ w'.drew.cell? ⟨bb, j * 2, none⟩ = some (.int .u32 (u[j]).1) ∧ w'.drew.cell? ⟨bb, j * 2 + 1, none⟩ = some v ∧ tagV w'.drew G v (u[j]).2 := by
        intro G uv h
        rcases h with ⟨_, h⟩ | ⟨bb, cc, cs, h1, _, _, h4, h5⟩
        · rw [h] at hj; simp at hj
        · obtain ⟨v, g1, g2, g3⟩ := h4.get hx
          have r5 := rangeAt_stay hmw h5
          have k1 := r5 _ _ g1
          have k2 := r5 _ _ g2
          rw [Nat.zero_add] at k1 k2
          exact ⟨bb, cc, v, h1, k1, k2, g3.stay hmw⟩
      obtain ⟨bb1, cc1, v1, e1, k1, n1, g1⟩ := elem a3
      obtain ⟨bb2, cc2, v2, e2, k2, n2, g2⟩ := elem b3
      rw [e1] at z4
      rw [e2] at t4
      refine W_seq' fun K4 hK4 => W_sameTag B F hF.2 hT q2 q3 q14 hj z4 t4 k1 k2 n1 n2 g1 g2 (huv _ (List.getElem_mem hj)) fun σ4 w4 m4 hag h15 => hK4 _ _ (W_if hlo h15 ?_)
      rw [if_neg (by simp)]
      refine W_skip ⟨by rw [hag _ (by decide)]; exact q12, ?_⟩
      exact ⟨by rw [upd_ne (by decide), hag _ (by decide)]; exact q2, by rw [upd_ne (by decide), hag _ (by decide)]; exact q3, by rw [upd_ne (by decide), hag _ (by decide)]; exact q11, upd_same _ _ _, by omega, md.trans' m4⟩
  · obtain ⟨a, b, c, d, e, f⟩ := h
    refine W_seq' fun K2 hK2 => W_ops fun τ => ?_
    simp (decide := true) only [runR, step_move, step_assign, ev_tmp, put_at, envOf_var, sel_true, BEq.rfl, Nat.reduceAdd, d]
    refine hK2 _ _ (gen_locs fun σ3 hσ => ?_)
    have q2 := hσ 2
    have q3 := hσ 3
    have q6 := hσ 6
    have q7 := hσ 7
    have q9 := hσ 9
    simp (decide := true) only [put_at, envOf_var, sel_true, sel_false, Nat.reduceBeqDiff, BEq.rfl, Nat.reduceAdd, a, b, c, d] at q2 q3 q6 q7 q9
    clear hσ hK2 K2
    have md : Mod w2 w'.drew none' := f.trans' (Mod.drew _ _)
    obtain ⟨⟨z0, z1, z2, z3, z4⟩, ⟨t0, t1, t2, t3, t4⟩⟩ := cells md
    have hx : l[j]? = some l[j] := List.getElem?_eq_getElem hj
    have elem : ∀ {G : Nat → Prop} {lv : Value}, ((lv = .slice none 0 0 ∧ l = []) ∨ ∃ b c css, lv = .slice (some ⟨b, 0, none⟩) l.length c ∧ l.length ≤ c ∧ (l ≠ [] → G b) ∧ RepTs w G l css ∧ w.rangeAt b 0 css.flatten) →
        ∃ bb c cs, lv = .slice (some ⟨bb, 0, none⟩) l.length c ∧ RepT w'.drew G l[j] cs ∧ w'.drew.rangeAt bb (0 + j * 5) cs := by
      intro G lv h
      rcases h with ⟨_, h⟩ | ⟨bb, c, css, h1, _, _, h4, h5⟩
      · rw [h] at hj; simp at hj
      · obtain ⟨cs, hc, hr⟩ := h4.get hx
        have hmw : Mod w w'.drew none' := m02.trans' md
        exact ⟨bb, c, cs, h1, RepT.stay hmw _ hr, rangeAt_stay hmw (flatten_get h5 h4.len5 hc)⟩
    obtain ⟨bb1, cc1, cs1, e1, hr1, hg1⟩ := elem a2
    obtain ⟨bb2, cc2, cs2, e2, hr2, hg2⟩ := elem b2
    rw [e1] at z3
    rw [e2] at t3
    obtain ⟨fs, htree0, _⟩ := hT.tree.out
    have htree : TI P N.t_spec_Tree (.struct fs) 5 88 (.agg [.int .i64 0, .slice none 0 0, .bool false, .slice none 0 0, .slice none 0 0].toArray) := htree0
    have ix1 := fun w => run_indexAt (w := w) hT.lt htree (bl := bb1) (o := 0) (n := l.length) (c := cc1) (i := j) (k := .i64) hj
    have ix2 := fun w => run_indexAt (w := w) hT.lt htree (bl := bb2) (o := 0) (n := l.length) (c := cc2) (i := j) (k := .i64) hj
    rw [Nat.zero_add] at hg1 hg2
    simp only [Nat.zero_add] at ix1 ix2
    have ld1 := htree.run_load hg1 hr1.len (fun h => by cases h)
    have ld2 := htree.run_load hg2 hr2.len (fun h => by cases h)
    have lv1 : ∀ cs, ldv (.struct fs) cs = .agg cs.toArray := fun _ => rfl
    rw [lv1] at ld1 ld2
    refine W_seq' fun K2 hK2 => W_drawK B.mixed 10 (by kernel_rfl) fun τ => ?_
    simp (decide := true) (disch := omega) only [runR, stillL, step_move, step_load, step_unOp, step_fieldAddr, step_indexAddr, stepV_ok, ev_tmp, put_at, envOf_var, sel_true, sel_false, Nat.reduceBeqDiff, BEq.rfl, ldc_some, Nat.reduceAdd, Nat.zero_add, List.take_succ_cons, List.take_zero, List.drop_succ_cons, List.drop_zero, true_and, q2, q3, q9, hT.h3.run, hT.lt.run_load1 rfl, z3, t3, ix1, ix2, ld1, ld2]
    rw [step_call2 hF.1.has]
    simp (decide := true) only [ev_tmp, put_at, sel_true, sel_false, Nat.reduceBeqDiff, BEq.rfl]
    refine (ih _ (List.getElem_mem hj) w'.drew G G' cs1 cs2 hr1 hr2).mono ?_
    rintro v w4 ⟨rfl, m4⟩
    simp (decide := true) only [run_not, stepV_ok, Bool.not_true]
    refine hK2 _ _ (gen_locs fun σ4 hσ => ?_)
    have t2 := hσ 2
    have t3 := hσ 3
    have t6 := hσ 6
    have t7 := hσ 7
    have t10 := hσ 10
    simp (decide := true) only [put_at, envOf_var, sel_true, sel_false, Nat.reduceBeqDiff, BEq.rfl, Nat.reduceAdd, q2, q3, q6, q7] at t2 t3 t6 t7 t10
    clear hσ hK2 K2
    refine W_if hlo t10 ?_
    rw [if_neg (by simp)]
    refine W_skip ⟨t7, ?_⟩
    exact ⟨by rw [upd_ne (by decide)]; exact t2, by rw [upd_ne (by decide)]; exact t3, by rw [upd_ne (by decide)]; exact t6, upd_same _ _ _, by omega, md.trans' m4⟩
end
end Go.Kf

/- Trees that are alike are told so: all. -/
namespace Go.Kf
open Go Go.RowKit

mutual
def okT : Tr → Prop
  | .mk n s nl l u => smallT (.mk n s nl l u) ∧ okTs l
def okTs : List Tr → Prop
  | [] => True
  | t :: l => okT t ∧ okTs l
end

section
variable {P : Program} {N : Nums}
mutual
theorem sameTree (B : Base P N) (F : Fns P N) (hN : N.f_spec_SameTree ≠ 0) (hT : TreeT P N N.t_spec_Tree N.t_spec_Tag N.t_Lspec_Tree N.t_Lspec_Tag) : ∀ (t : Tr), okT t → ST P N t
  | .mk n s nl l u, h => same_step B F hN hT h.1 (sameTrees B F hN hT l h.2)
theorem sameTrees (B : Base P N) (F : Fns P N) (hN : N.f_spec_SameTree ≠ 0) (hT : TreeT P N N.t_spec_Tree N.t_spec_Tag N.t_Lspec_Tree N.t_Lspec_Tag) : ∀ (l : List Tr), okTs l → ∀ x ∈ l, ST P N x
  | [], _, x, hx => by simp at hx
  | t :: l, h, x, hx => by
    rcases List.mem_cons.1 hx with e | hx
    · rw [e]; exact sameTree B F hN hT t h.1
    · exact sameTrees B F hN hT l h.2 x hx
end
end
end Go.Kf

/- A row appended to a list of one's own. -/
namespace Go.Kf
open Go Go.RowKit

/-- A list of one's own: nil, or a block from c on whose cells are there; it holds these. -/
def Own (w : World) (lo sz : Nat) (v : Value) (n : Nat) (cs : List Value) : Prop :=
  (v = .slice none 0 0 ∧ n = 0 ∧ cs = []) ∨ ∃ b c, v = .slice (some ⟨b, 0, none⟩) n c ∧ lo ≤ b ∧ b < w.heap.size ∧ n ≤ c ∧ w.there b 0 (c * sz) ∧ w.rangeAt b 0 cs ∧ cs.length = n * sz

/-- Not the block of a list. -/
def notBlk (v : Value) (k : Nat) : Prop := ∀ b o s n c, v = .slice (some ⟨b, o, s⟩) n c → k ≠ b

section
variable {P : Program} {N : Nums}

theorem run_append1 {st et ty : TypeId} {a b sz by' : Nat} {z z' : Value} {d : TypeDesc} (hS : TI P st (.slice et) a b z') (ht : TI P et d sz by' z) {w : World} {lo n bs cb m : Nat} {v : Value} {cs new : List Value} (ho : Own w lo sz v n cs)
    (hn : w.rangeAt bs 0 new) (hnl : new.length = m * sz) (h1 : ∀ c ∈ new, c.oneCell' = true) (hlo : lo ≤ w.heap.size) (hz : z.cells.size = sz) (hold : ∀ c ∈ cs, c.oneCell' = true)
    (hbig : n + m < 1099511627776) (hby : by' ≤ 128) (hm : 0 < m) :
    ∃ v' w', (Builtin.append_ #[st, st] ty #[v, .slice (some ⟨bs, 0, none⟩) m cb]).run P w = .ok v' w' ∧ Own w' lo sz v' (n + m) (cs ++ new) ∧ Mod w w' (fun i _ => ¬ notBlk v i) ∧ v'.oneCell' = true ∧ (∀ k, k < w.heap.size → notBlk v k → notBlk v' k) := by
  obtain ⟨i, hi, hsz, hbytes, hzero⟩ := ht.info
  subst hsz
  have hsrc : Src P i.size st (.slice (some ⟨bs, 0, none⟩) m cb) m new w := Src.ofSlice w hS.und ⟨bs, 0, none⟩ m cb new hnl (fun j u hj => by rw [Addr.add_mid]; exact hn j u hj) h1
  have fits : ∀ c, c < n + m → Builtin.nextslicecap (n + m) c * i.bytes ≤ 281474976710656 := by
    intro c hc
    have h1 := nextslicecap_le hc
    have h2 : Builtin.nextslicecap (n + m) c * i.bytes ≤ (2 * (n + m)) * 128 := Nat.mul_le_mul h1 (by omega)
    omega
  have grown : ∀ (base : Option Addr) (c : Nat), v = .slice base n c → c < n + m → (Builtin.firstCells i.size n (.slice base n c)).run P w.drew = .ok cs.toArray w.drew → cs.length = n * i.size →
      ∃ v' w', (Builtin.append_ #[st, st] ty #[v, .slice (some ⟨bs, 0, none⟩) m cb]).run P w = .ok v' w' ∧ Own w' lo i.size v' (n + m) (cs ++ new) ∧ Mod w w' (fun i _ => ¬ notBlk v i) ∧ v'.oneCell' = true ∧ (∀ k, k < w.heap.size → notBlk v k → notBlk v' k) := by
    intro base c hv hc hold' hcl
    have hrun := run_append_grow_src (P := P) w st st ty et i z hS.und hi hzero base n c cs hold' (.slice (some ⟨bs, 0, none⟩) m cb) m new hsrc hc (by omega) (fits c hc)
    refine ⟨_, _, by rw [hv]; exact hrun, .inr ⟨w.heap.size, _, rfl, hlo, by rw [alloc_size]; exact Nat.lt_succ_self _, grownCap_ge w (n + m) c et, ?_, ?_, by rw [List.length_append, hcl, hnl, Nat.add_mul]⟩, (Mod.drew w _).trans' (Mod.alloc _ _ _), rfl, fun k hk _ b o s n c e => by injection e with e1 _ _; injection e1 with e2; injection e2 with e3; omega⟩
    · have ht2 := there_alloc w.drew ((cs ++ new).toArray ++ Builtin.zeroCells z.cells (grownCap w (n + m) c et - (n + m))) et
      intro j hj
      refine ht2 j ?_
      have hzc : (Builtin.zeroCells z.cells (grownCap w (n + m) c et - (n + m))).size = (grownCap w (n + m) c et - (n + m)) * i.size := by simp [Builtin.zeroCells, hz]
      rw [Array.size_append, hzc, List.size_toArray, List.length_append, hcl, hnl, ← Nat.add_mul, ← Nat.add_mul]
      have hge := grownCap_ge w (n + m) c et
      rwa [show n + m + (grownCap w (n + m) c et - (n + m)) = grownCap w (n + m) c et by omega]
    · have hr := rangeAt_alloc w.drew ((cs ++ new).toArray ++ Builtin.zeroCells z.cells (grownCap w (n + m) c et - (n + m))) et (0, 0)
      exact (rangeAt_append.1 (by simpa using hr)).1
  rcases ho with ⟨hv, hn0, hcs⟩ | ⟨b, c, hv, hb1, hb2, hnc, hth, hrg, hcl⟩
  · subst hcs
    exact grown none 0 (by rw [hv, hn0]) (by omega) (by rw [hn0]; rfl) (by rw [hn0]; simp)
  · by_cases hroom : n + m ≤ c
    · have hle : n * i.size + new.length ≤ c * i.size := by
        rw [hnl, ← Nat.add_mul]; exact Nat.mul_le_mul_right _ hroom
      have hrun := run_append_room_src (P := P) w st st ty et i hS.und hi b 0 n c (.slice (some ⟨bs, 0, none⟩) m cb) m new hsrc hroom (fun j hj => by
        have := (hth (n * i.size + j) (by omega)).1; simpa [Nat.add_assoc] using this) (fun j hj => by
        have := (hth (n * i.size + j) (by omega)).2; simpa [Nat.add_assoc] using this)
      have ms : Mod w (w.setCells b (0 + n * i.size) new) (rng b (0 + n * i.size) new.length) := Mod.setCells _ _ _ fun _ k h1 h2 => ⟨rfl, h1, h2⟩
      refine ⟨_, _, by rw [hv]; exact hrun, .inr ⟨b, c, rfl, hb1, Nat.lt_of_lt_of_le hb2 ms.size, hroom, ms.there hb2 hth, ?_, by rw [List.length_append, hcl, hnl, Nat.add_mul]⟩, ms.mono (fun k o _ h hn => hn b 0 none n c hv h.1), rfl, fun k hk hn b' o' s' n' c' e => by
        injection e with e1 _ _; injection e1 with e2; injection e2 with e3; subst e3; exact hn b 0 none n c hv⟩
      rw [rangeAt_append]
      refine ⟨ms.rangeAt hb2 (fun k h1 h2 h => by have := h.2.1; omega) hrg, ?_⟩
      rw [hcl]
      -- the new cells
      have hset : ∀ (l : List Value) (o : Nat) (w : World), (∀ j, j < l.length → (w.cell? ⟨b, o + j, none⟩).isSome = true) → (w.setCells b o l).rangeAt b o l := by
        intro l o w hl
        have hex : ∃ old : List Value, old.length = l.length ∧ w.rangeAt b o old := by
          refine ⟨(List.range l.length).map fun j => (w.cell? ⟨b, o + j, none⟩).getD undef, by simp, fun j v hj => ?_⟩
          rw [List.getElem?_map] at hj
          cases hr : (List.range l.length)[j]? with
          | none => rw [hr] at hj; simp at hj
          | some k =>
            rw [hr] at hj
            have hk : k = j := by
              have := List.getElem?_eq_some_iff.1 hr
              obtain ⟨h1, h2⟩ := this
              simpa using h2.symm
            subst hk
            have hlt : k < l.length := by have := (List.getElem?_eq_some_iff.1 hr).1; simpa using this
            have hs := hl k hlt
            simp only [Option.map_some, Option.some.injEq] at hj
            cases hc : w.cell? ⟨b, o + k, none⟩ with
            | none => rw [hc] at hs; cases hs
            | some x => rw [hc] at hj; simp at hj; rw [hj]
        obtain ⟨old, ho1, ho2⟩ := hex
        have := rangeAt_setCells l o w old ho2 (by omega)
        rwa [List.drop_of_length_le (by omega), List.append_nil] at this
      exact hset new _ w (fun j hj => by have := (hth (n * i.size + j) (by omega)).1; simpa [Nat.add_assoc] using this)
    · have hfc : (Builtin.firstCells i.size n (.slice (some ⟨b, 0, none⟩) n c)).run P w.drew = .ok cs.toArray w.drew :=
        run_firstCells_some w.drew i.size n ⟨b, 0, none⟩ n c cs hcl (fun j u hj => by rw [Addr.add_mid]; exact hrg j u hj)
      exact grown (some ⟨b, 0, none⟩) c hv (by omega) hfc hcl
end
end Go.Kf

/- Trees that are copied: pieces. -/
namespace Go.Kf
open Go Go.RowKit

theorem fill_foldl : ∀ (l : List Value) (k : Nat) (arr : Array Value), k + l.length ≤ arr.size →
    ((l.zipIdx k).foldl (fun cs (x : Value × Nat) => cs.setIfInBounds x.2 x.1) arr).toList = arr.toList.take k ++ l ++ arr.toList.drop (k + l.length)
  | [], k, arr, _ => by simp
  | v :: l, k, arr, h => by
    simp only [List.length_cons] at h
    rw [List.zipIdx_cons, List.foldl_cons, fill_foldl l (k + 1) _ (by simp; omega)]
    simp only [Array.toList_setIfInBounds, List.length_cons]
    have hk : k < arr.toList.length := by simp; omega
    rw [List.set_eq_take_append_cons_drop, if_pos hk]
    have e1 : (arr.toList.take k ++ v :: arr.toList.drop (k + 1)).take (k + 1) = arr.toList.take k ++ [v] := by
      rw [List.take_append, List.length_take, Nat.min_eq_left (by omega)]
      rw [List.take_of_length_le (by simp; omega)]
      simp
    have e2 : (arr.toList.take k ++ v :: arr.toList.drop (k + 1)).drop (k + 1 + l.length) = arr.toList.drop (k + (l.length + 1)) := by
      rw [List.drop_append, List.length_take, Nat.min_eq_left (by omega)]
      rw [List.drop_of_length_le (by simp; omega)]
      simp only [List.nil_append]
      rw [show k + 1 + l.length - k = l.length + 1 by omega, List.drop_succ_cons, List.drop_drop]
      congr 1; omega
    rw [e1, e2]
    simp

section
variable {P : Program}

theorem run_bs1 {st et : TypeId} {a b sz by' : Nat} {z z' : Value} {d : TypeDesc} (hS : TI P st (.slice et) a b z') (ht : TI P et d sz by' z) {w : World} {v : Value} {cs : List Value} (hv : v.cells = cs.toArray) (hl : cs.length = sz) (h0 : 0 < sz) (hsz : sz ≤ 16777216) :
    (Instr.buildSlice st 1 #[(0, v)]).run P w = .ok (.slice (some ⟨w.heap.size, 0, none⟩) 1 1) (w.alloc (.cells cs.toArray et)) := by
  obtain ⟨i, hi, h1, h2, h3⟩ := ht.info
  refine run_buildSlice w st et 1 _ cs.toArray i z hS.und hi h3 (by omega) (by omega) ?_
  have hsz2 : ((Array.range (1 * i.size)).map (z.cells[· % z.cells.size]!)).size = sz := by simp [h1]
  have hv2 : v.cells.size = sz := by rw [hv]; simpa using hl
  simp only [Instr.fill, h1, hv2, Nat.zero_mul, Nat.zero_add]
  rw [if_neg (by simp [h1] at hsz2 ⊢)]
  congr 1
  apply Array.ext'
  have := fill_foldl cs 0 ((Array.range (1 * i.size)).map (z.cells[· % z.cells.size]!)) (by rw [hsz2]; omega)
  rw [h1] at this
  rw [hv]
  have e : cs.toArray.zipIdx = (cs.zipIdx 0).toArray := by simp
  rw [e, List.foldl_toArray]
  rw [this]
  simp
  omega
end
end Go.Kf

/- Trees that are copied: a step's pieces. -/
namespace Go.Kf
open Go Go.RowKit

def GN (G : Nat → Prop) (a b : Nat) : Nat → Prop := fun k => G k ∨ (a ≤ k ∧ k < b)
/-- The blocks of a list's things: those of G, and new ones, but not the list's own. -/
def GX (G : Nat → Prop) (lo : Nat) (w : World) (v : Value) : Nat → Prop := fun k => G k ∨ (lo ≤ k ∧ k < w.heap.size ∧ notBlk v k)

theorem setCells_size {b : Nat} : ∀ (vs : List Value) (o : Nat) (w : World), (w.setCells b o vs).heap.size = w.heap.size
  | [], _, _ => rfl
  | v :: vs, o, w => by
    show ((w.setCell ⟨b, o, none⟩ v).setCells b (o + 1) vs).heap.size = _
    rw [setCells_size vs (o + 1)]
    simp [World.setCell]

section
variable {P : Program} {N : Nums}

def zT : List Value := [.int .i64 0, .slice none 0 0, .bool false, .slice none 0 0, .slice none 0 0]
def zU : List Value := [.int .u32 0, .slice none 0 0]
theorem TreeT.ti {tt tg lt lg : TypeId} (h : TreeT P N tt tg lt lg) : ∃ fs, TI P tt (.struct fs) 5 88 (.agg zT.toArray) := by
  obtain ⟨fs, h, _⟩ := h.tree.out
  exact ⟨fs, h⟩
theorem TreeT.tu {tt tg lt lg : TypeId} (h : TreeT P N tt tg lt lg) : ∃ fs, TI P tg (.struct fs) 2 32 (.agg zU.toArray) := by
  obtain ⟨fs, h, _⟩ := h.tag.out
  exact ⟨fs, h⟩

/-- A new struct, and its cells. -/
theorem new_struct {t : TypeId} {by' : Nat} {z : List Value} {fs : Array Field} (h : TI P t (.struct fs) z.length by' (.agg z.toArray)) (w : World) (cs : List Value) (hl : cs.length = z.length) (h1 : ∀ c ∈ cs, c.oneCell' = true) :
    ∃ w2, (Instr.storeAt t (.pointer (some ⟨w.heap.size, 0, none⟩)) (.agg cs.toArray)).run P (w.alloc (.cells (Value.cells (.agg z.toArray)) t)) = .ok () w2 ∧ Mod w w2 none' ∧ w2.heap.size = w.heap.size + 1 ∧ w2.rangeAt w.heap.size 0 cs ∧ w2.there w.heap.size 0 z.length := by
  obtain ⟨w1, hw1⟩ : ∃ w1, w1 = w.alloc (.cells (Value.cells (.agg z.toArray)) t) := ⟨_, rfl⟩
  have m1 : Mod w w1 none' := by rw [hw1]; exact Mod.alloc _ _ _
  have s1 : w1.heap.size = w.heap.size + 1 := by rw [hw1]; exact alloc_size _ _
  have r1 : w1.rangeAt w.heap.size 0 z := by rw [hw1]; exact rangeAt_alloc w z.toArray t (0, 0)
  have t1 : w1.there w.heap.size 0 z.length := by
    have := there_alloc w z.toArray t
    rw [hw1]
    have e : z.toArray.size = z.length := by simp
    rw [e] at this; exact this
  rw [← hw1]
  refine ⟨_, h.run_store (w := w1) (b := w.heap.size) (o := 0) (v := .agg cs.toArray) (cs := cs) rfl hl t1 h1, ?_, ?_, ?_, ?_⟩
  · exact m1.fresh (Mod.setCells cs 0 _ fun _ _ _ _ => rfl : Mod w1 _ (blk w.heap.size)) fun k o e => by have : k = w.heap.size := e; omega
  · rw [setCells_size, s1]
  · have := rangeAt_setCells cs 0 w1 _ r1 (by omega)
    rwa [List.drop_of_length_le (by omega), List.append_nil] at this
  · exact (Mod.setCells cs 0 _ fun _ _ _ _ => rfl : Mod w1 _ (blk w.heap.size)).there (by omega) t1

theorem Own.stay {w w' : World} {M : Nat → Nat → Prop} (h : Mod w w' M) {lo sz n : Nat} {v : Value} {cs : List Value} (hM : ∀ k o, ¬ notBlk v k → ¬ M k o) (ho : Own w lo sz v n cs) : Own w' lo sz v n cs := by
  rcases ho with ho | ⟨b, c, e, h1, h2, h3, h4, h5, h6⟩
  · exact .inl ho
  · have hb : ¬ notBlk v b := fun hn => hn b 0 none n c e rfl
    exact .inr ⟨b, c, e, h1, Nat.lt_of_lt_of_le h2 h.size, h3, h.there h2 h4, h.rangeAt h2 (fun i _ _ => hM b i hb) h5, h6⟩

theorem Own.blk {w : World} {lo sz n : Nat} {v : Value} {cs : List Value} (ho : Own w lo sz v n cs) {k : Nat} (hk : ¬ notBlk v k) : lo ≤ k ∧ k < w.heap.size := by
  rcases ho with ⟨e, _, _⟩ | ⟨b, c, e, h1, h2, _⟩
  · exact absurd (fun b o s n c e' => by rw [e] at e'; cases e') hk
  · by_cases hkb : k = b
    · subst hkb; exact ⟨h1, h2⟩
    · refine absurd (fun b' o' s' n' c' e' => ?_) hk
      rw [e] at e'
      injection e' with e1 _ _; injection e1 with e2; injection e2 with e3
      intro hh; exact hkb (hh.trans e3.symm)

theorem Own.one {w : World} {lo sz n : Nat} {v : Value} {cs : List Value} (ho : Own w lo sz v n cs) : v.oneCell' = true := by
  rcases ho with ⟨rfl, _, _⟩ | ⟨b, c, rfl, _⟩ <;> rfl

/-- A thing is appended to a list that a cell holds: what holds of it behind that. -/
theorem own_step {w w6 w7 w8 w9 : World} {G : Nat → Prop} {lo : Nat} {v v' : Value} {b3 a : Nat}
    (hG : ∀ k, G k → k < b3) (hb3 : b3 < lo) (hlo : lo ≤ w.heap.size) (m6 : Mod w w6 none') (ha : w.heap.size ≤ a) (m7 : Mod w6 w7 none') (m8 : Mod w7 w8 fun i _ => ¬ notBlk v i) (m9 : Mod w8 w9 (fun k _ => k = b3)) (hv : ∀ k, ¬ notBlk v k → lo ≤ k ∧ k < w.heap.size) (hv' : ∀ k, k < w7.heap.size → notBlk v k → notBlk v' k) :
    Mod w w9 (fun k _ => ¬ notBlk v k ∨ k = b3) ∧ (∀ k, GX G lo w v k → k < w.heap.size ∧ (∀ _o : Nat, ¬ (¬ notBlk v k ∨ k = b3)) ∧ GX G lo w9 v' k) ∧ Mod w6 w9 (fun k _ => ¬ notBlk v k ∨ k = b3) ∧ (∀ k, GN G a w6.heap.size k → k < w6.heap.size ∧ (∀ _o : Nat, ¬ (¬ notBlk v k ∨ k = b3)) ∧ GX G lo w9 v' k) := by
  have s6 := m6.size
  have s7 := m7.size
  have s8 := m8.size
  have s9 := m9.size
  have m69 : Mod w6 w9 (fun k _ => ¬ notBlk v k ∨ k = b3) := ((m7.mono fun _ _ _ h => h.elim).trans' (m8.mono fun _ _ _ h => .inl h)).trans' (m9.mono fun _ _ _ h => .inr h)
  have nb : ∀ k, k < lo → notBlk v k := fun k hk => Classical.byContradiction fun h => by have := (hv k h).1; omega
  have nb2 : ∀ k, w.heap.size ≤ k → notBlk v k := fun k hk => Classical.byContradiction fun h => by have := (hv k h).2; omega
  refine ⟨(m6.mono fun _ _ _ h => h.elim).trans' m69, fun k hk => ?_, m69, fun k hk => ?_⟩
  · rcases hk with hk | ⟨h1, h2, h3⟩
    · have := hG k hk
      exact ⟨by omega, fun _ h => h.elim (fun h => h (nb k (by omega))) fun h => by omega, .inl hk⟩
    · exact ⟨h2, fun _ h => h.elim (fun h => h h3) fun h => by omega, .inr ⟨h1, by omega, hv' k (by omega) h3⟩⟩
  · rcases hk with hk | ⟨h1, h2⟩
    · have := hG k hk
      exact ⟨by omega, fun _ h => h.elim (fun h => h (nb k (by omega))) fun h => by omega, .inl hk⟩
    · exact ⟨h2, fun _ h => h.elim (fun h => h (nb2 k (by omega))) fun h => by omega, .inr ⟨by omega, by omega, hv' k (by omega) (nb2 k (by omega))⟩⟩
end
end Go.Kf

/- Trees that are copied: a thing of a list. -/
namespace Go.Kf
open Go Go.RowKit

section
variable {P : Program} {N : Nums}

/-- A tree is copied. -/
def GT (P : Program) (N : Nums) (t : Tr) : Prop := ∀ (w : World) (G : Nat → Prop) (cs : List Value), (∀ k, G k → k < w.heap.size) → RepT w G t cs →
  Call P N.f_got #[.agg cs.toArray] w fun v w' => ∃ cs', v = .agg cs'.toArray ∧ RepT w' (GN G w.heap.size w'.heap.size) t cs' ∧ Mod w w' none'

/-- What holds while the things of a list are copied. -/
structure G1 (w3 : World) (b1 bR b3 : Nat) (n vs nl vl : Value) (l : List Tr) (G : Nat → Prop) (j : Nat) (σ : Env) (w : World) : Prop where
  f1 : σ 1 = .pointer (some ⟨b1, 0, none⟩)
  f2 : σ 2 = .pointer (some ⟨bR, 0, none⟩)
  f3 : σ 3 = .pointer (some ⟨b3, 0, none⟩)
  f4 : σ 4 = vl
  f5 : σ 5 = .int .i64 l.length
  f6 : σ 6 = .int .i64 j
  le : j ≤ l.length
  mod : Mod w3 w (blk b3)
  ex : ∃ v css, w.rangeAt b3 0 [n, vs, nl, v, .slice none 0 0] ∧ w.there b3 0 5 ∧ Own w w3.heap.size 5 v j css.flatten ∧ RepTs w (GX G w3.heap.size w v) (l.take j) css

def cGotL (N : Nums) : C :=
  .seq (.ops [⟨some 0, .indexAddr N.t_LTree (V 4) (V 6), 0, none, []⟩, ⟨some 1, .load N.t_Tree (T 0), 0, none, []⟩, ⟨some (8 + 100), .alloc N.t_Tree, 0, none, []⟩, ⟨none, .store N.t_Tree (V 8) (T 1), 0, none, []⟩])
    (.draw [⟨some 0, .fieldAddr N.t_spec_Tree (V 3) 3, 0, none, []⟩, ⟨some 1, .load N.t_Lspec_Tree (T 0), 0, none, [0]⟩, ⟨some 2, .load N.t_Tree (V 8), 0, none, []⟩,
      ⟨some 3, .call ⟨.value (.func N.f_got), #[T 2], #[N.t_Tree]⟩, N.t_spec_Tree, none, [2]⟩, ⟨some 4, .buildSlice N.t_Lspec_Tree 1 #[(0, T 3)], 0, none, [3]⟩,
      ⟨some 5, .call ⟨.builtin .append, #[T 1, T 4], #[N.t_Lspec_Tree, N.t_Lspec_Tree]⟩, N.t_Lspec_Tree, none, [1, 4, 3]⟩,
      ⟨some 6, .fieldAddr N.t_spec_Tree (V 3) 3, 0, none, [0, 1, 2, 3, 4, 5]⟩, ⟨none, .store N.t_Lspec_Tree (T 6) (T 5), 0, none, [6, 5, 5, 0, 1, 2, 3, 4, 5]⟩])

theorem RepTs.ones {w : World} {G : Nat → Prop} : ∀ {l : List Tr} {css : List (List Value)}, RepTs w G l css → ∀ c ∈ css.flatten, c.oneCell' = true
  | [], _, h, c, hc => by simp only [RepTs] at h; subst h; simp at hc
  | t :: l, _, ⟨c0, r, h1, h2, h3⟩, c, hc => by
    subst h1
    rw [List.flatten_cons, List.mem_append] at hc
    rcases hc with hc | hc
    · exact h2.one c hc
    · exact RepTs.ones h3 c hc

theorem got_elem (B : Base P N) (F : Fns P N) (hN : N.f_got ≠ 0) (hS : TreeT P N N.t_spec_Tree N.t_spec_Tag N.t_Lspec_Tree N.t_Lspec_Tag) (hI : TreeT P N N.t_Tree N.t_Tag N.t_LTree N.t_LTag) {loc : List Nat} {N' : Nat} {Q : Exit → Env → World → Prop}
    {w3 w : World} {b1 bR b3 : Nat} {n vs nl vl : Value} {l : List Tr} {G : Nat → Prop} {j : Nat} {σ : Env} (hj : j < l.length) (hll : l.length < 1099511627776) (hb3 : b3 < w3.heap.size) (hG : ∀ k, G k → k < b3)
    (h : G1 w3 b1 bR b3 n vs nl vl l G j σ w) (hsrc : ∃ b c css, vl = .slice (some ⟨b, 0, none⟩) l.length c ∧ G b ∧ RepTs w3 G l css ∧ w3.rangeAt b 0 css.flatten) (ih : ∀ x ∈ l, GT P N x)
    (hQ : ∀ σ' w', σ' 6 = .int .i64 j → G1 w3 b1 bR b3 n vs nl vl l G (j + 1) (upd σ' 6 (.int .i64 ((j + 1 : Nat) : Int))) w' → Q .normal σ' w') :
    W P loc N' (cGotL N) Q σ w := by
  obtain ⟨f1, f2, f3, f4, f5, f6, _, mod, v, css, hr, ht, ho, hrep⟩ := h
  obtain ⟨bl, c, css0, rfl, hGb, hrs, hrg⟩ := hsrc
  obtain ⟨fs, hI1⟩ := hI.ti
  obtain ⟨fs', hS1⟩ := hS.ti
  have hx : l[j]? = some l[j] := List.getElem?_eq_getElem hj
  have hmG : ∀ k, G k → k < w3.heap.size ∧ (∀ o, ¬ blk b3 k o) ∧ G k := fun k hk => ⟨by have := hG k hk; omega, fun o e => by have : k = b3 := e; have := hG k hk; omega, hk⟩
  have hrs' := RepTs.mod mod hmG l hrs
  have hrg' : w.rangeAt bl 0 css0.flatten := mod.rangeAt (hmG bl hGb).1 (fun i _ _ => (hmG bl hGb).2.1 i) hrg
  obtain ⟨cs, hcs, hxr⟩ := hrs'.get hx
  have hxg := flatten_get hrg' hrs'.len5 hcs
  rw [Nat.zero_add] at hxg
  have hcl : cs.length = 5 := hxr.len
  have hld := hI1.run_load (w := w) (b := bl) (o := j * 5) hxg hcl (fun h => by cases h)
  have hlv : ∀ (f : Array Field) (x : List Value), ldv (.struct f) x = .agg x.toArray := fun _ _ => rfl
  have hsz := mod.size
  obtain ⟨w5, hst, m5, s5, r5, t5⟩ := new_struct (z := zT) hI1 w cs (by rw [hcl]; rfl) hxr.one
  unfold cGotL
  refine W_seq' fun K hK => W_ops fun τ => ?_
  simp (decide := true) (disch := omega) only [runR, step_alloc, step_load, step_store, step_indexAddr, stepV_ok, stepU_ok, ev_tmp, put_at, envOf_var, sel_true, sel_false, Nat.reduceBeqDiff, BEq.rfl, Nat.reduceAdd, Nat.zero_add, f4, f6, run_indexAt hI.lt hI1, hld, hlv, hI1.run_alloc, hst]
  refine hK _ _ (gen_locs fun σ5 hσ => ?_)
  have g1 := hσ 1
  have g2 := hσ 2
  have g3 := hσ 3
  have g4 := hσ 4
  have g5 := hσ 5
  have g6 := hσ 6
  have g8 := hσ 8
  simp (decide := true) only [put_at, envOf_var, sel_true, sel_false, Nat.reduceBeqDiff, BEq.rfl, Nat.reduceAdd, f1, f2, f3, f4, f5, f6] at g1 g2 g3 g4 g5 g6 g8
  clear hσ hK K hst hld
  -- the copy
  have md : Mod w w5.drew none' := m5.trans' (Mod.drew _ _)
  have hv : ∀ k, ¬ notBlk v k → w3.heap.size ≤ k ∧ k < w.heap.size := fun k hk => ho.blk hk
  have hone := ho.one
  have cell3 : w.cell? ⟨b3, 3, none⟩ = some v := hr 3 v rfl
  refine W_drawM B.mixed [true, true, true, false, false, false, false, false] (by kernel_rfl) (fun w' => w'.cell? ⟨b3, 3, none⟩ = some v ∧ w'.rangeAt w.heap.size 0 cs) ?_ fun τ => ?_
  · refine ⟨?_, rangeAt_stay (Mod.drew _ _) r5⟩
    rw [md.cell _ _ (by omega) (fun h => h)]; exact cell3
  have e3 : envOf σ5 τ 103 = .pointer (some ⟨b3, 0, none⟩) := by rw [← g3]; exact envOf_var σ5 τ 3
  have e8 : envOf σ5 τ 108 = .pointer (some ⟨w.heap.size, 0, none⟩) := by rw [← g8]; exact envOf_var σ5 τ 8
  refine readsZ_cons (.pointer (some ⟨b3, 3, none⟩)) (fun w' _ => exec_val (by
    simp (decide := true) only [ev_tmp, e3, hS.h3.run])) rfl ?_
  refine readsZ_cons v (fun w' hw => exec_val (by
    simp (decide := true) only [put_at, sel_true, BEq.rfl, ev_tmp, hS.lt.run_load1 rfl, hw.1, ldc_some])) rfl ?_
  refine readsZ_cons (.agg cs.toArray) (fun w' hw => exec_val (by
    have := hI1.run_load (w := w') (b := w.heap.size) (o := 0) hw.2 hcl (fun h => by cases h)
    simp (decide := true) only [put_at, envOf_var, sel_false, Nat.reduceBeqDiff, Nat.reduceAdd, ev_tmp, g8, this, hlv])) rfl ?_
  simp only [readsZ, chainOps, List.zip_cons_cons, List.zip_nil_right, List.zipWith_cons_cons, List.zipWith_nil_right, List.filter, Bool.not_true, Bool.not_false, List.map, chainZ]
  rw [step_call1 (F.got hN).has]
  simp (decide := true) only [step_buildSlice, step_store, step_fieldAddr, step_append, ev_tmp, put_at, envOf_var, sel_true, sel_false, Nat.reduceBeqDiff, BEq.rfl, Nat.reduceAdd]
  have hxr5 : RepT w5.drew G l[j] cs := RepT.stay md _ hxr
  refine (ih l[j] (List.getElem_mem hj) w5.drew G cs (fun k hk => ?_) hxr5).mono ?_
  · have := hG k hk
    show k < w5.heap.size
    omega
  rintro _ w6 ⟨cs', rfl, hrep6, m6⟩
  have s6 := m6.size
  have s6' : w5.heap.size ≤ w6.heap.size := s6
  have m06 : Mod w w6 none' := md.trans' m6
  have keep : ∀ {w' : World}, Mod w w' none' → w'.cell? ⟨b3, 3, none⟩ = some v ∧ w'.rangeAt w.heap.size 0 cs → True := fun _ _ => trivial
  clear keep
  have c6 : w6.cell? ⟨b3, 3, none⟩ = some v ∧ w6.rangeAt w.heap.size 0 cs :=
    ⟨by rw [m06.cell _ _ (by omega) (fun h => h)]; exact cell3, rangeAt_stay m6 (rangeAt_stay (Mod.drew _ _) r5)⟩
  refine ⟨c6, ?_⟩
  have hcl' : cs'.length = 5 := hrep6.len
  have hbs := run_bs1 (w := w6) (v := .agg cs'.toArray) (cs := cs') hS.lt hS1 rfl hcl' (by decide) (by decide)
  have e9 : ∀ ρ : Env, (#[(0, T 3)] : Array (Nat × Operand)).map (fun p => (p.1, ev ρ p.2)) = #[(0, ρ 3)] := fun ρ => by simp
  simp (decide := true) only [stepV_ok, put_at, sel_true, BEq.rfl, e9, hbs]
  obtain ⟨w7, hw7⟩ : ∃ w7, w7 = w6.alloc (.cells cs'.toArray N.t_spec_Tree) := ⟨_, rfl⟩
  have m7 : Mod w6 w7 none' := by rw [hw7]; exact Mod.alloc _ _ _
  have s7 : w7.heap.size = w6.heap.size + 1 := by rw [hw7]; exact alloc_size _ _
  have r7 : w7.rangeAt w6.heap.size 0 cs' := by rw [hw7]; exact rangeAt_alloc w6 _ _ _
  rw [← hw7]
  clear hw7 hbs
  have m07 : Mod w w7 none' := m06.trans' m7
  have c7 : w7.cell? ⟨b3, 3, none⟩ = some v ∧ w7.rangeAt w.heap.size 0 cs :=
    ⟨by rw [m07.cell _ _ (by omega) (fun h => h)]; exact cell3, rangeAt_stay m7 c6.2⟩
  refine ⟨c7, ?_⟩
  have ho7 : Own w7 w3.heap.size 5 v j css.flatten := ho.stay m07 fun _ _ _ h => h
  obtain ⟨v', w8, happ, ho8, m8, hone', hnb⟩ := run_append1 (P := P) (ty := N.t_Lspec_Tree) (m := 1) (cb := 1) hS.lt hS1 ho7 r7 (by rw [hcl']) hrep6.one (by omega) rfl (RepTs.ones hrep) (by omega) (by decide) (by decide)
  simp (decide := true) only [stepV_ok, happ]
  clear happ
  have nb3 : ¬ ¬ notBlk v b3 := fun h => by have := (hv b3 h).1; omega
  have nb8 : ¬ ¬ notBlk v w.heap.size := fun h => by have := (hv _ h).2; omega
  have c8 : w8.cell? ⟨b3, 3, none⟩ = some v ∧ w8.rangeAt w.heap.size 0 cs :=
    ⟨by rw [m8.cell _ _ (by omega) nb3]; exact c7.1, m8.rangeAt (by omega) (fun _ _ _ => nb8) c7.2⟩
  refine ⟨c8, ?_⟩
  simp (decide := true) only [stepV_ok, Nat.zero_add, g3, hS.h3.run]
  refine ⟨c8, ?_⟩
  have s8 := m8.size
  have h8 : w8.there b3 0 5 := m8.there (by omega) (m07.there (by omega) ht)
  have t8 : w8.there b3 3 1 := fun i hi => by
    have := h8 (3 + i) (by omega)
    rwa [show 0 + (3 + i) = 3 + i by omega] at this
  have hsto := hS.lt.run_store1 (w := w8) (b := b3) (o := 3) (v := v') hone' t8
  simp (decide := true) only [stepU_ok, hsto]
  obtain ⟨w9, hw9⟩ : ∃ w9, w9 = w8.setCell ⟨b3, 3, none⟩ v' := ⟨_, rfl⟩
  have m9 : Mod w8 w9 fun k _ => k = b3 := by rw [hw9]; exact Mod.setCell fun _ => rfl
  have s9 : w9.heap.size = w8.heap.size := by rw [hw9]; simp [World.setCell]
  have r8 : w8.rangeAt b3 0 [n, vs, nl, v, .slice none 0 0] := m8.rangeAt (by omega) (fun _ _ _ => nb3) (rangeAt_stay m07 hr)
  have r9 : w9.rangeAt b3 0 [n, vs, nl, v', .slice none 0 0] := by
    have q := rangeAt_setCells [v'] 3 w8 [v, .slice none 0 0] ((rangeAt_append (cs := [n, vs, nl])).1 r8).2 (by simp)
    rw [hw9]
    refine (rangeAt_append (cs := [n, vs, nl])).2 ⟨?_, q⟩
    exact (Mod.setCell (M := rng b3 3 1) fun _ => ⟨rfl, Nat.le_refl _, by omega⟩ : Mod w8 _ (rng b3 3 1)).rangeAt (by omega) (fun i h1 h2 h => by have := h.2.1; simp at h2; omega) ((rangeAt_append (cs := [n, vs, nl])).1 r8).1
  rw [← hw9]
  clear hw9 hsto
  obtain ⟨q1, q2, q3, q4⟩ := own_step (w := w) (w6 := w6) (w7 := w7) (w8 := w8) (w9 := w9) (G := G) (lo := w3.heap.size) (v := v) (v' := v') (b3 := b3) (a := w5.heap.size) hG hb3 hsz m06 (by omega) m7 m8 m9 hv hnb
  refine gen_locs (K := fun σ' w' => Q .normal σ' w') fun σ9 hσ => hQ _ _ ?_ ?_
  · have := hσ 6
    simp (decide := true) only [put_at, envOf_var, sel_false, Nat.reduceBeqDiff, Nat.reduceAdd, g6] at this
    exact this
  · have p1 := hσ 1
    have p2 := hσ 2
    have p3 := hσ 3
    have p4 := hσ 4
    have p5 := hσ 5
    simp (decide := true) only [put_at, envOf_var, sel_false, Nat.reduceBeqDiff, Nat.reduceAdd, g1, g2, g3, g4, g5] at p1 p2 p3 p4 p5
    refine ⟨by rw [upd_ne (by decide)]; exact p1, by rw [upd_ne (by decide)]; exact p2, by rw [upd_ne (by decide)]; exact p3, by rw [upd_ne (by decide)]; exact p4, by rw [upd_ne (by decide)]; exact p5, upd_same _ _ _, by omega, ?_, v', css ++ [cs'], r9, m9.there (by omega) h8, ?_, ?_⟩
    · exact mod.trans q1 fun k _ hk h => h.elim id fun h => h.elim (fun h => by have := (hv k h).1; omega) id
    · have := ho8.stay m9 (fun k o h e => by have : k = b3 := e; have := ho8.blk h; omega)
      simpa using this
    · rw [List.take_add_one, hx]
      exact (RepTs.mod q1 q2 _ hrep).append ⟨cs', [], rfl, RepT.mod q3 q4 _ hrep6, rfl⟩
end
end Go.Kf

/- Trees that are copied: a tag of a list. -/
namespace Go.Kf
open Go Go.RowKit

section
variable {P : Program} {N : Nums}

theorem UsG.append {w : World} {G : Nat → Prop} : ∀ {l : List (Nat × List UInt8)} {cs : List Value} {l' : List (Nat × List UInt8)} {cs' : List Value}, UsG w G l cs → UsG w G l' cs' → UsG w G (l ++ l') (cs ++ cs')
  | [], _, _, _, h, h' => by simp only [UsG] at h; subst h; exact h'
  | (k, x) :: l, _, _, _, ⟨v, r, h1, h2, h3⟩, h' => by subst h1; exact ⟨v, r ++ _, rfl, h2, UsG.append h3 h'⟩
theorem UsG.ones {w : World} {G : Nat → Prop} : ∀ {l : List (Nat × List UInt8)} {cs : List Value}, UsG w G l cs → ∀ c ∈ cs, c.oneCell' = true
  | [], _, h, c, hc => by simp only [UsG] at h; subst h; simp at hc
  | (k, x) :: l, _, ⟨v, r, h1, h2, h3⟩, c, hc => by
    subst h1
    rcases List.mem_cons.1 hc with rfl | hc
    · rfl
    · rcases List.mem_cons.1 hc with rfl | hc
      · exact h2.one
      · exact UsG.ones h3 c hc

/-- What holds while the tags are copied. -/
structure G2 (w4 : World) (bR b3 : Nat) (n vs nl v1 vu : Value) (u : List (Nat × List UInt8)) (G : Nat → Prop) (j : Nat) (σ : Env) (w : World) : Prop where
  f2 : σ 2 = .pointer (some ⟨bR, 0, none⟩)
  f3 : σ 3 = .pointer (some ⟨b3, 0, none⟩)
  f9 : σ 9 = vu
  f10 : σ 10 = .int .i64 u.length
  f11 : σ 11 = .int .i64 j
  le : j ≤ u.length
  mod : Mod w4 w (blk b3)
  ex : ∃ v cs, w.rangeAt b3 0 [n, vs, nl, v1, v] ∧ w.there b3 0 5 ∧ Own w w4.heap.size 2 v j cs ∧ UsG w (GX G w4.heap.size w v) (u.take j) cs

def cGotU (N : Nums) : C :=
  .seq (.ops [⟨some 0, .indexAddr N.t_LTag (V 9) (V 11), 0, none, []⟩, ⟨some 1, .load N.t_Tag (T 0), 0, none, []⟩, ⟨some (13 + 100), .alloc N.t_Tag, 0, none, []⟩, ⟨none, .store N.t_Tag (V 13) (T 1), 0, none, []⟩])
    (.ops [⟨some 0, .fieldAddr N.t_spec_Tree (V 3) 4, 0, none, []⟩, ⟨some 1, .load N.t_Lspec_Tag (T 0), 0, none, []⟩, ⟨some 2, .fieldAddr N.t_Tag (V 13) 0, 0, none, []⟩, ⟨some 3, .load N.t_uint32 (T 2), 0, none, []⟩,
      ⟨some 4, .fieldAddr N.t_Tag (V 13) 1, 0, none, []⟩, ⟨some 5, .load N.t_Luint8 (T 4), 0, none, []⟩, ⟨some 6, .build N.t_spec_Tag #[(0, T 3), (1, T 5)], 0, none, []⟩, ⟨some 7, .buildSlice N.t_Lspec_Tag 1 #[(0, T 6)], 0, none, []⟩,
      ⟨some 8, .call ⟨.builtin .append, #[T 1, T 7], #[N.t_Lspec_Tag, N.t_Lspec_Tag]⟩, N.t_Lspec_Tag, none, []⟩,
      ⟨some 9, .fieldAddr N.t_spec_Tree (V 3) 4, 0, none, []⟩, ⟨none, .store N.t_Lspec_Tag (T 9) (T 8), 0, none, []⟩])

theorem UsG.get5 {w : World} {G : Nat → Prop} : ∀ {u : List (Nat × List UInt8)} {cs : List Value} {j : Nat} {x : Nat × List UInt8}, UsG w G u cs → u[j]? = some x → ∃ v, cs[j * 2]? = some (.int .u32 x.1) ∧ cs[j * 2 + 1]? = some v ∧ tagV w G v x.2
  | [], _, j, x, _, hj => by simp at hj
  | (k, l) :: u, _, 0, x, ⟨v, r, h1, h2, h3⟩, hj => by subst h1; simp at hj; subst hj; exact ⟨v, rfl, rfl, h2⟩
  | (k, l) :: u, _, j + 1, x, ⟨v, r, h1, h2, h3⟩, hj => by
    subst h1
    obtain ⟨v', g1, g2, g3⟩ := UsG.get5 h3 (by simpa using hj)
    refine ⟨v', ?_, ?_, g3⟩
    · rw [show (j + 1) * 2 = j * 2 + 1 + 1 by omega]; simpa using g1
    · rw [show (j + 1) * 2 + 1 = j * 2 + 1 + 1 + 1 by omega]; simpa using g2

theorem tagBuild {tt tg lt lg : TypeId} (h : TreeT P N tt tg lt lg) (w : World) (k : Nat) {v : Value} (hv : v.oneCell' = true) : (Instr.build tg #[(0, .int .u32 k), (1, v)]).run P w = .ok (.agg #[.int .u32 k, v]) w :=
  h.tag.run_build (by simp [Instr.fill, cells_one hv, cells_one (show (Value.int .u32 k).oneCell' = true from rfl)])

theorem got_tag (B : Base P N) (hS : TreeT P N N.t_spec_Tree N.t_spec_Tag N.t_Lspec_Tree N.t_Lspec_Tag) (hI : TreeT P N N.t_Tree N.t_Tag N.t_LTree N.t_LTag) {loc : List Nat} {N' : Nat} {Q : Exit → Env → World → Prop}
    {w4 w : World} {bR b3 : Nat} {n vs nl v1 vu : Value} {u : List (Nat × List UInt8)} {G : Nat → Prop} {j : Nat} {σ : Env} (hj : j < u.length) (hll : u.length < 1099511627776) (hb3 : b3 < w4.heap.size) (hG : ∀ k, G k → k < b3)
    (h : G2 w4 bR b3 n vs nl v1 vu u G j σ w) (hsrc : RepU w4 G vu u)
    (hQ : ∀ σ' w', σ' 11 = .int .i64 j → G2 w4 bR b3 n vs nl v1 vu u G (j + 1) (upd σ' 11 (.int .i64 ((j + 1 : Nat) : Int))) w' → Q .normal σ' w') :
    W P loc N' (cGotU N) Q σ w := by
  obtain ⟨f2, f3, f9, f10, f11, _, mod, v, cs0, hr, ht, ho, hrep⟩ := h
  have hx : u[j]? = some u[j] := List.getElem?_eq_getElem hj
  obtain ⟨fs, hI1⟩ := hI.tu
  obtain ⟨fs', hS1⟩ := hS.tu
  have hmG : ∀ k, G k → k < w4.heap.size ∧ (∀ o, ¬ blk b3 k o) ∧ G k := fun k hk => ⟨by have := hG k hk; omega, fun o e => by have : k = b3 := e; have := hG k hk; omega, hk⟩
  have hsrc' := hsrc.mod mod hmG
  rcases hsrc' with ⟨_, h0⟩ | ⟨bl, c, cs, rfl, _, _, hus, hrg⟩
  · rw [h0] at hj; simp at hj
  obtain ⟨tv, hk1, hk2, htv⟩ := hus.get5 hx
  have hxg : w.rangeAt bl (j * 2) [.int .u32 (u[j]).1, tv] := by
    have a := hrg _ _ hk1
    have b := hrg _ _ hk2
    rw [Nat.zero_add] at a b
    intro i x hi
    match i, hi with
    | 0, hi => simp at hi; subst hi; exact a
    | 1, hi => simp at hi; subst hi; exact b
    | i + 2, hi => simp at hi
  have hld := hI1.run_load (w := w) (b := bl) (o := j * 2) hxg rfl (fun h => by cases h)
  have hlv : ∀ (f : Array Field) (x : List Value), ldv (.struct f) x = .agg x.toArray := fun _ _ => rfl
  have hsz := mod.size
  have hone2 : ∀ c ∈ [Value.int .u32 (u[j]).1, tv], c.oneCell' = true := fun c hc => by
    simp at hc; rcases hc with rfl | rfl
    · rfl
    · exact htv.one
  obtain ⟨w5, hst, m5, s5, r5, t5⟩ := new_struct (z := zU) hI1 w [.int .u32 (u[j]).1, tv] rfl hone2
  unfold cGotU
  refine W_seq' fun K hK => W_ops fun τ => ?_
  simp (decide := true) (disch := omega) only [runR, step_alloc, step_load, step_store, step_indexAddr, stepV_ok, stepU_ok, ev_tmp, put_at, envOf_var, sel_true, sel_false, Nat.reduceBeqDiff, BEq.rfl, Nat.reduceAdd, Nat.zero_add, f9, f11, run_indexAt hI.lg hI1, hld, hlv, hI1.run_alloc, hst]
  refine hK _ _ (gen_locs fun σ5 hσ => ?_)
  have g2 := hσ 2
  have g3 := hσ 3
  have g9 := hσ 9
  have g10 := hσ 10
  have g11 := hσ 11
  have g13 := hσ 13
  simp (decide := true) only [put_at, envOf_var, sel_true, sel_false, Nat.reduceBeqDiff, BEq.rfl, Nat.reduceAdd, f2, f3, f9, f10, f11] at g2 g3 g9 g10 g11 g13
  clear hσ hK K hst hld
  have hv : ∀ k, ¬ notBlk v k → w4.heap.size ≤ k ∧ k < w.heap.size := fun k hk => ho.blk hk
  have cell4 : w5.cell? ⟨b3, 4, none⟩ = some v := by rw [m5.cell _ _ (by omega) (fun h => h)]; exact hr 4 v rfl
  have d0 : w5.cell? ⟨w.heap.size, 0, none⟩ = some (.int .u32 (u[j]).1) := r5 0 _ rfl
  have d1 : w5.cell? ⟨w.heap.size, 1, none⟩ = some tv := r5 1 _ rfl
  have hbu := tagBuild hS w5 (u[j]).1 htv.one
  have hbs := run_bs1 (w := w5) (v := .agg #[.int .u32 (u[j]).1, tv]) (cs := [.int .u32 (u[j]).1, tv]) hS.lg hS1 rfl rfl (by decide) (by decide)
  have e6 : ∀ ρ : Env, (#[(0, T 3), (1, T 5)] : Array (Nat × Operand)).map (fun p => (p.1, ev ρ p.2)) = #[(0, ρ 3), (1, ρ 5)] := fun ρ => by simp
  have e7 : ∀ ρ : Env, (#[(0, T 6)] : Array (Nat × Operand)).map (fun p => (p.1, ev ρ p.2)) = #[(0, ρ 6)] := fun ρ => by simp
  refine W_ops fun τ => ?_
  simp (decide := true) (disch := omega) only [runR, step_build, step_buildSlice, step_load, step_store, step_fieldAddr, step_append, stepV_ok, ev_tmp, put_at, envOf_var, sel_true, sel_false, Nat.reduceBeqDiff, BEq.rfl, ldc_some, Nat.reduceAdd, Nat.add_zero, Nat.zero_add, g3, g13, hS.h4.run, hS.lg.run_load1 rfl, cell4, hI.g0.run, hI.g1.run, B.uint32.run_load1 rfl, B.Lu8.run_load1 rfl, d0, d1, e6, e7, hbu, hbs]
  obtain ⟨w7, hw7⟩ : ∃ w7, w7 = w5.alloc (.cells [Value.int .u32 (u[j]).1, tv].toArray N.t_spec_Tag) := ⟨_, rfl⟩
  have m7 : Mod w5 w7 none' := by rw [hw7]; exact Mod.alloc _ _ _
  have s7 : w7.heap.size = w5.heap.size + 1 := by rw [hw7]; exact alloc_size _ _
  have r7 : w7.rangeAt w5.heap.size 0 [.int .u32 (u[j]).1, tv] := by rw [hw7]; exact rangeAt_alloc w5 _ _ _
  rw [← hw7]
  clear hw7 hbs
  have m07 : Mod w w7 none' := m5.trans' m7
  have ho7 : Own w7 w4.heap.size 2 v j cs0 := ho.stay m07 fun _ _ _ h => h
  obtain ⟨v', w8, happ, ho8, m8, hone', hnb⟩ := run_append1 (P := P) (ty := N.t_Lspec_Tag) (m := 1) (cb := 1) hS.lg hS1 ho7 r7 rfl hone2 (by omega) rfl hrep.ones (by omega) (by decide) (by decide)
  have s8 := m8.size
  have nb3 : ¬ ¬ notBlk v b3 := fun h => by have := (hv b3 h).1; omega
  have h8 : w8.there b3 0 5 := m8.there (by omega) (m07.there (by omega) ht)
  have t8 : w8.there b3 4 1 := fun i hi => by
    have := h8 (4 + i) (by omega)
    rwa [show 0 + (4 + i) = 4 + i by omega] at this
  have hsto := hS.lg.run_store1 (w := w8) (b := b3) (o := 4) (v := v') hone' t8
  simp (decide := true) only [stepV_ok, stepU_ok, happ, hsto]
  clear happ
  obtain ⟨w9, hw9⟩ : ∃ w9, w9 = w8.setCell ⟨b3, 4, none⟩ v' := ⟨_, rfl⟩
  have m9 : Mod w8 w9 fun k _ => k = b3 := by rw [hw9]; exact Mod.setCell fun _ => rfl
  have s9 : w9.heap.size = w8.heap.size := by rw [hw9]; simp [World.setCell]
  have r8 : w8.rangeAt b3 0 [n, vs, nl, v1, v] := m8.rangeAt (by omega) (fun _ _ _ => nb3) (rangeAt_stay m07 hr)
  have r9 : w9.rangeAt b3 0 [n, vs, nl, v1, v'] := by
    have q := rangeAt_setCells [v'] 4 w8 [v] ((rangeAt_append (cs := [n, vs, nl, v1])).1 r8).2 (by simp)
    rw [hw9]
    refine (rangeAt_append (cs := [n, vs, nl, v1])).2 ⟨?_, q⟩
    exact (Mod.setCell (M := rng b3 4 1) fun _ => ⟨rfl, Nat.le_refl _, by omega⟩ : Mod w8 _ (rng b3 4 1)).rangeAt (by omega) (fun i h1 h2 h => by have := h.2.1; simp at h2; omega) ((rangeAt_append (cs := [n, vs, nl, v1])).1 r8).1
  rw [← hw9]
  clear hw9 hsto
  obtain ⟨q1, q2, q3, q4⟩ := own_step (w := w) (w6 := w5) (w7 := w7) (w8 := w8) (w9 := w9) (G := G) (lo := w4.heap.size) (v := v) (v' := v') (b3 := b3) (a := w5.heap.size) hG hb3 hsz m5 (by omega) m7 m8 m9 hv hnb
  refine gen_locs (K := fun σ' w' => Q .normal σ' w') fun σ9 hσ => hQ _ _ ?_ ?_
  · have := hσ 11
    simp (decide := true) only [put_at, envOf_var, sel_false, Nat.reduceBeqDiff, Nat.reduceAdd, g11] at this
    exact this
  · have p2 := hσ 2
    have p3 := hσ 3
    have p9 := hσ 9
    have p10 := hσ 10
    simp (decide := true) only [put_at, envOf_var, sel_false, Nat.reduceBeqDiff, Nat.reduceAdd, g2, g3, g9, g10] at p2 p3 p9 p10
    refine ⟨by rw [upd_ne (by decide)]; exact p2, by rw [upd_ne (by decide)]; exact p3, by rw [upd_ne (by decide)]; exact p9, by rw [upd_ne (by decide)]; exact p10, upd_same _ _ _, by omega, ?_, v', cs0 ++ [.int .u32 (u[j]).1, tv], r9, m9.there (by omega) h8, ?_, ?_⟩
    · exact mod.trans q1 fun k _ hk h => h.elim id fun h => h.elim (fun h => by have := (hv k h).1; omega) id
    · exact ho8.stay m9 (fun k o h e => by have : k = b3 := e; have := ho8.blk h; omega)
    · rw [List.take_add_one, hx]
      have htv5 : tagV w5 (GN G w5.heap.size w5.heap.size) tv (u[j]).2 := (htv.mod m5 fun k hk => ⟨by have := hG k hk; omega, fun _ h => h, .inl hk⟩)
      exact (UsG.mod q1 q2 hrep).append ⟨tv, [], rfl, htv5.mod q3 q4, rfl⟩
end
end Go.Kf

