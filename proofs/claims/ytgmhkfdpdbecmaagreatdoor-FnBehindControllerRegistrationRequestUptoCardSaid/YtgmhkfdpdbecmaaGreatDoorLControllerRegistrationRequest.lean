/- A message that is written behind octets leaves these as they are, and follows them (laws.FnBehindControllerRegistrationRequest): the second form's tied card is proved, at every version number, all octets ahead and every tree whose bulk is at most 1048576; no other condition. -/
import Derived.Test.YtgmhkfdpdbecmaaGreatDoorKs
set_option linter.unusedSimpArgs false
set_option linter.unusedVariables false
set_option maxRecDepth 100000
namespace Go.Kf
open Go

def rControllerRegistrationRequestListener : Fds := .cons .all (.txt .str) (.cons .all (.txt .str) (.cons .all (.pr .u16 none) (.cons .all (.pr .i16 none) (.tags))))
theorem df_ControllerRegistrationRequestListener : FOk Go.Proofs.Tryz.prog 212 1 (seqs (rControllerRegistrationRequestListener.dfl NS 172 0)) [] := ⟨Go.Proofs.Tryz.f212, _, [0], Go.Proofs.Tryz.func212, rfl, by kernel_rfl, by kernel_rfl, by decide, by kernel_rfl, by kernel_rfl⟩

def rControllerRegistrationRequestFeature : Fds := .cons .all (.txt .str) (.cons .all (.pr .i16 none) (.cons .all (.pr .i16 none) (.tags)))
theorem df_ControllerRegistrationRequestFeature : FOk Go.Proofs.Tryz.prog 213 1 (seqs (rControllerRegistrationRequestFeature.dfl NS 175 0)) [] := ⟨Go.Proofs.Tryz.f213, _, [0], Go.Proofs.Tryz.func213, rfl, by kernel_rfl, by kernel_rfl, by decide, by kernel_rfl, by kernel_rfl⟩

def mS : Msg := ⟨169, 69, 166, 0, false, .cons .all (.pr .i32 none) (.cons .all (.pr .uuid none) (.cons .all (.pr .bool none) (.cons .all (.arr 166 none (.row 172 170 212 (.cons .all (.txt .str) (.cons .all (.txt .str) (.cons .all (.pr .u16 none) (.cons .all (.pr .i16 none) (.tags))))))) (.cons .all (.arr 167 none (.row 175 173 213 (.cons .all (.txt .str) (.cons .all (.pr .i16 none) (.cons .all (.pr .i16 none) (.tags)))))) (.tags)))))⟩
def dS : zyt where
  newP := 107
  setV := 111
  maxV := 108
  readF := 112
  readf := 167
  maxI := 45
  tellI := 47
theorem rd_m : FOk Go.Proofs.Tryz.prog 167 3 (mS.gen NS true) [.var 3] := ⟨Go.Proofs.Tryz.f167, _, [0, 1, 2, 6, 7, 8, 9, 10, 11, 12, 13, 14, 15, 16, 66, 70, 75, 17, 81, 18, 19, 20, 90, 91, 94, 21, 101, 102, 105, 22, 23, 122, 24, 25, 26, 137, 141, 146, 27, 152, 28, 29, 30, 161, 162, 165, 31, 32, 182, 192], Go.Proofs.Tryz.func167, rfl, by kernel_rfl, by kernel_rfl, by decide, by kernel_rfl, by kernel_rfl⟩
theorem df_m : FOk Go.Proofs.Tryz.prog 166 1 (seqs (mS.fs.dfl NS mS.tT 1)) [] := ⟨Go.Proofs.Tryz.f166, _, [0], Go.Proofs.Tryz.func166, rfl, by kernel_rfl, by kernel_rfl, by decide, by kernel_rfl, by kernel_rfl⟩
theorem mt : MsgT Go.Proofs.Tryz.prog NS mS true := msgT_of baseS fnsS (by kernel_rfl) (by kernel_rfl) (by kernel_rfl) ⟨trivial, ⟨trivial, ⟨trivial, ⟨⟨df_ControllerRegistrationRequestListener, ⟨trivial, ⟨trivial, ⟨trivial, ⟨trivial, trivial⟩⟩⟩⟩⟩, ⟨⟨df_ControllerRegistrationRequestFeature, ⟨trivial, ⟨trivial, ⟨trivial, trivial⟩⟩⟩⟩, trivial⟩⟩⟩⟩⟩ df_m
theorem fd_new : FOk Go.Proofs.Tryz.prog 107 0 (c_new NS mS.tT mS.dflt) [.var 0] := ⟨Go.Proofs.Tryz.f107, _, [0, 1], Go.Proofs.Tryz.func107, rfl, by kernel_rfl, by kernel_rfl, by decide, by kernel_rfl, by kernel_rfl⟩
theorem fd_set : FOk Go.Proofs.Tryz.prog 111 2 (c_set NS mS.tT) [] := ⟨Go.Proofs.Tryz.f111, _, [0, 1], Go.Proofs.Tryz.func111, rfl, by kernel_rfl, by kernel_rfl, by decide, by kernel_rfl, by kernel_rfl⟩
theorem door : DoorT Go.Proofs.Tryz.prog NS mS true dS where
  msg := mt
  vin := rfl
  ti := (tsB_ok (by' := bytesOf Go.Proofs.Tryz.prog 169) (by kernel_rfl)).imp fun _ h => ⟨_, h⟩
  newP := fd_new
  setV := fd_set
  readf := rd_m
  tell := fun h => absurd rfl h
  dok := ⟨⟨_, rfl, by decide⟩, ⟨⟨List.replicate 16 0, rfl, rfl⟩, ⟨⟨_, rfl⟩, ⟨⟨⟨_, rfl, by decide⟩, ⟨⟨_, rfl, by decide⟩, trivial⟩⟩, ⟨⟨⟨_, rfl, by decide⟩, ⟨⟨_, rfl, by decide⟩, trivial⟩⟩, trivial⟩⟩⟩⟩⟩
  shB := by kernel_rfl
  cnt := by decide
theorem fd_rf : FOk Go.Proofs.Tryz.prog 112 2 (c_rf NS mS.pT 167 false) [.var 2] := ⟨Go.Proofs.Tryz.f112, _, [0, 1, 4], Go.Proofs.Tryz.func112, rfl, by kernel_rfl, by kernel_rfl, by decide, by kernel_rfl, by kernel_rfl⟩
theorem fd_mv : FOk Go.Proofs.Tryz.prog 108 1 (c_max 0) [.var 1] := ⟨Go.Proofs.Tryz.f108, _, [0, 2], Go.Proofs.Tryz.func108, rfl, by kernel_rfl, by kernel_rfl, by decide, by kernel_rfl, by kernel_rfl⟩
theorem fd_mi : FOk Go.Proofs.Tryz.prog 45 0 (c_maxI NS mS.pT 107 108) [.var 0] := ⟨Go.Proofs.Tryz.f45, _, [0], Go.Proofs.Tryz.func45, rfl, by kernel_rfl, by kernel_rfl, by decide, by kernel_rfl, by kernel_rfl⟩
theorem fd_tellI : FOk Go.Proofs.Tryz.prog 47 3 (zzv NS mS.pT 107 111 112 113) [.var 3, .var 4] := ⟨Go.Proofs.Tryz.f47, _, [0, 1, 2, 6, 7, 8, 18], Go.Proofs.Tryz.func47, rfl, by kernel_rfl, by kernel_rfl, by decide, by kernel_rfl, by kernel_rfl⟩
theorem fd_app : FOk Go.Proofs.Tryz.prog 113 2 (mS.appC NS AN) [.var 2] := ⟨Go.Proofs.Tryz.f113, _, [0, 1, 4, 5, 6, 7, 8, 9, 10, 56, 66, 67, 68, 11, 12, 13, 77, 14, 88, 15, 16, 109, 17, 128, 138, 139, 140, 18, 19, 20, 149, 21, 22, 170, 185], Go.Proofs.Tryz.func113, rfl, by kernel_rfl, by kernel_rfl, by decide, by kernel_rfl, by kernel_rfl⟩
theorem aokS : mS.fs.aok Go.Proofs.Tryz.prog NS AN := ⟨⟨by decide, fun h => nomatch h⟩, ⟨⟨by decide, fun _ => by decide⟩, ⟨⟨by decide, fun h => nomatch h⟩, ⟨⟨zij (by kernel_rfl), el_ti (fx := true) baseS fnsS _ (by kernel_rfl) ⟨df_ControllerRegistrationRequestListener, ⟨trivial, ⟨trivial, ⟨trivial, ⟨trivial, trivial⟩⟩⟩⟩⟩, ⟨by decide, by decide⟩, ⟨(Fds.ok_of (fx := true) (Tt := 172) (idx := 0) (off := 0) baseS fnsS rControllerRegistrationRequestListener (by kernel_rfl) ⟨trivial, ⟨trivial, ⟨trivial, ⟨trivial, trivial⟩⟩⟩⟩).2.1, ⟨⟨by decide, by decide, fun h => nomatch h⟩, ⟨⟨by decide, by decide, fun h => nomatch h⟩, ⟨⟨by decide, fun h => nomatch h⟩, ⟨⟨by decide, fun h => nomatch h⟩, trivial⟩⟩⟩⟩⟩⟩, ⟨⟨zij (by kernel_rfl), el_ti (fx := true) baseS fnsS _ (by kernel_rfl) ⟨df_ControllerRegistrationRequestFeature, ⟨trivial, ⟨trivial, ⟨trivial, trivial⟩⟩⟩⟩, ⟨by decide, by decide⟩, ⟨(Fds.ok_of (fx := true) (Tt := 175) (idx := 0) (off := 0) baseS fnsS rControllerRegistrationRequestFeature (by kernel_rfl) ⟨trivial, ⟨trivial, ⟨trivial, trivial⟩⟩⟩).2.1, ⟨⟨by decide, by decide, fun h => nomatch h⟩, ⟨⟨by decide, fun h => nomatch h⟩, ⟨⟨by decide, fun h => nomatch h⟩, trivial⟩⟩⟩⟩⟩, trivial⟩⟩⟩⟩⟩

def sc_sControllerRegistrationRequestListener : List SC := [.mk [(0, 8), (2, -1), (3, -1), (4, -1)] none [], .mk [(0, 8), (2, -1), (3, -1), (4, -1)] none [], .mk [(0, 5), (2, -1), (3, -1), (4, -1)] none [], .mk [(0, 2), (2, -1), (3, -1), (4, -1)] none []]
theorem fsc_sControllerRegistrationRequestListener : FOk Go.Proofs.Tryz.prog 109 0 (c_flds MS sc_sControllerRegistrationRequestListener) [.var 0] := ⟨Go.Proofs.Tryz.f109, _, [0], Go.Proofs.Tryz.func109, rfl, by kernel_rfl, by kernel_rfl, by decide, by kernel_rfl, by kernel_rfl⟩
theorem mk_sControllerRegistrationRequestListener : MkOk Go.Proofs.Tryz.prog 109 (SC.flds sc_sControllerRegistrationRequestListener) := mk_flds (l := sc_sControllerRegistrationRequestListener) spT (by kernel_rfl) ⟨rfl, ⟨rfl, ⟨rfl, ⟨rfl, trivial⟩⟩⟩⟩ fsc_sControllerRegistrationRequestListener

def sc_sControllerRegistrationRequestFeature : List SC := [.mk [(0, 8), (2, -1), (3, -1), (4, -1)] none [], .mk [(0, 2), (2, -1), (3, -1), (4, -1)] none [], .mk [(0, 2), (2, -1), (3, -1), (4, -1)] none []]
theorem fsc_sControllerRegistrationRequestFeature : FOk Go.Proofs.Tryz.prog 110 0 (c_flds MS sc_sControllerRegistrationRequestFeature) [.var 0] := ⟨Go.Proofs.Tryz.f110, _, [0], Go.Proofs.Tryz.func110, rfl, by kernel_rfl, by kernel_rfl, by decide, by kernel_rfl, by kernel_rfl⟩
theorem mk_sControllerRegistrationRequestFeature : MkOk Go.Proofs.Tryz.prog 110 (SC.flds sc_sControllerRegistrationRequestFeature) := mk_flds (l := sc_sControllerRegistrationRequestFeature) spT (by kernel_rfl) ⟨rfl, ⟨rfl, ⟨rfl, trivial⟩⟩⟩ fsc_sControllerRegistrationRequestFeature

def sc_ControllerRegistrationRequest : List SC := [.mk [(0, 3), (2, -1), (3, -1), (4, -1)] none [], .mk [(0, 7), (2, -1), (3, -1), (4, -1)] none [], .mk [(0, 0), (2, -1), (3, -1), (4, -1)] none [], .mk [(0, 11), (2, -1), (3, -1), (4, -1), (6, 10)] (some 109) sc_sControllerRegistrationRequestListener, .mk [(0, 11), (2, -1), (3, -1), (4, -1), (6, 10)] (some 110) sc_sControllerRegistrationRequestFeature]
theorem fsc_ControllerRegistrationRequest : FOk Go.Proofs.Tryz.prog 46 0 (c_msg MS sc_ControllerRegistrationRequest (0)) [.cell 0 MS.zas] := ⟨Go.Proofs.Tryz.f46, _, [0], Go.Proofs.Tryz.func46, rfl, by kernel_rfl, by kernel_rfl, by decide, by kernel_rfl, by kernel_rfl⟩
theorem lawT : LawBB Go.Proofs.Tryz.prog NS MS AN mS dS 113 0 46 sc_ControllerRegistrationRequest (0) := ⟨door, fd_rf, fd_mv, fd_mi, fd_tellI, fd_app, aokS, by decide, by decide, by decide, fsc_ControllerRegistrationRequest, by kernel_rfl, ⟨rfl, ⟨rfl, ⟨rfl, ⟨⟨mk_sControllerRegistrationRequestListener, fsc_sControllerRegistrationRequestListener.has⟩, ⟨⟨mk_sControllerRegistrationRequestFeature, fsc_sControllerRegistrationRequestFeature.has⟩, trivial⟩⟩⟩⟩⟩, by kernel_rfl, by kernel_rfl⟩
theorem fd_law : FOk Go.Proofs.Tryz.prog 12 3 (c_lawB NS MS 35 dS.maxI dS.tellI 46) [.var 4] := ⟨Go.Proofs.Tryz.f12, _, [0, 1, 2, 5, 6, 20, 7, 23, 8, 9, 30, 10, 11, 12], Go.Proofs.Tryz.func12, rfl, by kernel_rfl, by kernel_rfl, by decide, by kernel_rfl, by kernel_rfl⟩
end Go.Kf

namespace Go.Proofs.YtgmhkfdpdbecmaaGreatDoor.fnBehindControllerRegistrationRequest
open Go.ChangeShapes Go.WideShapes Go.ChangeAt Go.RowKit Go.Kf

theorem reads (os : Os) {H : Type} (enc : TypeId × Value → H) : ∃ places, DataW.whole enc Go.Proofs.Tryz.prog ((World.doorLaid Go.Proofs.Tryz.prog 400 os).forCall (fun _ _ => 0) ⟨#[], #[.int .u8 0, .slice none 0 0, .agg #[.int .i64 0, .slice none 0 0, .bool false, .slice none 0 0, .slice none 0 0]], []⟩).memory Go.Proofs.Tryz.f12.params.toList Rows.fnBehindControllerRegistrationRequestSpec.vars false #[Value.int .u8 0, .slice none 0 0, .agg #[.int .i64 0, .slice none 0 0, .bool false, .slice none 0 0, .slice none 0 0]].toList 8 = some ([.lit (.int .u8 0), .nil, .agg [.lit (.int .i64 0), .nil, .lit (.bool false), .nil, .nil]], [], places) :=
  ⟨[], by kernel_rfl⟩
set_option maxHeartbeats 4000000 in
theorem lifted (os : Os) (started : os.Started) (H : Type) (enc : TypeId × Value → H) (F : Stop.Interp) :
    ReturnsInHanded {} Go.Proofs.Tryz.checked os 12 .any ((Rows.OpenSpec.upto Rows.fnBehindControllerRegistrationRequestSpec).preRow enc Go.Proofs.Tryz.prog Go.Proofs.Tryz.f12 Rows.fnBehindControllerRegistrationRequestUptoRow.domain false Rows.fnBehindControllerRegistrationRequestUptoRow.laid) (((Rows.OpenSpec.upto Rows.fnBehindControllerRegistrationRequestSpec).at F).post enc Go.Proofs.Tryz.prog Go.Proofs.Tryz.f12 false true false false) := by
  obtain ⟨places, hx⟩ := reads os enc
  refine returnsInHanded_of_row (C := Go.Proofs.Tryz.checked) (s := Rows.OpenSpec.upto Rows.fnBehindControllerRegistrationRequestSpec) own started (by kernel_rfl) Go.Proofs.Tryz.func12
    ⟨World.doorLaid Go.Proofs.Tryz.prog 400 os, fun _ _ => 0, ⟨#[], #[.int .u8 0, .slice none 0 0, .agg #[.int .i64 0, .slice none 0 0, .bool false, .slice none 0 0, .slice none 0 0]], []⟩, rfl, shaped os _, rfl, (Input.okWide_of_okWideB (by kernel_rfl)).2,
      OpenSpec.preRow_of_cond 8 hx (by kernel_rfl) (fun k hk => by cases hk; kernel_rfl) (by kernel_rfl) (door_met os _), by
        simp only [Assume.holds]
        exact ⟨by simp, by simp, fun _ => Modest.zero, by simp, by simp⟩⟩ ?_
  intro W base args ds gs before hval0 hW _ hcond _ hL _ _
  have hval : ∀ (j : Nat) t v, Go.Proofs.Tryz.f12.params[j]? = some t → args[j]? = some v → Value.okWide Go.Proofs.Tryz.prog W .any base t v := hval0
  have hW' := hW
  obtain ⟨p, q, hA0, hV, rfl, hfz, hnd⟩ := hW
  have hA : DataW.TrodAll enc Go.Proofs.Tryz.prog W 0 (fun _ => true) true Go.Proofs.Tryz.f12.params.toList args.toList ds p := hA0
  rw [Go.Proofs.Tryz.params12] at hA hval
  obtain ⟨v0, vs0, d0, ds0, p0, q0, hargs, rfl, rfl, h0, r0⟩ := trodAll_cons hA
  obtain ⟨v1, vs1, d1, ds1, p1, q1, rfl, rfl, rfl, h1, r1⟩ := trodAll_cons r0
  obtain ⟨v2, vs2, d2, ds2, p2, q2, rfl, rfl, rfl, h2, r2⟩ := trodAll_cons r1
  obtain ⟨rfl, rfl, rfl⟩ := trodAll_nil r2
  obtain rfl : args = #[v0, v1, v2] := by cases args; simp_all
  obtain ⟨rfl, rfl⟩ := trodVars_none hV
  obtain ⟨n0, rfl, rfl, rfl, w0⟩ := open_int Go.Proofs.Tryz.underlying5 (hval 0 5 v0 rfl rfl) h0
  obtain ⟨dl, had⟩ := argOct_of Go.Proofs.Tryz.underlying22 Go.Proofs.Tryz.underlying5 (by kernel_rfl) (hval 1 22 v1 rfl rfl) h1
  obtain ⟨t, ct, rfl, ht, hwf, hsz⟩ := treeArg_of treeO baseS specT (bulkF H) (hval 2 26 v2 rfl rfl) h2
  have hc := hcond _ rfl
  have hsz2 : szT t ≤ 1048576 := by
    have hc2 : Rows.uptoBulkAll ([.lit (.int .u8 n0), d1, d2] ++ []) ≤ 1048576 := of_decide_eq_true hc
    simp only [List.cons_append, List.nil_append, Rows.uptoBulkAll] at hc2
    omega
  have lt1 : ∀ x ∈ p1, x.block < W.heap.size := by obtain ⟨m, hm⟩ := h1; exact DataW.trod_lt m _ _ _ hm
  have lt2 : ∀ x ∈ p2, x.block < W.heap.size := by obtain ⟨m, hm⟩ := h2; exact DataW.trod_lt m _ _ _ hm
  rw [MakeChecks.laidMetH_plain _ _ _ (by kernel_rfl)] at hL
  obtain ⟨a1, s1, hv1, _⟩ := laid_sentinel hL gO gT Go.Proofs.Tryz.underlying49 rowP Go.Proofs.Tryz.underlying264 Go.Proofs.Tryz.underlying282 rfl rfl Go.Proofs.Tryz.underlying9 cS cStr
  have hg : W.cell? ⟨0, 0, none⟩ = some (.iface 264 (.pointer (some a1))) := by simpa using World.var?_cell gO hv1 0
  have hn0 : 0 ≤ n0 ∧ n0 ≤ 255 := by
    simp [Lit.wf, IntKind.min, IntKind.max, IntKind.signed, IntKind.bits] at w0
    omega
  clear hA0 hval0
  refine Calls.mono (call_lawB baseS fnsS spT thSZ thSW apC (by decide) (by decide) lawT fd_law (n := n0) hn0 had ht hwf hsz2 hg) fun e W' ⟨v', he, hv', hm⟩ => ?_
  subst he hv'
  have bel := hm.below
  exact ⟨_, rfl, _, _, _, [], _, [], hW', trodAll_mk1 (shut_bool Go.Proofs.Tryz.underlying4 _), trodAll_cons_mk (shut_int Go.Proofs.Tryz.underlying5 w0) (trodAll_cons_mk (Below.trod laidOut (by kernel_rfl) (of_decide_eq_true (by kernel_rfl)) h1 bel lt1) (trodAll_cons_mk (Below.trod laidOut (by kernel_rfl) (of_decide_eq_true (by kernel_rfl)) h2 bel lt2) trodAll_mk0)), rfl, bel.frame _, fun h => by cases h⟩

set_option maxHeartbeats 4000000 in
theorem joined : joinedFacts Go.Proofs.Tryz.prog 12 Go.Proofs.Tryz.f12 (Rows.OpenSpec.upto Rows.fnBehindControllerRegistrationRequestSpec).bare Rows.fnBehindControllerRegistrationRequestUptoRow = true := by
  unfold joinedFacts
  exact bandT (bandT (bandT (bandT (bandT (bandT (bandT (bandT (bandT (bandT (bandT (bandT (bandT (bandT (bandT (bandT (bandT (bandT (bandT (bandT (bandT (bandT (bandT (bandT (bandT (bandT (bandT (bandT (bandT (bandT (bandT (by as_aux_lemma => kernel_rfl) laidOut) mapsRowedS) (by as_aux_lemma => kernel_rfl)) (by as_aux_lemma => kernel_rfl)) (by as_aux_lemma => kernel_rfl)) (by as_aux_lemma => kernel_rfl)) (by as_aux_lemma => kernel_rfl)) (by as_aux_lemma => kernel_rfl)) (by as_aux_lemma => kernel_rfl)) (by as_aux_lemma => kernel_rfl)) (by as_aux_lemma => kernel_rfl)) (by as_aux_lemma => kernel_rfl)) (by as_aux_lemma => kernel_rfl)) (by as_aux_lemma => kernel_rfl)) (by as_aux_lemma => kernel_rfl)) (by as_aux_lemma => kernel_rfl)) (by as_aux_lemma => kernel_rfl)) (by as_aux_lemma => kernel_rfl)) (by as_aux_lemma => kernel_rfl)) (by as_aux_lemma => kernel_rfl)) (by as_aux_lemma => kernel_rfl)) plainKeysS) (by as_aux_lemma => kernel_rfl)) stopsHeardS) bigEnter) bigLifts) bigMake) (by as_aux_lemma => kernel_rfl)) (by as_aux_lemma => kernel_rfl)) (by as_aux_lemma => kernel_rfl)) (by as_aux_lemma => kernel_rfl)
theorem named : Go.Proofs.Tryz.prog.funcNamed Rows.fnBehindControllerRegistrationRequestUptoRow.func = some 12 := by kernel_rfl
theorem isInst : Go.Proofs.Tryz.f12.isInstance Go.Proofs.Tryz.prog Rows.fnBehindControllerRegistrationRequestUptoRow.origin Rows.fnBehindControllerRegistrationRequestUptoRow.targs := of_decide_eq_true (by kernel_rfl)
theorem isWrap : Go.Proofs.Tryz.f12.isWrapper Go.Proofs.Tryz.prog Rows.fnBehindControllerRegistrationRequestUptoRow.wrapper Rows.fnBehindControllerRegistrationRequestUptoRow.mainSum := by unfold Func.isWrapper; first | (rw [if_pos (by decide +kernel)]; kernel_rfl) | (rw [if_neg (by decide +kernel)]; exact ⟨rfl, rfl⟩)
theorem row : Rows.FnBehindControllerRegistrationRequestUptoSaid :=
  OpenClaim.holds_of_cond 12 Go.Proofs.Tryz.f12 rfl rfl rfl rfl rfl rfl rfl ⟨rfl, rfl, rfl, rfl, rfl⟩ rfl rfl rfl rfl rfl named Go.Proofs.Tryz.func12 joined
    isInst isWrap
    (fun os started H enc _ F => by rw [OpenClaim.pre_eq_preRow]; exact lifted os started H enc F)
end Go.Proofs.YtgmhkfdpdbecmaaGreatDoor.fnBehindControllerRegistrationRequest

namespace Go.Proofs.YtgmhkfdpdbecmaaGreatDoor
open Go.Kf
set_option maxHeartbeats 4000000 in
theorem fnBehindControllerRegistrationRequest_card : Rows.FnBehindControllerRegistrationRequestUptoCardSaid :=
  Claim7.holds_tied_plain_at .later [] [.sentinel] true Rows.fnBehindControllerRegistrationRequestUptoCard.stood.harness false
    fnBehindControllerRegistrationRequest.row (fun _ h => by cases h) (by as_aux_lemma => kernel_rfl) (fun _ h => by cases h) fnBehindControllerRegistrationRequestUpto_row_tie rfl ⟨rfl, rfl⟩ mainS rfl
    (fun f fn hf hfn => by
      obtain rfl : f = 12 := Option.some.inj (fnBehindControllerRegistrationRequest.named.symm.trans hf) |>.symm
      obtain rfl : fn = Go.Proofs.Tryz.f12 := (Option.some.inj (Go.Proofs.Tryz.func12.symm.trans hfn)).symm
      refine ⟨looksS, fun j t ht => ?_⟩
      rw [Go.Proofs.Tryz.params12] at ht
      rcases j with _ | _ | _ | j
      · obtain rfl : 5 = t := by simpa using ht
        exact (show Go.Proofs.Tryz.prog.wantsStandIn 5 = false by kernel_rfl)
      · obtain rfl : 22 = t := by simpa using ht
        exact (show Go.Proofs.Tryz.prog.wantsStandIn 22 = false by kernel_rfl)
      · obtain rfl : 26 = t := by simpa using ht
        exact (show Go.Proofs.Tryz.prog.wantsStandIn 26 = false by kernel_rfl)
      · simp at ht)
    (by as_aux_lemma => kernel_rfl)
#print axioms fnBehindControllerRegistrationRequest_card
end Go.Proofs.YtgmhkfdpdbecmaaGreatDoor
