/- A message that is written behind octets leaves these as they are, and follows them (laws.FnBehindConsumerGroupHeartbeatResponse): the second form's tied card is proved, at every version number, all octets ahead and every tree whose bulk is at most 1048576; no other condition. -/
import Derived.Test.YtgiejoemfbeaeaaGreatDoorKs
set_option linter.unusedSimpArgs false
set_option linter.unusedVariables false
set_option maxRecDepth 100000
namespace Go.Kf
open Go

def rConsumerGroupHeartbeatResponseAssignmentTopic : Fds := .cons .all (.pr .uuid none) (.cons .all (.arr 95 none (.pr .i32)) (.tags none))
theorem df_ConsumerGroupHeartbeatResponseAssignmentTopic : FOk Go.Proofs.Tryz.prog 85 1 (seqs (rConsumerGroupHeartbeatResponseAssignmentTopic.dfl NS 97 0)) [] := ⟨Go.Proofs.Tryz.f85, _, [0], Go.Proofs.Tryz.func85, rfl, by kernel_rfl, by kernel_rfl, by decide, by kernel_rfl, by kernel_rfl⟩

def rConsumerGroupHeartbeatResponseAssignment : Fds := .cons .all (.arr 90 none (.row 97 93 85 (.cons .all (.pr .uuid none) (.cons .all (.arr 95 none (.pr .i32)) (.tags none))))) (.tags none)
theorem df_ConsumerGroupHeartbeatResponseAssignment : FOk Go.Proofs.Tryz.prog 84 1 (seqs (rConsumerGroupHeartbeatResponseAssignment.dfl NS 92 0)) [] := ⟨Go.Proofs.Tryz.f84, _, [0], Go.Proofs.Tryz.func84, rfl, by kernel_rfl, by kernel_rfl, by decide, by kernel_rfl, by kernel_rfl⟩

def mS : Msg := ⟨87, 53, 49, 0, false, .cons .all (.pr .i32 none) (.cons .all (.pr .i16 none) (.cons .all (.txt .nstr) (.cons .all (.txt .nstr) (.cons .all (.pr .i32 none) (.cons .all (.pr .i32 none) (.cons .all (.ptr 92 85 84 (.cons .all (.arr 90 none (.row 97 93 85 (.cons .all (.pr .uuid none) (.cons .all (.arr 95 none (.pr .i32)) (.tags none))))) (.tags none))) (.tags none)))))))⟩
def dS : zaao where
  newP := 24
  setV := 27
  maxV := 25
  readF := 28
  readf := 51
  maxI := 12
  tellI := 14
theorem rd_m : FOk Go.Proofs.Tryz.prog 51 3 (mS.gen NS true) [.var 3] := ⟨Go.Proofs.Tryz.f51, _, [0, 1, 2, 6, 7, 8, 9, 10, 11, 12, 13, 55, 56, 59, 14, 66, 67, 70, 15, 16, 17, 92, 18, 19, 20, 21, 22, 109, 113, 118, 23, 124, 24, 25, 26, 27, 28, 29, 143, 147, 152, 30, 158, 31, 171, 181, 186], Go.Proofs.Tryz.func51, rfl, by kernel_rfl, by kernel_rfl, by decide, by kernel_rfl, by kernel_rfl⟩
theorem df_m : FOk Go.Proofs.Tryz.prog 49 1 (seqs (mS.fs.dfl NS mS.tT 1)) [] := ⟨Go.Proofs.Tryz.f49, _, [0, 2], Go.Proofs.Tryz.func49, rfl, by kernel_rfl, by kernel_rfl, by decide, by kernel_rfl, by kernel_rfl⟩
theorem mt : MsgT Go.Proofs.Tryz.prog NS mS true := msgT_of baseS fnsS (by kernel_rfl) (by kernel_rfl) (by kernel_rfl) (by kernel_rfl) ⟨trivial, ⟨trivial, ⟨trivial, ⟨trivial, ⟨trivial, ⟨trivial, ⟨⟨df_ConsumerGroupHeartbeatResponseAssignment, ⟨⟨df_ConsumerGroupHeartbeatResponseAssignmentTopic, ⟨trivial, ⟨trivial, trivial⟩⟩⟩, trivial⟩⟩, trivial⟩⟩⟩⟩⟩⟩⟩ df_m
theorem fd_new : FOk Go.Proofs.Tryz.prog 24 0 (c_new NS mS.tT mS.dflt) [.var 0] := ⟨Go.Proofs.Tryz.f24, _, [0, 1], Go.Proofs.Tryz.func24, rfl, by kernel_rfl, by kernel_rfl, by decide, by kernel_rfl, by kernel_rfl⟩
theorem fd_set : FOk Go.Proofs.Tryz.prog 27 2 (c_set NS mS.tT) [] := ⟨Go.Proofs.Tryz.f27, _, [0, 1], Go.Proofs.Tryz.func27, rfl, by kernel_rfl, by kernel_rfl, by decide, by kernel_rfl, by kernel_rfl⟩
theorem door : DoorT Go.Proofs.Tryz.prog NS mS true dS where
  msg := mt
  vin := rfl
  ti := (zyj (by' := zxp Go.Proofs.Tryz.prog 87) (by kernel_rfl)).imp fun _ h => ⟨_, h⟩
  newP := fd_new
  setV := fd_set
  readf := rd_m
  tell := fun h => absurd rfl h
  dok := ⟨⟨_, rfl, by decide⟩, ⟨⟨_, rfl, by decide⟩, ⟨⟨_, rfl, by decide⟩, ⟨⟨_, rfl, by decide⟩, ⟨⟨rfl, ⟨⟨⟨List.replicate 16 0, rfl, rfl⟩, ⟨trivial, trivial⟩⟩, trivial⟩⟩, trivial⟩⟩⟩⟩⟩
  shB := by kernel_rfl
  cnt := by decide
theorem fd_rf : FOk Go.Proofs.Tryz.prog 28 2 (c_rf NS mS.pT 51 false) [.var 2] := ⟨Go.Proofs.Tryz.f28, _, [0, 1, 4], Go.Proofs.Tryz.func28, rfl, by kernel_rfl, by kernel_rfl, by decide, by kernel_rfl, by kernel_rfl⟩
theorem fd_mv : FOk Go.Proofs.Tryz.prog 25 1 (c_max 1) [.var 1] := ⟨Go.Proofs.Tryz.f25, _, [0, 2], Go.Proofs.Tryz.func25, rfl, by kernel_rfl, by kernel_rfl, by decide, by kernel_rfl, by kernel_rfl⟩
theorem fd_mi : FOk Go.Proofs.Tryz.prog 12 0 (c_maxI NS mS.pT 24 25) [.var 0] := ⟨Go.Proofs.Tryz.f12, _, [0], Go.Proofs.Tryz.func12, rfl, by kernel_rfl, by kernel_rfl, by decide, by kernel_rfl, by kernel_rfl⟩
theorem fd_tellI : FOk Go.Proofs.Tryz.prog 14 3 (zabx NS mS.pT 24 27 28 29) [.var 3, .var 4] := ⟨Go.Proofs.Tryz.f14, _, [0, 1, 2, 6, 7, 8, 18], Go.Proofs.Tryz.func14, rfl, by kernel_rfl, by kernel_rfl, by decide, by kernel_rfl, by kernel_rfl⟩
theorem fd_app : FOk Go.Proofs.Tryz.prog 29 2 (mS.appC NS AN) [.var 2] := ⟨Go.Proofs.Tryz.f29, _, [0, 1, 4, 5, 6, 7, 8, 9, 47, 10, 58, 11, 12, 13, 84, 14, 95, 105, 106, 107, 15, 16, 17, 18, 123, 133, 134, 135, 19, 20, 145, 160, 174], Go.Proofs.Tryz.func29, rfl, by kernel_rfl, by kernel_rfl, by decide, by kernel_rfl, by kernel_rfl⟩
theorem aokS : mS.fs.aok Go.Proofs.Tryz.prog NS AN := ⟨⟨by decide, ⟨(fun h => nomatch h), (fun h => absurd h (by decide))⟩⟩, ⟨⟨by decide, ⟨(fun h => nomatch h), (fun h => absurd h (by decide))⟩⟩, ⟨⟨by decide, by decide, (fun _ => by decide)⟩, ⟨⟨by decide, by decide, (fun _ => by decide)⟩, ⟨⟨by decide, ⟨(fun h => nomatch h), (fun h => absurd h (by decide))⟩⟩, ⟨⟨by decide, ⟨(fun h => nomatch h), (fun h => absurd h (by decide))⟩⟩, ⟨⟨zhi (by kernel_rfl), (Fds.ok_of (fx := true) (Tt := 92) (idx := 0) (off := 0) baseS fnsS rConsumerGroupHeartbeatResponseAssignment (by kernel_rfl) ⟨⟨df_ConsumerGroupHeartbeatResponseAssignmentTopic, ⟨trivial, ⟨trivial, trivial⟩⟩⟩, trivial⟩).2.1, ⟨⟨zhi (by kernel_rfl), el_ti (fx := true) baseS fnsS _ (by kernel_rfl) ⟨df_ConsumerGroupHeartbeatResponseAssignmentTopic, ⟨trivial, ⟨trivial, trivial⟩⟩⟩, ⟨by decide, by decide⟩, ⟨(Fds.ok_of (fx := true) (Tt := 97) (idx := 0) (off := 0) baseS fnsS rConsumerGroupHeartbeatResponseAssignmentTopic (by kernel_rfl) ⟨trivial, ⟨trivial, trivial⟩⟩).2.1, ⟨⟨by decide, ⟨(fun _ => by decide), (fun h => absurd h (by decide))⟩⟩, ⟨⟨zhi (by kernel_rfl), el_ti (fx := true) baseS fnsS _ (by kernel_rfl) trivial, ⟨by decide, by decide⟩, ⟨by decide, ⟨(fun h => nomatch h), (fun h => absurd h (by decide))⟩⟩⟩, trivial⟩⟩⟩⟩, trivial⟩⟩, trivial⟩⟩⟩⟩⟩⟩⟩

def sc_sConsumerGroupHeartbeatResponseAssignmentTopic : List SC := [.mk [(0, 7), (2, -1), (3, -1), (4, -1)] none [], .mk [(0, 11), (2, -1), (3, -1), (4, -1), (6, 3)] none []]
theorem fsc_sConsumerGroupHeartbeatResponseAssignmentTopic : FOk Go.Proofs.Tryz.prog 50 0 (c_flds MS sc_sConsumerGroupHeartbeatResponseAssignmentTopic) [.var 0] := ⟨Go.Proofs.Tryz.f50, _, [0], Go.Proofs.Tryz.func50, rfl, by kernel_rfl, by kernel_rfl, by decide, by kernel_rfl, by kernel_rfl⟩
theorem mk_sConsumerGroupHeartbeatResponseAssignmentTopic : MkOk Go.Proofs.Tryz.prog 50 (SC.flds sc_sConsumerGroupHeartbeatResponseAssignmentTopic) := mk_flds (l := sc_sConsumerGroupHeartbeatResponseAssignmentTopic) spT (by kernel_rfl) ⟨rfl, ⟨rfl, trivial⟩⟩ fsc_sConsumerGroupHeartbeatResponseAssignmentTopic

def sc_sConsumerGroupHeartbeatResponseAssignment : List SC := [.mk [(0, 11), (2, -1), (3, -1), (4, -1), (6, 10)] (some 50) sc_sConsumerGroupHeartbeatResponseAssignmentTopic]
theorem fsc_sConsumerGroupHeartbeatResponseAssignment : FOk Go.Proofs.Tryz.prog 26 0 (c_flds MS sc_sConsumerGroupHeartbeatResponseAssignment) [.var 0] := ⟨Go.Proofs.Tryz.f26, _, [0], Go.Proofs.Tryz.func26, rfl, by kernel_rfl, by kernel_rfl, by decide, by kernel_rfl, by kernel_rfl⟩
theorem mk_sConsumerGroupHeartbeatResponseAssignment : MkOk Go.Proofs.Tryz.prog 26 (SC.flds sc_sConsumerGroupHeartbeatResponseAssignment) := mk_flds (l := sc_sConsumerGroupHeartbeatResponseAssignment) spT (by kernel_rfl) ⟨⟨mk_sConsumerGroupHeartbeatResponseAssignmentTopic, fsc_sConsumerGroupHeartbeatResponseAssignmentTopic.has⟩, trivial⟩ fsc_sConsumerGroupHeartbeatResponseAssignment

def sc_ConsumerGroupHeartbeatResponse : List SC := [.mk [(0, 3), (2, -1), (3, -1), (4, -1)] none [], .mk [(0, 2), (2, -1), (3, -1), (4, -1)] none [], .mk [(0, 8), (2, -1), (3, 0), (4, -1)] none [], .mk [(0, 8), (2, -1), (3, 0), (4, -1)] none [], .mk [(0, 3), (2, -1), (3, -1), (4, -1)] none [], .mk [(0, 3), (2, -1), (3, -1), (4, -1)] none [], .mk [(0, 10), (2, -1), (3, 0), (4, -1)] (some 26) sc_sConsumerGroupHeartbeatResponseAssignment]
theorem fsc_ConsumerGroupHeartbeatResponse : FOk Go.Proofs.Tryz.prog 13 0 (c_msg MS sc_ConsumerGroupHeartbeatResponse (0)) [.cell 0 MS.zaw] := ⟨Go.Proofs.Tryz.f13, _, [0], Go.Proofs.Tryz.func13, rfl, by kernel_rfl, by kernel_rfl, by decide, by kernel_rfl, by kernel_rfl⟩
theorem lawT : LawBB Go.Proofs.Tryz.prog NS MS AN mS dS 29 1 13 sc_ConsumerGroupHeartbeatResponse (0) := ⟨door, fd_rf, fd_mv, fd_mi, fd_tellI, fd_app, aokS, by decide, by decide, by decide, fsc_ConsumerGroupHeartbeatResponse, by kernel_rfl, ⟨rfl, ⟨rfl, ⟨rfl, ⟨rfl, ⟨rfl, ⟨rfl, ⟨⟨mk_sConsumerGroupHeartbeatResponseAssignment, fsc_sConsumerGroupHeartbeatResponseAssignment.has⟩, trivial⟩⟩⟩⟩⟩⟩⟩, by kernel_rfl, by kernel_rfl⟩
theorem fd_law : FOk Go.Proofs.Tryz.prog 4 3 (c_lawB NS MS 35 dS.maxI dS.tellI 13) [.var 4] := ⟨Go.Proofs.Tryz.f4, _, [0, 1, 2, 5, 6, 20, 7, 23, 8, 9, 30, 10, 11, 12], Go.Proofs.Tryz.func4, rfl, by kernel_rfl, by kernel_rfl, by decide, by kernel_rfl, by kernel_rfl⟩
end Go.Kf

namespace Go.Proofs.YtgiejoemfbeaeaaGreatDoor.fnBehindConsumerGroupHeartbeatResponse
open Go.ChangeShapes Go.WideShapes Go.ChangeAt Go.RowKit Go.Kf

theorem reads (os : Os) {H : Type} (enc : TypeId × Value → H) : ∃ places, DataW.whole enc Go.Proofs.Tryz.prog ((World.doorLaid Go.Proofs.Tryz.prog 400 os).forCall (fun _ _ => 0) ⟨#[], #[.int .u8 0, .slice none 0 0, .agg #[.int .i64 0, .slice none 0 0, .bool false, .slice none 0 0, .slice none 0 0]], []⟩).memory Go.Proofs.Tryz.f4.params.toList Rows.fnBehindConsumerGroupHeartbeatResponseSpec.vars false #[Value.int .u8 0, .slice none 0 0, .agg #[.int .i64 0, .slice none 0 0, .bool false, .slice none 0 0, .slice none 0 0]].toList 8 = some ([.lit (.int .u8 0), .nil, .agg [.lit (.int .i64 0), .nil, .lit (.bool false), .nil, .nil]], [], places) :=
  ⟨[], by kernel_rfl⟩
set_option maxHeartbeats 4000000 in
theorem lifted (os : Os) (started : os.Started) (H : Type) (enc : TypeId × Value → H) (F : Stop.Interp) :
    ReturnsInHanded {} Go.Proofs.Tryz.checked os 4 .any ((Rows.OpenSpec.upto Rows.fnBehindConsumerGroupHeartbeatResponseSpec).preRow enc Go.Proofs.Tryz.prog Go.Proofs.Tryz.f4 Rows.fnBehindConsumerGroupHeartbeatResponseUptoRow.domain false Rows.fnBehindConsumerGroupHeartbeatResponseUptoRow.laid) (((Rows.OpenSpec.upto Rows.fnBehindConsumerGroupHeartbeatResponseSpec).at F).post enc Go.Proofs.Tryz.prog Go.Proofs.Tryz.f4 false true false false) := by
  obtain ⟨places, hx⟩ := reads os enc
  refine returnsInHanded_of_row (C := Go.Proofs.Tryz.checked) (s := Rows.OpenSpec.upto Rows.fnBehindConsumerGroupHeartbeatResponseSpec) own started (by kernel_rfl) Go.Proofs.Tryz.func4
    ⟨World.doorLaid Go.Proofs.Tryz.prog 400 os, fun _ _ => 0, ⟨#[], #[.int .u8 0, .slice none 0 0, .agg #[.int .i64 0, .slice none 0 0, .bool false, .slice none 0 0, .slice none 0 0]], []⟩, rfl, shaped os _, rfl, (Input.okWide_of_okWideB (by kernel_rfl)).2,
      OpenSpec.preRow_of_cond 8 hx (by kernel_rfl) (fun k hk => by cases hk; kernel_rfl) (by kernel_rfl) (door_met os _), by
        simp only [Assume.holds]
        exact ⟨by simp, by simp, fun _ => Modest.zero, by simp, by simp⟩⟩ ?_
  intro W base args ds gs before hval0 hW _ hcond _ hL _ _
  have hval : ∀ (j : Nat) t v, Go.Proofs.Tryz.f4.params[j]? = some t → args[j]? = some v → Value.okWide Go.Proofs.Tryz.prog W .any base t v := hval0
  have hW' := hW
  obtain ⟨p, q, hA0, hV, rfl, hfz, hnd⟩ := hW
  have hA : DataW.TrodAll enc Go.Proofs.Tryz.prog W 0 (fun _ => true) true Go.Proofs.Tryz.f4.params.toList args.toList ds p := hA0
  rw [Go.Proofs.Tryz.params4] at hA hval
  obtain ⟨v0, vs0, d0, ds0, p0, q0, hargs, rfl, rfl, h0, r0⟩ := trodAll_cons hA
  obtain ⟨v1, vs1, d1, ds1, p1, q1, rfl, rfl, rfl, h1, r1⟩ := trodAll_cons r0
  obtain ⟨v2, vs2, d2, ds2, p2, q2, rfl, rfl, rfl, h2, r2⟩ := trodAll_cons r1
  obtain ⟨rfl, rfl, rfl⟩ := trodAll_nil r2
  obtain rfl : args = #[v0, v1, v2] := by cases args; simp_all
  obtain ⟨rfl, rfl⟩ := trodVars_none hV
  obtain ⟨n0, rfl, rfl, rfl, w0⟩ := open_int Go.Proofs.Tryz.underlying5 (hval 0 5 v0 rfl rfl) h0
  obtain ⟨dl, had⟩ := argOct_of Go.Proofs.Tryz.underlying22 Go.Proofs.Tryz.underlying5 (by kernel_rfl) (hval 1 22 v1 rfl rfl) h1
  obtain ⟨t, ct, rfl, ht, hwf, hsz⟩ := treeArg_of treeO baseS specT (bulkF H) (hval 2 26 v2 rfl rfl) h2
  have hc := hcond _ rfl
  have hsz2 : szT t ≤ 1048576 := by
    have hc2 : Rows.uptoBulkAll ([.lit (.int .u8 n0), d1, d2] ++ []) ≤ 1048576 := of_decide_eq_true hc
    simp only [List.cons_append, List.nil_append, Rows.uptoBulkAll] at hc2
    omega
  have lt1 : ∀ x ∈ p1, x.block < W.heap.size := by obtain ⟨m, hm⟩ := h1; exact DataW.trod_lt m _ _ _ hm
  have lt2 : ∀ x ∈ p2, x.block < W.heap.size := by obtain ⟨m, hm⟩ := h2; exact DataW.trod_lt m _ _ _ hm
  rw [MakeChecks.laidMetH_plain _ _ _ (by kernel_rfl)] at hL
  obtain ⟨a1, s1, hv1, _⟩ := laid_sentinel hL gO gT Go.Proofs.Tryz.underlying50 rowP Go.Proofs.Tryz.underlying170 Go.Proofs.Tryz.underlying188 rfl rfl Go.Proofs.Tryz.underlying9 cS cStr
  have hg : W.cell? ⟨0, 0, none⟩ = some (.iface 170 (.pointer (some a1))) := by simpa using World.var?_cell gO hv1 0
  have hn0 : 0 ≤ n0 ∧ n0 ≤ 255 := by
    simp [Lit.wf, IntKind.min, IntKind.max, IntKind.signed, IntKind.bits] at w0
    omega
  clear hA0 hval0
  refine Calls.mono (call_lawB baseS fnsS spT thSZ thSW apC (by decide) (by decide) lawT fd_law (n := n0) hn0 had ht hwf hsz2 hg) fun e W' ⟨v', he, hv', hm⟩ => ?_
  subst he hv'
  have bel := hm.below
  exact ⟨_, rfl, _, _, _, [], _, [], hW', trodAll_mk1 (shut_bool Go.Proofs.Tryz.underlying4 _), trodAll_cons_mk (shut_int Go.Proofs.Tryz.underlying5 w0) (trodAll_cons_mk (Below.trod laidOut (by kernel_rfl) (of_decide_eq_true (by kernel_rfl)) h1 bel lt1) (trodAll_cons_mk (Below.trod laidOut (by kernel_rfl) (of_decide_eq_true (by kernel_rfl)) h2 bel lt2) trodAll_mk0)), rfl, bel.frame _, fun h => by cases h⟩

set_option maxHeartbeats 4000000 in
theorem joined : joinedFacts Go.Proofs.Tryz.prog 4 Go.Proofs.Tryz.f4 (Rows.OpenSpec.upto Rows.fnBehindConsumerGroupHeartbeatResponseSpec).bare Rows.fnBehindConsumerGroupHeartbeatResponseUptoRow = true := by
  unfold joinedFacts
  exact bandT (bandT (bandT (bandT (bandT (bandT (bandT (bandT (bandT (bandT (bandT (bandT (bandT (bandT (bandT (bandT (bandT (bandT (bandT (bandT (bandT (bandT (bandT (bandT (bandT (bandT (bandT (bandT (bandT (bandT (bandT (by as_aux_lemma => kernel_rfl) laidOut) mapsRowedS) (by as_aux_lemma => kernel_rfl)) (by as_aux_lemma => kernel_rfl)) (by as_aux_lemma => kernel_rfl)) (by as_aux_lemma => kernel_rfl)) (by as_aux_lemma => kernel_rfl)) (by as_aux_lemma => kernel_rfl)) (by as_aux_lemma => kernel_rfl)) (by as_aux_lemma => kernel_rfl)) (by as_aux_lemma => kernel_rfl)) (by as_aux_lemma => kernel_rfl)) (by as_aux_lemma => kernel_rfl)) (by as_aux_lemma => kernel_rfl)) (by as_aux_lemma => kernel_rfl)) (by as_aux_lemma => kernel_rfl)) (by as_aux_lemma => kernel_rfl)) (by as_aux_lemma => kernel_rfl)) (by as_aux_lemma => kernel_rfl)) (by as_aux_lemma => kernel_rfl)) (by as_aux_lemma => kernel_rfl)) plainKeysS) (by as_aux_lemma => kernel_rfl)) stopsHeardS) bigEnter) bigLifts) bigMake) (by as_aux_lemma => kernel_rfl)) (by as_aux_lemma => kernel_rfl)) (by as_aux_lemma => kernel_rfl)) (by as_aux_lemma => kernel_rfl)
theorem named : Go.Proofs.Tryz.prog.funcNamed Rows.fnBehindConsumerGroupHeartbeatResponseUptoRow.func = some 4 := by kernel_rfl
theorem isInst : Go.Proofs.Tryz.f4.isInstance Go.Proofs.Tryz.prog Rows.fnBehindConsumerGroupHeartbeatResponseUptoRow.origin Rows.fnBehindConsumerGroupHeartbeatResponseUptoRow.targs := of_decide_eq_true (by kernel_rfl)
theorem isWrap : Go.Proofs.Tryz.f4.isWrapper Go.Proofs.Tryz.prog Rows.fnBehindConsumerGroupHeartbeatResponseUptoRow.wrapper Rows.fnBehindConsumerGroupHeartbeatResponseUptoRow.mainSum := by unfold Func.isWrapper; first | (rw [if_pos (by decide +kernel)]; kernel_rfl) | (rw [if_neg (by decide +kernel)]; exact ⟨rfl, rfl⟩)
theorem row : Rows.FnBehindConsumerGroupHeartbeatResponseUptoSaid :=
  OpenClaim.holds_of_cond 4 Go.Proofs.Tryz.f4 rfl rfl rfl rfl rfl rfl rfl ⟨rfl, rfl, rfl, rfl, rfl⟩ rfl rfl rfl rfl rfl named Go.Proofs.Tryz.func4 joined
    isInst isWrap
    (fun os started H enc _ F => by rw [OpenClaim.pre_eq_preRow]; exact lifted os started H enc F)
end Go.Proofs.YtgiejoemfbeaeaaGreatDoor.fnBehindConsumerGroupHeartbeatResponse

namespace Go.Proofs.YtgiejoemfbeaeaaGreatDoor
open Go.Kf
set_option maxHeartbeats 4000000 in
theorem fnBehindConsumerGroupHeartbeatResponse_card : Rows.FnBehindConsumerGroupHeartbeatResponseUptoCardSaid :=
  Claim7.holds_tied_plain_at .later [] [.sentinel] true Rows.fnBehindConsumerGroupHeartbeatResponseUptoCard.stood.harness false
    fnBehindConsumerGroupHeartbeatResponse.row (fun _ h => by cases h) (by as_aux_lemma => kernel_rfl) (fun _ h => by cases h) fnBehindConsumerGroupHeartbeatResponseUpto_row_tie rfl ⟨rfl, rfl⟩ mainS rfl
    (fun f fn hf hfn => by
      obtain rfl : f = 4 := Option.some.inj (fnBehindConsumerGroupHeartbeatResponse.named.symm.trans hf) |>.symm
      obtain rfl : fn = Go.Proofs.Tryz.f4 := (Option.some.inj (Go.Proofs.Tryz.func4.symm.trans hfn)).symm
      refine ⟨looksS, fun j t ht => ?_⟩
      rw [Go.Proofs.Tryz.params4] at ht
      rcases j with _ | _ | _ | j
      · obtain rfl : 5 = t := by simpa using ht
        exact (show Go.Proofs.Tryz.prog.wantsStandIn 5 = false by kernel_rfl)
      · obtain rfl : 22 = t := by simpa using ht
        exact (show Go.Proofs.Tryz.prog.wantsStandIn 22 = false by kernel_rfl)
      · obtain rfl : 26 = t := by simpa using ht
        exact (show Go.Proofs.Tryz.prog.wantsStandIn 26 = false by kernel_rfl)
      · simp at ht)
    (by as_aux_lemma => kernel_rfl)
#print axioms fnBehindConsumerGroupHeartbeatResponse_card
end Go.Proofs.YtgiejoemfbeaeaaGreatDoor
