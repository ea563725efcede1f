/- A message that is written behind octets leaves these as they are, and follows them (laws.FnBehindDescribeTopicPartitionsRequest): the second form's tied card is proved, at every version number, all octets ahead and every tree whose bulk is at most 1048576; no other condition. -/
import Derived.Test.YtgiejoemfbeaeaaGreatDoorKs
set_option linter.unusedSimpArgs false
set_option linter.unusedVariables false
set_option maxRecDepth 100000
namespace Go.Kf
open Go

def rDescribeTopicPartitionsRequestTopic : Fds := .cons .all (.txt .str) (.tags none)
theorem df_DescribeTopicPartitionsRequestTopic : FOk Go.Proofs.Tryz.prog 66 1 (seqs (rDescribeTopicPartitionsRequestTopic.dfl NS 78 0)) [] := ⟨Go.Proofs.Tryz.f66, _, [0], Go.Proofs.Tryz.func66, rfl, by kernel_rfl, by kernel_rfl, by decide, by kernel_rfl, by kernel_rfl⟩

def rDescribeTopicPartitionsRequestCursor : Fds := .cons .all (.txt .str) (.cons .all (.pr .i32 none) (.tags none))
theorem df_DescribeTopicPartitionsRequestCursor : FOk Go.Proofs.Tryz.prog 74 1 (seqs (rDescribeTopicPartitionsRequestCursor.dfl NS 83 0)) [] := ⟨Go.Proofs.Tryz.f74, _, [0], Go.Proofs.Tryz.func74, rfl, by kernel_rfl, by kernel_rfl, by decide, by kernel_rfl, by kernel_rfl⟩

def mS : Msg := ⟨65, 41, 31, 0, false, .cons .all (.arr 59 none (.row 78 76 66 (.cons .all (.txt .str) (.tags none)))) (.cons .all (.pr .i32 (some (.int .i32 (2000)))) (.cons .all (.ptr 83 60 74 (.cons .all (.txt .str) (.cons .all (.pr .i32 none) (.tags none)))) (.tags none)))⟩
def dS : zaao where
  newP := 16
  setV := 21
  maxV := 17
  readF := 22
  readf := 40
  maxI := 6
  tellI := 10
theorem rd_m : FOk Go.Proofs.Tryz.prog 40 3 (mS.gen NS true) [.var 3] := ⟨Go.Proofs.Tryz.f40, _, [0, 1, 2, 6, 7, 8, 9, 10, 11, 12, 13, 42, 46, 51, 14, 57, 15, 16, 17, 66, 67, 70, 77, 18, 19, 97, 20, 21, 22, 109, 110, 113, 23, 125, 130], Go.Proofs.Tryz.func40, rfl, by kernel_rfl, by kernel_rfl, by decide, by kernel_rfl, by kernel_rfl⟩
theorem df_m : FOk Go.Proofs.Tryz.prog 31 1 (seqs (mS.fs.dfl NS mS.tT 1)) [] := ⟨Go.Proofs.Tryz.f31, _, [0, 2], Go.Proofs.Tryz.func31, rfl, by kernel_rfl, by kernel_rfl, by decide, by kernel_rfl, by kernel_rfl⟩
theorem mt : MsgT Go.Proofs.Tryz.prog NS mS true := msgT_of baseS fnsS (by kernel_rfl) (by kernel_rfl) (by kernel_rfl) (by kernel_rfl) ⟨⟨df_DescribeTopicPartitionsRequestTopic, ⟨trivial, trivial⟩⟩, ⟨trivial, ⟨⟨df_DescribeTopicPartitionsRequestCursor, ⟨trivial, ⟨trivial, trivial⟩⟩⟩, trivial⟩⟩⟩ df_m
theorem fd_new : FOk Go.Proofs.Tryz.prog 16 0 (c_new NS mS.tT mS.dflt) [.var 0] := ⟨Go.Proofs.Tryz.f16, _, [0, 1], Go.Proofs.Tryz.func16, rfl, by kernel_rfl, by kernel_rfl, by decide, by kernel_rfl, by kernel_rfl⟩
theorem fd_set : FOk Go.Proofs.Tryz.prog 21 2 (c_set NS mS.tT) [] := ⟨Go.Proofs.Tryz.f21, _, [0, 1], Go.Proofs.Tryz.func21, rfl, by kernel_rfl, by kernel_rfl, by decide, by kernel_rfl, by kernel_rfl⟩
theorem door : DoorT Go.Proofs.Tryz.prog NS mS true dS where
  msg := mt
  vin := rfl
  ti := (zyj (by' := zxp Go.Proofs.Tryz.prog 65) (by kernel_rfl)).imp fun _ h => ⟨_, h⟩
  newP := fd_new
  setV := fd_set
  readf := rd_m
  tell := fun h => absurd rfl h
  dok := ⟨trivial, ⟨⟨_, rfl, by decide⟩, ⟨⟨rfl, ⟨⟨_, rfl, by decide⟩, trivial⟩⟩, trivial⟩⟩⟩
  shB := by kernel_rfl
  cnt := by decide
theorem fd_rf : FOk Go.Proofs.Tryz.prog 22 2 (c_rf NS mS.pT 40 false) [.var 2] := ⟨Go.Proofs.Tryz.f22, _, [0, 1, 4], Go.Proofs.Tryz.func22, rfl, by kernel_rfl, by kernel_rfl, by decide, by kernel_rfl, by kernel_rfl⟩
theorem fd_mv : FOk Go.Proofs.Tryz.prog 17 1 (c_max 0) [.var 1] := ⟨Go.Proofs.Tryz.f17, _, [0, 2], Go.Proofs.Tryz.func17, rfl, by kernel_rfl, by kernel_rfl, by decide, by kernel_rfl, by kernel_rfl⟩
theorem fd_mi : FOk Go.Proofs.Tryz.prog 6 0 (c_maxI NS mS.pT 16 17) [.var 0] := ⟨Go.Proofs.Tryz.f6, _, [0], Go.Proofs.Tryz.func6, rfl, by kernel_rfl, by kernel_rfl, by decide, by kernel_rfl, by kernel_rfl⟩
theorem fd_tellI : FOk Go.Proofs.Tryz.prog 10 3 (zabx NS mS.pT 16 21 22 23) [.var 3, .var 4] := ⟨Go.Proofs.Tryz.f10, _, [0, 1, 2, 6, 7, 8, 18], Go.Proofs.Tryz.func10, rfl, by kernel_rfl, by kernel_rfl, by decide, by kernel_rfl, by kernel_rfl⟩
theorem fd_app : FOk Go.Proofs.Tryz.prog 23 2 (mS.appC NS AN) [.var 2] := ⟨Go.Proofs.Tryz.f23, _, [0, 1, 4, 5, 6, 7, 27, 37, 38, 39, 8, 9, 10, 48, 55, 11, 12, 82, 13, 93, 14, 107, 121], Go.Proofs.Tryz.func23, rfl, by kernel_rfl, by kernel_rfl, by decide, by kernel_rfl, by kernel_rfl⟩
theorem aokS : mS.fs.aok Go.Proofs.Tryz.prog NS AN := ⟨⟨zhi (by kernel_rfl), el_ti (fx := true) baseS fnsS _ (by kernel_rfl) ⟨df_DescribeTopicPartitionsRequestTopic, ⟨trivial, trivial⟩⟩, ⟨by decide, by decide⟩, ⟨(Fds.ok_of (fx := true) (Tt := 78) (idx := 0) (off := 0) baseS fnsS rDescribeTopicPartitionsRequestTopic (by kernel_rfl) ⟨trivial, trivial⟩).2.1, ⟨⟨by decide, by decide, (fun h => nomatch h)⟩, trivial⟩⟩⟩, ⟨⟨by decide, ⟨(fun h => nomatch h), (fun h => absurd h (by decide))⟩⟩, ⟨⟨zhi (by kernel_rfl), (Fds.ok_of (fx := true) (Tt := 83) (idx := 0) (off := 0) baseS fnsS rDescribeTopicPartitionsRequestCursor (by kernel_rfl) ⟨trivial, ⟨trivial, trivial⟩⟩).2.1, ⟨⟨by decide, by decide, (fun h => nomatch h)⟩, ⟨⟨by decide, ⟨(fun h => nomatch h), (fun h => absurd h (by decide))⟩⟩, trivial⟩⟩⟩, trivial⟩⟩⟩

def sc_sDescribeTopicPartitionsRequestTopic : List SC := [.mk [(0, 8), (2, -1), (3, -1), (4, -1)] none []]
theorem fsc_sDescribeTopicPartitionsRequestTopic : FOk Go.Proofs.Tryz.prog 18 0 (c_flds MS sc_sDescribeTopicPartitionsRequestTopic) [.var 0] := ⟨Go.Proofs.Tryz.f18, _, [0], Go.Proofs.Tryz.func18, rfl, by kernel_rfl, by kernel_rfl, by decide, by kernel_rfl, by kernel_rfl⟩
theorem mk_sDescribeTopicPartitionsRequestTopic : MkOk Go.Proofs.Tryz.prog 18 (SC.flds sc_sDescribeTopicPartitionsRequestTopic) := mk_flds (l := sc_sDescribeTopicPartitionsRequestTopic) spT (by kernel_rfl) ⟨rfl, trivial⟩ fsc_sDescribeTopicPartitionsRequestTopic

def sc_sDescribeTopicPartitionsRequestCursor : List SC := [.mk [(0, 8), (2, -1), (3, -1), (4, -1)] none [], .mk [(0, 3), (2, -1), (3, -1), (4, -1)] none []]
theorem fsc_sDescribeTopicPartitionsRequestCursor : FOk Go.Proofs.Tryz.prog 19 0 (c_flds MS sc_sDescribeTopicPartitionsRequestCursor) [.var 0] := ⟨Go.Proofs.Tryz.f19, _, [0], Go.Proofs.Tryz.func19, rfl, by kernel_rfl, by kernel_rfl, by decide, by kernel_rfl, by kernel_rfl⟩
theorem mk_sDescribeTopicPartitionsRequestCursor : MkOk Go.Proofs.Tryz.prog 19 (SC.flds sc_sDescribeTopicPartitionsRequestCursor) := mk_flds (l := sc_sDescribeTopicPartitionsRequestCursor) spT (by kernel_rfl) ⟨rfl, ⟨rfl, trivial⟩⟩ fsc_sDescribeTopicPartitionsRequestCursor

def sc_DescribeTopicPartitionsRequest : List SC := [.mk [(0, 11), (2, -1), (3, -1), (4, -1), (6, 10)] (some 18) sc_sDescribeTopicPartitionsRequestTopic, .mk [(0, 3), (2, -1), (3, -1), (4, -1), (5, 2000)] none [], .mk [(0, 10), (2, -1), (3, 0), (4, -1)] (some 19) sc_sDescribeTopicPartitionsRequestCursor]
theorem fsc_DescribeTopicPartitionsRequest : FOk Go.Proofs.Tryz.prog 7 0 (c_msg MS sc_DescribeTopicPartitionsRequest (0)) [.cell 0 MS.zaw] := ⟨Go.Proofs.Tryz.f7, _, [0], Go.Proofs.Tryz.func7, rfl, by kernel_rfl, by kernel_rfl, by decide, by kernel_rfl, by kernel_rfl⟩
theorem lawT : LawBB Go.Proofs.Tryz.prog NS MS AN mS dS 23 0 7 sc_DescribeTopicPartitionsRequest (0) := ⟨door, fd_rf, fd_mv, fd_mi, fd_tellI, fd_app, aokS, by decide, by decide, by decide, fsc_DescribeTopicPartitionsRequest, by kernel_rfl, ⟨⟨mk_sDescribeTopicPartitionsRequestTopic, fsc_sDescribeTopicPartitionsRequestTopic.has⟩, ⟨rfl, ⟨⟨mk_sDescribeTopicPartitionsRequestCursor, fsc_sDescribeTopicPartitionsRequestCursor.has⟩, trivial⟩⟩⟩, by kernel_rfl, by kernel_rfl⟩
theorem fd_law : FOk Go.Proofs.Tryz.prog 3 3 (c_lawB NS MS 35 dS.maxI dS.tellI 7) [.var 4] := ⟨Go.Proofs.Tryz.f3, _, [0, 1, 2, 5, 6, 20, 7, 23, 8, 9, 30, 10, 11, 12], Go.Proofs.Tryz.func3, rfl, by kernel_rfl, by kernel_rfl, by decide, by kernel_rfl, by kernel_rfl⟩
end Go.Kf

namespace Go.Proofs.YtgiejoemfbeaeaaGreatDoor.fnBehindDescribeTopicPartitionsRequest
open Go.ChangeShapes Go.WideShapes Go.ChangeAt Go.RowKit Go.Kf

theorem reads (os : Os) {H : Type} (enc : TypeId × Value → H) : ∃ places, DataW.whole enc Go.Proofs.Tryz.prog ((World.doorLaid Go.Proofs.Tryz.prog 400 os).forCall (fun _ _ => 0) ⟨#[], #[.int .u8 0, .slice none 0 0, .agg #[.int .i64 0, .slice none 0 0, .bool false, .slice none 0 0, .slice none 0 0]], []⟩).memory Go.Proofs.Tryz.f3.params.toList Rows.fnBehindDescribeTopicPartitionsRequestSpec.vars false #[Value.int .u8 0, .slice none 0 0, .agg #[.int .i64 0, .slice none 0 0, .bool false, .slice none 0 0, .slice none 0 0]].toList 8 = some ([.lit (.int .u8 0), .nil, .agg [.lit (.int .i64 0), .nil, .lit (.bool false), .nil, .nil]], [], places) :=
  ⟨[], by kernel_rfl⟩
set_option maxHeartbeats 4000000 in
theorem lifted (os : Os) (started : os.Started) (H : Type) (enc : TypeId × Value → H) (F : Stop.Interp) :
    ReturnsInHanded {} Go.Proofs.Tryz.checked os 3 .any ((Rows.OpenSpec.upto Rows.fnBehindDescribeTopicPartitionsRequestSpec).preRow enc Go.Proofs.Tryz.prog Go.Proofs.Tryz.f3 Rows.fnBehindDescribeTopicPartitionsRequestUptoRow.domain false Rows.fnBehindDescribeTopicPartitionsRequestUptoRow.laid) (((Rows.OpenSpec.upto Rows.fnBehindDescribeTopicPartitionsRequestSpec).at F).post enc Go.Proofs.Tryz.prog Go.Proofs.Tryz.f3 false true false false) := by
  obtain ⟨places, hx⟩ := reads os enc
  refine returnsInHanded_of_row (C := Go.Proofs.Tryz.checked) (s := Rows.OpenSpec.upto Rows.fnBehindDescribeTopicPartitionsRequestSpec) own started (by kernel_rfl) Go.Proofs.Tryz.func3
    ⟨World.doorLaid Go.Proofs.Tryz.prog 400 os, fun _ _ => 0, ⟨#[], #[.int .u8 0, .slice none 0 0, .agg #[.int .i64 0, .slice none 0 0, .bool false, .slice none 0 0, .slice none 0 0]], []⟩, rfl, shaped os _, rfl, (Input.okWide_of_okWideB (by kernel_rfl)).2,
      OpenSpec.preRow_of_cond 8 hx (by kernel_rfl) (fun k hk => by cases hk; kernel_rfl) (by kernel_rfl) (door_met os _), by
        simp only [Assume.holds]
        exact ⟨by simp, by simp, fun _ => Modest.zero, by simp, by simp⟩⟩ ?_
  intro W base args ds gs before hval0 hW _ hcond _ hL _ _
  have hval : ∀ (j : Nat) t v, Go.Proofs.Tryz.f3.params[j]? = some t → args[j]? = some v → Value.okWide Go.Proofs.Tryz.prog W .any base t v := hval0
  have hW' := hW
  obtain ⟨p, q, hA0, hV, rfl, hfz, hnd⟩ := hW
  have hA : DataW.TrodAll enc Go.Proofs.Tryz.prog W 0 (fun _ => true) true Go.Proofs.Tryz.f3.params.toList args.toList ds p := hA0
  rw [Go.Proofs.Tryz.params3] at hA hval
  obtain ⟨v0, vs0, d0, ds0, p0, q0, hargs, rfl, rfl, h0, r0⟩ := trodAll_cons hA
  obtain ⟨v1, vs1, d1, ds1, p1, q1, rfl, rfl, rfl, h1, r1⟩ := trodAll_cons r0
  obtain ⟨v2, vs2, d2, ds2, p2, q2, rfl, rfl, rfl, h2, r2⟩ := trodAll_cons r1
  obtain ⟨rfl, rfl, rfl⟩ := trodAll_nil r2
  obtain rfl : args = #[v0, v1, v2] := by cases args; simp_all
  obtain ⟨rfl, rfl⟩ := trodVars_none hV
  obtain ⟨n0, rfl, rfl, rfl, w0⟩ := open_int Go.Proofs.Tryz.underlying5 (hval 0 5 v0 rfl rfl) h0
  obtain ⟨dl, had⟩ := argOct_of Go.Proofs.Tryz.underlying22 Go.Proofs.Tryz.underlying5 (by kernel_rfl) (hval 1 22 v1 rfl rfl) h1
  obtain ⟨t, ct, rfl, ht, hwf, hsz⟩ := treeArg_of treeO baseS specT (bulkF H) (hval 2 26 v2 rfl rfl) h2
  have hc := hcond _ rfl
  have hsz2 : szT t ≤ 1048576 := by
    have hc2 : Rows.uptoBulkAll ([.lit (.int .u8 n0), d1, d2] ++ []) ≤ 1048576 := of_decide_eq_true hc
    simp only [List.cons_append, List.nil_append, Rows.uptoBulkAll] at hc2
    omega
  have lt1 : ∀ x ∈ p1, x.block < W.heap.size := by obtain ⟨m, hm⟩ := h1; exact DataW.trod_lt m _ _ _ hm
  have lt2 : ∀ x ∈ p2, x.block < W.heap.size := by obtain ⟨m, hm⟩ := h2; exact DataW.trod_lt m _ _ _ hm
  rw [MakeChecks.laidMetH_plain _ _ _ (by kernel_rfl)] at hL
  obtain ⟨a1, s1, hv1, _⟩ := laid_sentinel hL gO gT Go.Proofs.Tryz.underlying50 rowP Go.Proofs.Tryz.underlying170 Go.Proofs.Tryz.underlying188 rfl rfl Go.Proofs.Tryz.underlying9 cS cStr
  have hg : W.cell? ⟨0, 0, none⟩ = some (.iface 170 (.pointer (some a1))) := by simpa using World.var?_cell gO hv1 0
  have hn0 : 0 ≤ n0 ∧ n0 ≤ 255 := by
    simp [Lit.wf, IntKind.min, IntKind.max, IntKind.signed, IntKind.bits] at w0
    omega
  clear hA0 hval0
  refine Calls.mono (call_lawB baseS fnsS spT thSZ thSW apC (by decide) (by decide) lawT fd_law (n := n0) hn0 had ht hwf hsz2 hg) fun e W' ⟨v', he, hv', hm⟩ => ?_
  subst he hv'
  have bel := hm.below
  exact ⟨_, rfl, _, _, _, [], _, [], hW', trodAll_mk1 (shut_bool Go.Proofs.Tryz.underlying4 _), trodAll_cons_mk (shut_int Go.Proofs.Tryz.underlying5 w0) (trodAll_cons_mk (Below.trod laidOut (by kernel_rfl) (of_decide_eq_true (by kernel_rfl)) h1 bel lt1) (trodAll_cons_mk (Below.trod laidOut (by kernel_rfl) (of_decide_eq_true (by kernel_rfl)) h2 bel lt2) trodAll_mk0)), rfl, bel.frame _, fun h => by cases h⟩

set_option maxHeartbeats 4000000 in
theorem joined : joinedFacts Go.Proofs.Tryz.prog 3 Go.Proofs.Tryz.f3 (Rows.OpenSpec.upto Rows.fnBehindDescribeTopicPartitionsRequestSpec).bare Rows.fnBehindDescribeTopicPartitionsRequestUptoRow = true := by
  unfold joinedFacts
  exact bandT (bandT (bandT (bandT (bandT (bandT (bandT (bandT (bandT (bandT (bandT (bandT (bandT (bandT (bandT (bandT (bandT (bandT (bandT (bandT (bandT (bandT (bandT (bandT (bandT (bandT (bandT (bandT (bandT (bandT (bandT (by as_aux_lemma => kernel_rfl) laidOut) mapsRowedS) (by as_aux_lemma => kernel_rfl)) (by as_aux_lemma => kernel_rfl)) (by as_aux_lemma => kernel_rfl)) (by as_aux_lemma => kernel_rfl)) (by as_aux_lemma => kernel_rfl)) (by as_aux_lemma => kernel_rfl)) (by as_aux_lemma => kernel_rfl)) (by as_aux_lemma => kernel_rfl)) (by as_aux_lemma => kernel_rfl)) (by as_aux_lemma => kernel_rfl)) (by as_aux_lemma => kernel_rfl)) (by as_aux_lemma => kernel_rfl)) (by as_aux_lemma => kernel_rfl)) (by as_aux_lemma => kernel_rfl)) (by as_aux_lemma => kernel_rfl)) (by as_aux_lemma => kernel_rfl)) (by as_aux_lemma => kernel_rfl)) (by as_aux_lemma => kernel_rfl)) (by as_aux_lemma => kernel_rfl)) plainKeysS) (by as_aux_lemma => kernel_rfl)) stopsHeardS) bigEnter) bigLifts) bigMake) (by as_aux_lemma => kernel_rfl)) (by as_aux_lemma => kernel_rfl)) (by as_aux_lemma => kernel_rfl)) (by as_aux_lemma => kernel_rfl)
theorem named : Go.Proofs.Tryz.prog.funcNamed Rows.fnBehindDescribeTopicPartitionsRequestUptoRow.func = some 3 := by kernel_rfl
theorem isInst : Go.Proofs.Tryz.f3.isInstance Go.Proofs.Tryz.prog Rows.fnBehindDescribeTopicPartitionsRequestUptoRow.origin Rows.fnBehindDescribeTopicPartitionsRequestUptoRow.targs := of_decide_eq_true (by kernel_rfl)
theorem isWrap : Go.Proofs.Tryz.f3.isWrapper Go.Proofs.Tryz.prog Rows.fnBehindDescribeTopicPartitionsRequestUptoRow.wrapper Rows.fnBehindDescribeTopicPartitionsRequestUptoRow.mainSum := by unfold Func.isWrapper; first | (rw [if_pos (by decide +kernel)]; kernel_rfl) | (rw [if_neg (by decide +kernel)]; exact ⟨rfl, rfl⟩)
theorem row : Rows.FnBehindDescribeTopicPartitionsRequestUptoSaid :=
  OpenClaim.holds_of_cond 3 Go.Proofs.Tryz.f3 rfl rfl rfl rfl rfl rfl rfl ⟨rfl, rfl, rfl, rfl, rfl⟩ rfl rfl rfl rfl rfl named Go.Proofs.Tryz.func3 joined
    isInst isWrap
    (fun os started H enc _ F => by rw [OpenClaim.pre_eq_preRow]; exact lifted os started H enc F)
end Go.Proofs.YtgiejoemfbeaeaaGreatDoor.fnBehindDescribeTopicPartitionsRequest

namespace Go.Proofs.YtgiejoemfbeaeaaGreatDoor
open Go.Kf
set_option maxHeartbeats 4000000 in
theorem fnBehindDescribeTopicPartitionsRequest_card : Rows.FnBehindDescribeTopicPartitionsRequestUptoCardSaid :=
  Claim7.holds_tied_plain_at .later [] [.sentinel] true Rows.fnBehindDescribeTopicPartitionsRequestUptoCard.stood.harness false
    fnBehindDescribeTopicPartitionsRequest.row (fun _ h => by cases h) (by as_aux_lemma => kernel_rfl) (fun _ h => by cases h) fnBehindDescribeTopicPartitionsRequestUpto_row_tie rfl ⟨rfl, rfl⟩ mainS rfl
    (fun f fn hf hfn => by
      obtain rfl : f = 3 := Option.some.inj (fnBehindDescribeTopicPartitionsRequest.named.symm.trans hf) |>.symm
      obtain rfl : fn = Go.Proofs.Tryz.f3 := (Option.some.inj (Go.Proofs.Tryz.func3.symm.trans hfn)).symm
      refine ⟨looksS, fun j t ht => ?_⟩
      rw [Go.Proofs.Tryz.params3] at ht
      rcases j with _ | _ | _ | j
      · obtain rfl : 5 = t := by simpa using ht
        exact (show Go.Proofs.Tryz.prog.wantsStandIn 5 = false by kernel_rfl)
      · obtain rfl : 22 = t := by simpa using ht
        exact (show Go.Proofs.Tryz.prog.wantsStandIn 22 = false by kernel_rfl)
      · obtain rfl : 26 = t := by simpa using ht
        exact (show Go.Proofs.Tryz.prog.wantsStandIn 26 = false by kernel_rfl)
      · simp at ht)
    (by as_aux_lemma => kernel_rfl)
#print axioms fnBehindDescribeTopicPartitionsRequest_card
end Go.Proofs.YtgiejoemfbeaeaaGreatDoor
