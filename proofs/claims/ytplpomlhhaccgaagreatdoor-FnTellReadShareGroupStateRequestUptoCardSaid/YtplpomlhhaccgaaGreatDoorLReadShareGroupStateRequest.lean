/- Of a message that is written by the protocol just its fields are told (laws.FnTellReadShareGroupStateRequest): the second form's tied card is proved, at every version number and every tree whose bulk is at most 1048576; no other condition. -/
import Derived.Test.YtplpomlhhaccgaaGreatDoorKs
set_option linter.unusedSimpArgs false
set_option linter.unusedVariables false
set_option maxRecDepth 100000
namespace Go.Kf
open Go

def tf : TypeId → FuncId × FuncId := fun | 178 => (155, 184) | 124 => (110, 156) | _ => (0, 0)

def rReadShareGroupStateRequestTopicPartition : Fds := .cons .all (.pr .i32 none) (.cons .all (.pr .i32 none) (.tags))
theorem df_ReadShareGroupStateRequestTopicPartition : FOk Go.Proofs.Tryz.prog 154 1 (seqs (rReadShareGroupStateRequestTopicPartition.dfl NS 178 0)) [] := ⟨Go.Proofs.Tryz.f154, _, [0], Go.Proofs.Tryz.func154, rfl, by kernel_rfl, by kernel_rfl, by decide, by kernel_rfl, by kernel_rfl⟩
theorem ft_ReadShareGroupStateRequestTopicPartition : FOk Go.Proofs.Tryz.prog 155 1 (tellC NS tf 178 0 184 rReadShareGroupStateRequestTopicPartition) [.cell 1 NS.zab] := ⟨Go.Proofs.Tryz.f155, _, [0, 2, 3], Go.Proofs.Tryz.func155, rfl, by kernel_rfl, by kernel_rfl, by decide, by kernel_rfl, by kernel_rfl⟩
theorem fc_ReadShareGroupStateRequestTopicPartition : FOk Go.Proofs.Tryz.prog 184 3 (cTagFn NS) [] := ⟨Go.Proofs.Tryz.f184, _, [0, 1, 2], Go.Proofs.Tryz.func184, rfl, by kernel_rfl, by kernel_rfl, by decide, by kernel_rfl, by kernel_rfl⟩
theorem tl_ReadShareGroupStateRequestTopicPartition : TellP Go.Proofs.Tryz.prog 155 0 rReadShareGroupStateRequestTopicPartition := tellP baseS fnsS implT tellN (tf := tf) (Tt := 178) (idx0 := 0) ft_ReadShareGroupStateRequestTopicPartition (fun _ => fc_ReadShareGroupStateRequestTopicPartition) ⟨trivial, ⟨trivial, trivial⟩⟩ (Fds.ok_of (fx := true) (Tt := 178) (idx := 0) (off := 0) baseS fnsS rReadShareGroupStateRequestTopicPartition (by kernel_rfl) ⟨trivial, ⟨trivial, trivial⟩⟩).2.1 (by decide)

def rReadShareGroupStateRequestTopic : Fds := .cons .all (.pr .uuid none) (.cons .all (.arr 122 none (.row 178 176 154 (.cons .all (.pr .i32 none) (.cons .all (.pr .i32 none) (.tags))))) (.tags))
theorem df_ReadShareGroupStateRequestTopic : FOk Go.Proofs.Tryz.prog 152 1 (seqs (rReadShareGroupStateRequestTopic.dfl NS 124 0)) [] := ⟨Go.Proofs.Tryz.f152, _, [0], Go.Proofs.Tryz.func152, rfl, by kernel_rfl, by kernel_rfl, by decide, by kernel_rfl, by kernel_rfl⟩
theorem ft_ReadShareGroupStateRequestTopic : FOk Go.Proofs.Tryz.prog 110 1 (tellC NS tf 124 0 156 rReadShareGroupStateRequestTopic) [.cell 1 NS.zab] := ⟨Go.Proofs.Tryz.f110, _, [0, 2, 3, 29, 30, 31, 4, 34, 46, 47, 49], Go.Proofs.Tryz.func110, rfl, by kernel_rfl, by kernel_rfl, by decide, by kernel_rfl, by kernel_rfl⟩
theorem fc_ReadShareGroupStateRequestTopic : FOk Go.Proofs.Tryz.prog 156 3 (cTagFn NS) [] := ⟨Go.Proofs.Tryz.f156, _, [0, 1, 2], Go.Proofs.Tryz.func156, rfl, by kernel_rfl, by kernel_rfl, by decide, by kernel_rfl, by kernel_rfl⟩
theorem tl_ReadShareGroupStateRequestTopic : TellP Go.Proofs.Tryz.prog 110 0 rReadShareGroupStateRequestTopic := tellP baseS fnsS implT tellN (tf := tf) (Tt := 124) (idx0 := 0) ft_ReadShareGroupStateRequestTopic (fun _ => fc_ReadShareGroupStateRequestTopic) ⟨(show NS.zbl ≠ 0 by decide), ⟨⟨zhq (by kernel_rfl), el_ti (fx := true) baseS fnsS _ (by kernel_rfl) ⟨df_ReadShareGroupStateRequestTopicPartition, ⟨trivial, ⟨trivial, trivial⟩⟩⟩, tl_ReadShareGroupStateRequestTopicPartition⟩, trivial⟩⟩ (Fds.ok_of (fx := true) (Tt := 124) (idx := 0) (off := 0) baseS fnsS rReadShareGroupStateRequestTopic (by kernel_rfl) ⟨trivial, ⟨⟨df_ReadShareGroupStateRequestTopicPartition, ⟨trivial, ⟨trivial, trivial⟩⟩⟩, trivial⟩⟩).2.1 (by decide)

def mS : Msg := ⟨118, 73, 107, 0, false, .cons .all (.txt .str) (.cons .all (.arr 116 none (.row 124 120 152 (.cons .all (.pr .uuid none) (.cons .all (.arr 122 none (.row 178 176 154 (.cons .all (.pr .i32 none) (.cons .all (.pr .i32 none) (.tags))))) (.tags))))) (.tags))⟩
def dS : zvm where
  newP := 58
  setV := 61
  maxV := 59
  readF := 62
  readf := 109
  tell := 63
  maxI := 22
  tellI := 24
theorem rd_m : FOk Go.Proofs.Tryz.prog 109 3 (mS.gen NS true) [.var 3] := ⟨Go.Proofs.Tryz.f109, _, [0, 1, 2, 6, 7, 8, 9, 10, 11, 40, 41, 44, 12, 13, 14, 56, 60, 65, 15, 71, 16, 17, 18, 19, 20, 21, 90, 94, 99, 22, 105, 23, 24, 25, 26, 124, 134, 144], Go.Proofs.Tryz.func109, rfl, by kernel_rfl, by kernel_rfl, by decide, by kernel_rfl, by kernel_rfl⟩
theorem df_m : FOk Go.Proofs.Tryz.prog 107 1 (seqs (mS.fs.dfl NS mS.tT 1)) [] := ⟨Go.Proofs.Tryz.f107, _, [0], Go.Proofs.Tryz.func107, rfl, by kernel_rfl, by kernel_rfl, by decide, by kernel_rfl, by kernel_rfl⟩
theorem mt : MsgT Go.Proofs.Tryz.prog NS mS true := msgT_of baseS fnsS (by kernel_rfl) (by kernel_rfl) (by kernel_rfl) ⟨trivial, ⟨⟨df_ReadShareGroupStateRequestTopic, ⟨trivial, ⟨⟨df_ReadShareGroupStateRequestTopicPartition, ⟨trivial, ⟨trivial, trivial⟩⟩⟩, trivial⟩⟩⟩, trivial⟩⟩ df_m
theorem ft_ReadShareGroupStateRequest : FOk Go.Proofs.Tryz.prog 63 1 (tellC NS tf 118 1 111 mS.fs) [.cell 1 NS.zab] := ⟨Go.Proofs.Tryz.f63, _, [0, 2, 3, 29, 30, 31, 4, 34, 46, 47, 49], Go.Proofs.Tryz.func63, rfl, by kernel_rfl, by kernel_rfl, by decide, by kernel_rfl, by kernel_rfl⟩
theorem fc_ReadShareGroupStateRequest : FOk Go.Proofs.Tryz.prog 111 3 (cTagFn NS) [] := ⟨Go.Proofs.Tryz.f111, _, [0, 1, 2], Go.Proofs.Tryz.func111, rfl, by kernel_rfl, by kernel_rfl, by decide, by kernel_rfl, by kernel_rfl⟩
theorem tl_ReadShareGroupStateRequest : TellP Go.Proofs.Tryz.prog 63 1 mS.fs := tellP baseS fnsS implT tellN (tf := tf) (Tt := 118) (idx0 := 1) ft_ReadShareGroupStateRequest (fun _ => fc_ReadShareGroupStateRequest) ⟨trivial, ⟨⟨zhq (by kernel_rfl), el_ti (fx := true) baseS fnsS _ (by kernel_rfl) ⟨df_ReadShareGroupStateRequestTopic, ⟨trivial, ⟨⟨df_ReadShareGroupStateRequestTopicPartition, ⟨trivial, ⟨trivial, trivial⟩⟩⟩, trivial⟩⟩⟩, tl_ReadShareGroupStateRequestTopic⟩, trivial⟩⟩ mt.hf (by decide)
theorem fd_new : FOk Go.Proofs.Tryz.prog 58 0 (c_new NS mS.tT mS.dflt) [.var 0] := ⟨Go.Proofs.Tryz.f58, _, [0, 1], Go.Proofs.Tryz.func58, rfl, by kernel_rfl, by kernel_rfl, by decide, by kernel_rfl, by kernel_rfl⟩
theorem fd_set : FOk Go.Proofs.Tryz.prog 61 2 (c_set NS mS.tT) [] := ⟨Go.Proofs.Tryz.f61, _, [0, 1], Go.Proofs.Tryz.func61, rfl, by kernel_rfl, by kernel_rfl, by decide, by kernel_rfl, by kernel_rfl⟩
theorem door : zys Go.Proofs.Tryz.prog NS mS true dS where
  msg := mt
  vin := rfl
  ti := (tsB_ok (by' := bytesOf Go.Proofs.Tryz.prog 118) (by kernel_rfl)).imp fun _ h => ⟨_, h⟩
  newP := fd_new
  setV := fd_set
  readf := rd_m
  tell := tl_ReadShareGroupStateRequest
  dok := ⟨⟨⟨List.replicate 16 0, rfl, rfl⟩, ⟨⟨⟨_, rfl, by decide⟩, ⟨⟨_, rfl, by decide⟩, trivial⟩⟩, trivial⟩⟩, trivial⟩
  shB := by kernel_rfl
  cnt := by decide
theorem fd_rf : FOk Go.Proofs.Tryz.prog 62 2 (c_rf NS mS.pT 109 false) [.var 2] := ⟨Go.Proofs.Tryz.f62, _, [0, 1, 4], Go.Proofs.Tryz.func62, rfl, by kernel_rfl, by kernel_rfl, by decide, by kernel_rfl, by kernel_rfl⟩
theorem fd_mv : FOk Go.Proofs.Tryz.prog 59 1 (c_max 0) [.var 1] := ⟨Go.Proofs.Tryz.f59, _, [0, 2], Go.Proofs.Tryz.func59, rfl, by kernel_rfl, by kernel_rfl, by decide, by kernel_rfl, by kernel_rfl⟩
theorem fd_mi : FOk Go.Proofs.Tryz.prog 22 0 (c_maxI NS mS.pT 58 59) [.var 0] := ⟨Go.Proofs.Tryz.f22, _, [0], Go.Proofs.Tryz.func22, rfl, by kernel_rfl, by kernel_rfl, by decide, by kernel_rfl, by kernel_rfl⟩
theorem fd_tellI : FOk Go.Proofs.Tryz.prog 24 2 (c_door NS mS.pT 58 61 62 63) [.cell 2 NS.zab, .var 3] := ⟨Go.Proofs.Tryz.f24, _, [0, 1, 4, 5, 6, 16], Go.Proofs.Tryz.func24, rfl, by kernel_rfl, by kernel_rfl, by decide, by kernel_rfl, by kernel_rfl⟩

def sc_sReadShareGroupStateRequestTopicPartition : List SC := [.mk [(0, 3), (2, -1), (3, -1), (4, -1)] none [], .mk [(0, 3), (2, -1), (3, -1), (4, -1)] none []]
theorem fsc_sReadShareGroupStateRequestTopicPartition : FOk Go.Proofs.Tryz.prog 108 0 (c_flds MS sc_sReadShareGroupStateRequestTopicPartition) [.var 0] := ⟨Go.Proofs.Tryz.f108, _, [0], Go.Proofs.Tryz.func108, rfl, by kernel_rfl, by kernel_rfl, by decide, by kernel_rfl, by kernel_rfl⟩
theorem mk_sReadShareGroupStateRequestTopicPartition : MkOk Go.Proofs.Tryz.prog 108 (SC.flds sc_sReadShareGroupStateRequestTopicPartition) := mk_flds (l := sc_sReadShareGroupStateRequestTopicPartition) spT (by kernel_rfl) ⟨rfl, ⟨rfl, trivial⟩⟩ fsc_sReadShareGroupStateRequestTopicPartition

def sc_sReadShareGroupStateRequestTopic : List SC := [.mk [(0, 7), (2, -1), (3, -1), (4, -1)] none [], .mk [(0, 11), (2, -1), (3, -1), (4, -1), (6, 10)] (some 108) sc_sReadShareGroupStateRequestTopicPartition]
theorem fsc_sReadShareGroupStateRequestTopic : FOk Go.Proofs.Tryz.prog 60 0 (c_flds MS sc_sReadShareGroupStateRequestTopic) [.var 0] := ⟨Go.Proofs.Tryz.f60, _, [0], Go.Proofs.Tryz.func60, rfl, by kernel_rfl, by kernel_rfl, by decide, by kernel_rfl, by kernel_rfl⟩
theorem mk_sReadShareGroupStateRequestTopic : MkOk Go.Proofs.Tryz.prog 60 (SC.flds sc_sReadShareGroupStateRequestTopic) := mk_flds (l := sc_sReadShareGroupStateRequestTopic) spT (by kernel_rfl) ⟨rfl, ⟨⟨mk_sReadShareGroupStateRequestTopicPartition, fsc_sReadShareGroupStateRequestTopicPartition.has⟩, trivial⟩⟩ fsc_sReadShareGroupStateRequestTopic

def sc_ReadShareGroupStateRequest : List SC := [.mk [(0, 8), (2, -1), (3, -1), (4, -1)] none [], .mk [(0, 11), (2, -1), (3, -1), (4, -1), (6, 10)] (some 60) sc_sReadShareGroupStateRequestTopic]
theorem fsc_ReadShareGroupStateRequest : FOk Go.Proofs.Tryz.prog 23 0 (c_msg MS sc_ReadShareGroupStateRequest (0)) [.cell 0 MS.zam] := ⟨Go.Proofs.Tryz.f23, _, [0], Go.Proofs.Tryz.func23, rfl, by kernel_rfl, by kernel_rfl, by decide, by kernel_rfl, by kernel_rfl⟩
theorem lawT : LawTT Go.Proofs.Tryz.prog NS MS mS true dS 0 23 sc_ReadShareGroupStateRequest (0) := ⟨door, fd_rf, fd_mv, fd_mi, fd_tellI, by decide, by decide, by decide, fsc_ReadShareGroupStateRequest, by kernel_rfl, ⟨rfl, ⟨⟨mk_sReadShareGroupStateRequestTopic, fsc_sReadShareGroupStateRequestTopic.has⟩, trivial⟩⟩, by kernel_rfl, by kernel_rfl, by kernel_rfl⟩
theorem fd_law : FOk Go.Proofs.Tryz.prog 5 2 (c_lawT NS MS 38 dS.maxI dS.tellI 23) [.var 3] := ⟨Go.Proofs.Tryz.f5, _, [0, 1, 3, 4, 12, 5, 15, 6, 7, 8, 9], Go.Proofs.Tryz.func5, rfl, by kernel_rfl, by kernel_rfl, by decide, by kernel_rfl, by kernel_rfl⟩
end Go.Kf

namespace Go.Proofs.YtplpomlhhaccgaaGreatDoor.fnTellReadShareGroupStateRequest
open Go.ChangeShapes Go.WideShapes Go.ChangeAt Go.RowKit Go.Kf

theorem reads (os : Os) {H : Type} (enc : TypeId × Value → H) : ∃ places, DataW.whole enc Go.Proofs.Tryz.prog ((World.doorLaid Go.Proofs.Tryz.prog 400 os).forCall (fun _ _ => 0) ⟨#[], #[.int .u8 0, .agg #[.int .i64 0, .slice none 0 0, .bool false, .slice none 0 0, .slice none 0 0]], []⟩).memory Go.Proofs.Tryz.f5.params.toList Rows.fnTellReadShareGroupStateRequestSpec.vars false #[Value.int .u8 0, .agg #[.int .i64 0, .slice none 0 0, .bool false, .slice none 0 0, .slice none 0 0]].toList 8 = some ([.lit (.int .u8 0), .agg [.lit (.int .i64 0), .nil, .lit (.bool false), .nil, .nil]], [], places) :=
  ⟨[], by kernel_rfl⟩
set_option maxHeartbeats 4000000 in
theorem lifted (os : Os) (started : os.Started) (H : Type) (enc : TypeId × Value → H) (F : Stop.Interp) :
    ReturnsInHanded {} Go.Proofs.Tryz.checked os 5 .any ((Rows.OpenSpec.upto Rows.fnTellReadShareGroupStateRequestSpec).preRow enc Go.Proofs.Tryz.prog Go.Proofs.Tryz.f5 Rows.fnTellReadShareGroupStateRequestUptoRow.domain false Rows.fnTellReadShareGroupStateRequestUptoRow.laid) (((Rows.OpenSpec.upto Rows.fnTellReadShareGroupStateRequestSpec).at F).post enc Go.Proofs.Tryz.prog Go.Proofs.Tryz.f5 false true false false) := by
  obtain ⟨places, hx⟩ := reads os enc
  refine returnsInHanded_of_row (C := Go.Proofs.Tryz.checked) (s := Rows.OpenSpec.upto Rows.fnTellReadShareGroupStateRequestSpec) own started (by kernel_rfl) Go.Proofs.Tryz.func5
    ⟨World.doorLaid Go.Proofs.Tryz.prog 400 os, fun _ _ => 0, ⟨#[], #[.int .u8 0, .agg #[.int .i64 0, .slice none 0 0, .bool false, .slice none 0 0, .slice none 0 0]], []⟩, rfl, shaped os _, rfl, (Input.okWide_of_okWideB (by kernel_rfl)).2,
      OpenSpec.preRow_of_cond 8 hx (by kernel_rfl) (fun k hk => by cases hk; kernel_rfl) (by kernel_rfl) (door_met os _), by
        simp only [Assume.holds]
        exact ⟨by simp, by simp, fun _ => Modest.zero, by simp, by simp⟩⟩ ?_
  intro W base args ds gs before hval0 hW _ hcond _ hL _ _
  have hval : ∀ (j : Nat) t v, Go.Proofs.Tryz.f5.params[j]? = some t → args[j]? = some v → Value.okWide Go.Proofs.Tryz.prog W .any base t v := hval0
  have hW' := hW
  obtain ⟨p, q, hA0, hV, rfl, hfz, hnd⟩ := hW
  have hA : DataW.TrodAll enc Go.Proofs.Tryz.prog W 0 (fun _ => true) true Go.Proofs.Tryz.f5.params.toList args.toList ds p := hA0
  rw [Go.Proofs.Tryz.params5] at hA hval
  obtain ⟨v0, vs0, d0, ds0, p0, q0, hargs, rfl, rfl, h0, r0⟩ := trodAll_cons hA
  obtain ⟨v1, vs1, d1, ds1, p1, q1, rfl, rfl, rfl, h1, r1⟩ := trodAll_cons r0
  obtain ⟨rfl, rfl, rfl⟩ := trodAll_nil r1
  obtain rfl : args = #[v0, v1] := by cases args; simp_all
  obtain ⟨rfl, rfl⟩ := trodVars_none hV
  obtain ⟨n0, rfl, rfl, rfl, w0⟩ := open_int Go.Proofs.Tryz.underlying5 (hval 0 5 v0 rfl rfl) h0
  obtain ⟨t, ct, rfl, ht, hwf, hsz⟩ := treeArg_of treeO baseS specT (bulkF H) (hval 1 26 v1 rfl rfl) h1
  have hc := hcond _ rfl
  have hsz2 : szT t ≤ 1048576 := by
    have hc2 : Rows.uptoBulkAll ([.lit (.int .u8 n0), d1] ++ []) ≤ 1048576 := of_decide_eq_true hc
    simp only [List.cons_append, List.nil_append, Rows.uptoBulkAll] at hc2
    omega
  have lt1 : ∀ x ∈ p1, x.block < W.heap.size := by obtain ⟨m, hm⟩ := h1; exact DataW.trod_lt m _ _ _ hm
  rw [MakeChecks.laidMetH_plain _ _ _ (by kernel_rfl)] at hL
  obtain ⟨a1, s1, hv1, _⟩ := laid_sentinel hL gO gT Go.Proofs.Tryz.underlying54 rowP Go.Proofs.Tryz.underlying236 Go.Proofs.Tryz.underlying254 rfl rfl Go.Proofs.Tryz.underlying9 cS cStr
  have hg : W.cell? ⟨1, 0, none⟩ = some (.iface 236 (.pointer (some a1))) := by simpa using World.var?_cell gO hv1 0
  have hn0 : 0 ≤ n0 ∧ n0 ≤ 255 := by
    simp [Lit.wf, IntKind.min, IntKind.max, IntKind.signed, IntKind.bits] at w0
    omega
  clear hA0 hval0
  refine Calls.mono (call_lawT baseS fnsS implT spT thSZ thSW thSTo (by decide) (by decide) (by decide) lawT fd_law (n := n0) hn0 ht hwf hsz2 hg) fun e W' ⟨v', he, hv', hm⟩ => ?_
  subst he hv'
  have bel := hm.below
  exact ⟨_, rfl, _, _, _, [], _, [], hW', trodAll_mk1 (shut_bool Go.Proofs.Tryz.underlying4 _), trodAll_cons_mk (shut_int Go.Proofs.Tryz.underlying5 w0) (trodAll_cons_mk (Below.trod laidOut (by kernel_rfl) (of_decide_eq_true (by kernel_rfl)) h1 bel lt1) trodAll_mk0), rfl, bel.frame _, fun h => by cases h⟩

set_option maxHeartbeats 4000000 in
theorem joined : joinedFacts Go.Proofs.Tryz.prog 5 Go.Proofs.Tryz.f5 (Rows.OpenSpec.upto Rows.fnTellReadShareGroupStateRequestSpec).bare Rows.fnTellReadShareGroupStateRequestUptoRow = true := by
  unfold joinedFacts
  exact bandT (bandT (bandT (bandT (bandT (bandT (bandT (bandT (bandT (bandT (bandT (bandT (bandT (bandT (bandT (bandT (bandT (bandT (bandT (bandT (bandT (bandT (bandT (bandT (bandT (bandT (bandT (bandT (bandT (bandT (bandT (by as_aux_lemma => kernel_rfl) laidOut) mapsRowedS) (by as_aux_lemma => kernel_rfl)) (by as_aux_lemma => kernel_rfl)) (by as_aux_lemma => kernel_rfl)) (by as_aux_lemma => kernel_rfl)) (by as_aux_lemma => kernel_rfl)) (by as_aux_lemma => kernel_rfl)) (by as_aux_lemma => kernel_rfl)) (by as_aux_lemma => kernel_rfl)) (by as_aux_lemma => kernel_rfl)) (by as_aux_lemma => kernel_rfl)) (by as_aux_lemma => kernel_rfl)) (by as_aux_lemma => kernel_rfl)) (by as_aux_lemma => kernel_rfl)) (by as_aux_lemma => kernel_rfl)) (by as_aux_lemma => kernel_rfl)) (by as_aux_lemma => kernel_rfl)) (by as_aux_lemma => kernel_rfl)) (by as_aux_lemma => kernel_rfl)) (by as_aux_lemma => kernel_rfl)) plainKeysS) (by as_aux_lemma => kernel_rfl)) stopsHeardS) bigEnter) bigLifts) bigMake) (by as_aux_lemma => kernel_rfl)) (by as_aux_lemma => kernel_rfl)) (by as_aux_lemma => kernel_rfl)) (by as_aux_lemma => kernel_rfl)
theorem named : Go.Proofs.Tryz.prog.funcNamed Rows.fnTellReadShareGroupStateRequestUptoRow.func = some 5 := by kernel_rfl
theorem isInst : Go.Proofs.Tryz.f5.isInstance Go.Proofs.Tryz.prog Rows.fnTellReadShareGroupStateRequestUptoRow.origin Rows.fnTellReadShareGroupStateRequestUptoRow.targs := of_decide_eq_true (by kernel_rfl)
theorem isWrap : Go.Proofs.Tryz.f5.isWrapper Go.Proofs.Tryz.prog Rows.fnTellReadShareGroupStateRequestUptoRow.wrapper Rows.fnTellReadShareGroupStateRequestUptoRow.mainSum := by unfold Func.isWrapper; first | (rw [if_pos (by decide +kernel)]; kernel_rfl) | (rw [if_neg (by decide +kernel)]; exact ⟨rfl, rfl⟩)
theorem row : Rows.FnTellReadShareGroupStateRequestUptoSaid :=
  OpenClaim.holds_of_cond 5 Go.Proofs.Tryz.f5 rfl rfl rfl rfl rfl rfl rfl ⟨rfl, rfl, rfl, rfl, rfl⟩ rfl rfl rfl rfl rfl named Go.Proofs.Tryz.func5 joined
    isInst isWrap
    (fun os started H enc _ F => by rw [OpenClaim.pre_eq_preRow]; exact lifted os started H enc F)
end Go.Proofs.YtplpomlhhaccgaaGreatDoor.fnTellReadShareGroupStateRequest

namespace Go.Proofs.YtplpomlhhaccgaaGreatDoor
open Go.Kf
set_option maxHeartbeats 4000000 in
theorem fnTellReadShareGroupStateRequest_card : Rows.FnTellReadShareGroupStateRequestUptoCardSaid :=
  Claim7.holds_tied_plain_at .later [] [.sentinel] true Rows.fnTellReadShareGroupStateRequestUptoCard.stood.harness false
    fnTellReadShareGroupStateRequest.row (fun _ h => by cases h) (by as_aux_lemma => kernel_rfl) (fun _ h => by cases h) fnTellReadShareGroupStateRequestUpto_row_tie rfl ⟨rfl, rfl⟩ mainS rfl
    (fun f fn hf hfn => by
      obtain rfl : f = 5 := Option.some.inj (fnTellReadShareGroupStateRequest.named.symm.trans hf) |>.symm
      obtain rfl : fn = Go.Proofs.Tryz.f5 := (Option.some.inj (Go.Proofs.Tryz.func5.symm.trans hfn)).symm
      refine ⟨looksS, fun j t ht => ?_⟩
      rw [Go.Proofs.Tryz.params5] at ht
      rcases j with _ | _ | j
      · obtain rfl : 5 = t := by simpa using ht
        exact (show Go.Proofs.Tryz.prog.wantsStandIn 5 = false by kernel_rfl)
      · obtain rfl : 26 = t := by simpa using ht
        exact (show Go.Proofs.Tryz.prog.wantsStandIn 26 = false by kernel_rfl)
      · simp at ht)
    (by as_aux_lemma => kernel_rfl)
#print axioms fnTellReadShareGroupStateRequest_card
end Go.Proofs.YtplpomlhhaccgaaGreatDoor
