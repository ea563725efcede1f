/- Default sets the fields that have a default, whatever was read ahead (laws.FnDefaultListPartitionReassignmentsRequest): the second form's tied card is proved, at every version number and every tree whose bulk is at most 1048576; no other condition. -/
import Derived.Test.YtccgofjnacenhaaDoorDs
set_option linter.unusedSimpArgs false
set_option linter.unusedVariables false
set_option maxRecDepth 100000
namespace Go.Kf
open Go

def tf : TypeId → FuncId × FuncId := fun | 76 => (25, 47) | _ => (0, 0)

def rListPartitionReassignmentsRequestTopic : Fds := .cons .all (.txt .str) (.cons .all (.arr 74 none (.pr .i32)) (.tags))
theorem df_ListPartitionReassignmentsRequestTopic : FOk Go.Proofs.Tryd.prog 41 1 (seqs (rListPartitionReassignmentsRequestTopic.dfl NS 76 0)) [] := ⟨Go.Proofs.Tryd.f41, _, [0], Go.Proofs.Tryd.func41, rfl, by kernel_rfl, by kernel_rfl, by decide, by kernel_rfl, by kernel_rfl⟩
theorem ft_ListPartitionReassignmentsRequestTopic : FOk Go.Proofs.Tryd.prog 25 1 (tellC NS tf 76 0 47 rListPartitionReassignmentsRequestTopic) [.cell 1 NS.zz] := ⟨Go.Proofs.Tryd.f25, _, [0, 2, 3, 29, 30, 31, 4, 34, 48, 49, 51], Go.Proofs.Tryd.func25, rfl, by kernel_rfl, by kernel_rfl, by decide, by kernel_rfl, by kernel_rfl⟩
theorem fc_ListPartitionReassignmentsRequestTopic : FOk Go.Proofs.Tryd.prog 47 3 (cTagFn NS) [] := ⟨Go.Proofs.Tryd.f47, _, [0, 1, 2], Go.Proofs.Tryd.func47, rfl, by kernel_rfl, by kernel_rfl, by decide, by kernel_rfl, by kernel_rfl⟩
theorem tl_ListPartitionReassignmentsRequestTopic : TellP Go.Proofs.Tryd.prog 25 0 rListPartitionReassignmentsRequestTopic := tellP baseS fnsS implT tellN (tf := tf) (Tt := 76) (idx0 := 0) ft_ListPartitionReassignmentsRequestTopic (fun _ => fc_ListPartitionReassignmentsRequestTopic) ⟨trivial, ⟨⟨zhi (by kernel_rfl), el_ti (fx := true) baseS fnsS _ (by kernel_rfl) trivial, trivial⟩, trivial⟩⟩ (Fds.ok_of (fx := true) (Tt := 76) (idx := 0) (off := 0) baseS fnsS rListPartitionReassignmentsRequestTopic (by kernel_rfl) ⟨trivial, ⟨trivial, trivial⟩⟩).2.1 (by decide)

def mS : Msg := ⟨70, 46, 18, 0, false, .cons .all (.pr .i32 (some (.int .i32 (60000)))) (.cons .all (.arr 65 (some (0)) (.row 76 73 41 (.cons .all (.txt .str) (.cons .all (.arr 74 none (.pr .i32)) (.tags))))) (.tags))⟩
def dS : zwj where
  newP := 13
  setV := 16
  maxV := 14
  readF := 17
  readf := 24
  tell := 19
  maxI := 5
  tellI := 8
theorem rd_m : FOk Go.Proofs.Tryd.prog 24 3 (mS.gen NS true) [.var 3] := ⟨Go.Proofs.Tryd.f24, _, [0, 1, 2, 6, 7, 8, 9, 10, 11, 12, 13, 14, 47, 55, 58, 63, 15, 69, 16, 17, 18, 78, 79, 82, 19, 20, 21, 94, 98, 103, 22, 109, 23, 122, 132], Go.Proofs.Tryd.func24, rfl, by kernel_rfl, by kernel_rfl, by decide, by kernel_rfl, by kernel_rfl⟩
theorem df_m : FOk Go.Proofs.Tryd.prog 18 1 (seqs (mS.fs.dfl NS mS.tT 1)) [] := ⟨Go.Proofs.Tryd.f18, _, [0], Go.Proofs.Tryd.func18, rfl, by kernel_rfl, by kernel_rfl, by decide, by kernel_rfl, by kernel_rfl⟩
theorem mt : MsgT Go.Proofs.Tryd.prog NS mS true := msgT_of baseS fnsS (by kernel_rfl) (by kernel_rfl) (by kernel_rfl) ⟨trivial, ⟨⟨df_ListPartitionReassignmentsRequestTopic, ⟨trivial, ⟨trivial, trivial⟩⟩⟩, trivial⟩⟩ df_m
theorem ft_ListPartitionReassignmentsRequest : FOk Go.Proofs.Tryd.prog 19 1 (tellC NS tf 70 1 27 mS.fs) [.cell 1 NS.zz] := ⟨Go.Proofs.Tryd.f19, _, [0, 2, 3, 29, 30, 31, 4, 34, 46, 47, 49], Go.Proofs.Tryd.func19, rfl, by kernel_rfl, by kernel_rfl, by decide, by kernel_rfl, by kernel_rfl⟩
theorem fc_ListPartitionReassignmentsRequest : FOk Go.Proofs.Tryd.prog 27 3 (cTagFn NS) [] := ⟨Go.Proofs.Tryd.f27, _, [0, 1, 2], Go.Proofs.Tryd.func27, rfl, by kernel_rfl, by kernel_rfl, by decide, by kernel_rfl, by kernel_rfl⟩
theorem tl_ListPartitionReassignmentsRequest : TellP Go.Proofs.Tryd.prog 19 1 mS.fs := tellP baseS fnsS implT tellN (tf := tf) (Tt := 70) (idx0 := 1) ft_ListPartitionReassignmentsRequest (fun _ => fc_ListPartitionReassignmentsRequest) ⟨trivial, ⟨⟨zhi (by kernel_rfl), el_ti (fx := true) baseS fnsS _ (by kernel_rfl) ⟨df_ListPartitionReassignmentsRequestTopic, ⟨trivial, ⟨trivial, trivial⟩⟩⟩, tl_ListPartitionReassignmentsRequestTopic⟩, trivial⟩⟩ mt.hf (by decide)
theorem fd_new : FOk Go.Proofs.Tryd.prog 13 0 (c_new NS mS.tT mS.dflt) [.var 0] := ⟨Go.Proofs.Tryd.f13, _, [0, 1], Go.Proofs.Tryd.func13, rfl, by kernel_rfl, by kernel_rfl, by decide, by kernel_rfl, by kernel_rfl⟩
theorem fd_set : FOk Go.Proofs.Tryd.prog 16 2 (c_set NS mS.tT) [] := ⟨Go.Proofs.Tryd.f16, _, [0, 1], Go.Proofs.Tryd.func16, rfl, by kernel_rfl, by kernel_rfl, by decide, by kernel_rfl, by kernel_rfl⟩
theorem door : DoorT Go.Proofs.Tryd.prog NS mS true dS where
  msg := mt
  vin := rfl
  ti := (tsB_ok (by' := bytesOf Go.Proofs.Tryd.prog 70) (by kernel_rfl)).imp fun _ h => ⟨_, h⟩
  newP := fd_new
  setV := fd_set
  readf := rd_m
  tell := tl_ListPartitionReassignmentsRequest
  dok := ⟨⟨_, rfl, by decide⟩, ⟨⟨trivial, trivial⟩, trivial⟩⟩
  shB := by kernel_rfl
  cnt := by decide
theorem fd_rf : FOk Go.Proofs.Tryd.prog 17 2 (c_rf NS mS.pT 24 false) [.var 2] := ⟨Go.Proofs.Tryd.f17, _, [0, 1, 4], Go.Proofs.Tryd.func17, rfl, by kernel_rfl, by kernel_rfl, by decide, by kernel_rfl, by kernel_rfl⟩
theorem fd_mv : FOk Go.Proofs.Tryd.prog 14 1 (c_max 0) [.var 1] := ⟨Go.Proofs.Tryd.f14, _, [0, 2], Go.Proofs.Tryd.func14, rfl, by kernel_rfl, by kernel_rfl, by decide, by kernel_rfl, by kernel_rfl⟩
theorem fd_mi : FOk Go.Proofs.Tryd.prog 5 0 (c_maxI NS mS.pT 13 14) [.var 0] := ⟨Go.Proofs.Tryd.f5, _, [0], Go.Proofs.Tryd.func5, rfl, by kernel_rfl, by kernel_rfl, by decide, by kernel_rfl, by kernel_rfl⟩
theorem fd_tellI : FOk Go.Proofs.Tryd.prog 8 2 (zxl NS mS.pT 13 16 17 19 18) [.cell 2 NS.zz, .var 3] := ⟨Go.Proofs.Tryd.f8, _, [0, 1, 4, 5, 6, 16], Go.Proofs.Tryd.func8, rfl, by kernel_rfl, by kernel_rfl, by decide, by kernel_rfl, by kernel_rfl⟩

def sc_sListPartitionReassignmentsRequestTopic : List SC := [.mk [(0, 8), (2, -1), (3, -1), (4, -1)] none [], .mk [(0, 11), (2, -1), (3, -1), (4, -1), (6, 3)] none []]
theorem fsc_sListPartitionReassignmentsRequestTopic : FOk Go.Proofs.Tryd.prog 15 0 (c_flds MS sc_sListPartitionReassignmentsRequestTopic) [.var 0] := ⟨Go.Proofs.Tryd.f15, _, [0], Go.Proofs.Tryd.func15, rfl, by kernel_rfl, by kernel_rfl, by decide, by kernel_rfl, by kernel_rfl⟩
theorem mk_sListPartitionReassignmentsRequestTopic : MkOk Go.Proofs.Tryd.prog 15 (SC.flds sc_sListPartitionReassignmentsRequestTopic) := mk_flds (l := sc_sListPartitionReassignmentsRequestTopic) spT (by kernel_rfl) ⟨rfl, ⟨rfl, trivial⟩⟩ fsc_sListPartitionReassignmentsRequestTopic

def sc_ListPartitionReassignmentsRequest : List SC := [.mk [(0, 3), (2, -1), (3, -1), (4, -1), (5, 60000)] none [], .mk [(0, 11), (2, -1), (3, 0), (4, -1), (6, 10)] (some 15) sc_sListPartitionReassignmentsRequestTopic]
theorem fsc_ListPartitionReassignmentsRequest : FOk Go.Proofs.Tryd.prog 6 0 (c_msg MS sc_ListPartitionReassignmentsRequest (0)) [.cell 0 MS.zas] := ⟨Go.Proofs.Tryd.f6, _, [0], Go.Proofs.Tryd.func6, rfl, by kernel_rfl, by kernel_rfl, by decide, by kernel_rfl, by kernel_rfl⟩
theorem lawT : LawDD Go.Proofs.Tryd.prog NS MS mS true dS 0 6 10 sc_ListPartitionReassignmentsRequest (0) := ⟨door, fd_rf, fd_mv, fd_mi, fd_tellI, by decide, by decide, by decide, fsc_ListPartitionReassignmentsRequest, by kernel_rfl, ⟨rfl, ⟨⟨mk_sListPartitionReassignmentsRequestTopic, fsc_sListPartitionReassignmentsRequestTopic.has⟩, trivial⟩⟩, by kernel_rfl, by kernel_rfl, sp_df, fpT, sp_spec_number, by kernel_rfl⟩
theorem fd_law : FOk Go.Proofs.Tryd.prog 3 2 (c_lawD NS MS 38 dS.maxI dS.tellI 6 10) [.var 3] := ⟨Go.Proofs.Tryd.f3, _, [0, 1, 3, 4, 12, 5, 15, 6, 7, 8, 9], Go.Proofs.Tryd.func3, rfl, by kernel_rfl, by kernel_rfl, by decide, by kernel_rfl, by kernel_rfl⟩
end Go.Kf

namespace Go.Proofs.YtccgofjnacenhaaDoor.fnDefaultListPartitionReassignmentsRequest
open Go.ChangeShapes Go.WideShapes Go.ChangeAt Go.RowKit Go.Kf

theorem reads (os : Os) {H : Type} (enc : TypeId × Value → H) : ∃ places, DataW.whole enc Go.Proofs.Tryd.prog ((World.doorLaid Go.Proofs.Tryd.prog 400 os).forCall (fun _ _ => 0) ⟨#[], #[.int .u8 0, .agg #[.int .i64 0, .slice none 0 0, .bool false, .slice none 0 0, .slice none 0 0]], []⟩).memory Go.Proofs.Tryd.f3.params.toList Rows.fnDefaultListPartitionReassignmentsRequestSpec.vars false #[Value.int .u8 0, .agg #[.int .i64 0, .slice none 0 0, .bool false, .slice none 0 0, .slice none 0 0]].toList 8 = some ([.lit (.int .u8 0), .agg [.lit (.int .i64 0), .nil, .lit (.bool false), .nil, .nil]], [], places) :=
  ⟨[], by kernel_rfl⟩
set_option maxHeartbeats 4000000 in
theorem lifted (os : Os) (started : os.Started) (H : Type) (enc : TypeId × Value → H) (F : Stop.Interp) :
    ReturnsInHanded {} Go.Proofs.Tryd.checked os 3 .any ((Rows.OpenSpec.upto Rows.fnDefaultListPartitionReassignmentsRequestSpec).preRow enc Go.Proofs.Tryd.prog Go.Proofs.Tryd.f3 Rows.fnDefaultListPartitionReassignmentsRequestUptoRow.domain false Rows.fnDefaultListPartitionReassignmentsRequestUptoRow.laid) (((Rows.OpenSpec.upto Rows.fnDefaultListPartitionReassignmentsRequestSpec).at F).post enc Go.Proofs.Tryd.prog Go.Proofs.Tryd.f3 false true false false) := by
  obtain ⟨places, hx⟩ := reads os enc
  refine returnsInHanded_of_row (C := Go.Proofs.Tryd.checked) (s := Rows.OpenSpec.upto Rows.fnDefaultListPartitionReassignmentsRequestSpec) own started (by kernel_rfl) Go.Proofs.Tryd.func3
    ⟨World.doorLaid Go.Proofs.Tryd.prog 400 os, fun _ _ => 0, ⟨#[], #[.int .u8 0, .agg #[.int .i64 0, .slice none 0 0, .bool false, .slice none 0 0, .slice none 0 0]], []⟩, rfl, shaped os _, rfl, (Input.okWide_of_okWideB (by kernel_rfl)).2,
      OpenSpec.preRow_of_cond 8 hx (by kernel_rfl) (fun k hk => by cases hk; kernel_rfl) (by kernel_rfl) (door_met os _), by
        simp only [Assume.holds]
        exact ⟨by simp, by simp, fun _ => Modest.zero, by simp, by simp⟩⟩ ?_
  intro W base args ds gs before hval0 hW _ hcond _ hL _ _
  have hval : ∀ (j : Nat) t v, Go.Proofs.Tryd.f3.params[j]? = some t → args[j]? = some v → Value.okWide Go.Proofs.Tryd.prog W .any base t v := hval0
  have hW' := hW
  obtain ⟨p, q, hA0, hV, rfl, hfz, hnd⟩ := hW
  have hA : DataW.TrodAll enc Go.Proofs.Tryd.prog W 0 (fun _ => true) true Go.Proofs.Tryd.f3.params.toList args.toList ds p := hA0
  rw [Go.Proofs.Tryd.params3] at hA hval
  obtain ⟨v0, vs0, d0, ds0, p0, q0, hargs, rfl, rfl, h0, r0⟩ := trodAll_cons hA
  obtain ⟨v1, vs1, d1, ds1, p1, q1, rfl, rfl, rfl, h1, r1⟩ := trodAll_cons r0
  obtain ⟨rfl, rfl, rfl⟩ := trodAll_nil r1
  obtain rfl : args = #[v0, v1] := by cases args; simp_all
  obtain ⟨rfl, rfl⟩ := trodVars_none hV
  obtain ⟨n0, rfl, rfl, rfl, w0⟩ := open_int Go.Proofs.Tryd.underlying5 (hval 0 5 v0 rfl rfl) h0
  obtain ⟨t, ct, rfl, ht, hwf, hsz⟩ := treeArg_of treeO baseS specT (bulkF H) (hval 1 26 v1 rfl rfl) h1
  have hc := hcond _ rfl
  have hsz2 : szT t ≤ 1048576 := by
    have hc2 : Rows.uptoBulkAll ([.lit (.int .u8 n0), d1] ++ []) ≤ 1048576 := of_decide_eq_true hc
    simp only [List.cons_append, List.nil_append, Rows.uptoBulkAll] at hc2
    omega
  have lt1 : ∀ x ∈ p1, x.block < W.heap.size := by obtain ⟨m, hm⟩ := h1; exact DataW.trod_lt m _ _ _ hm
  rw [MakeChecks.laidMetH_plain _ _ _ (by kernel_rfl)] at hL
  obtain ⟨a1, s1, hv1, _⟩ := laid_sentinel hL gO gT Go.Proofs.Tryd.underlying54 rowP Go.Proofs.Tryd.underlying152 Go.Proofs.Tryd.underlying170 rfl rfl Go.Proofs.Tryd.underlying9 cS cStr
  have hg : W.cell? ⟨1, 0, none⟩ = some (.iface 152 (.pointer (some a1))) := by simpa using World.var?_cell gO hv1 0
  have hn0 : 0 ≤ n0 ∧ n0 ≤ 255 := by
    simp [Lit.wf, IntKind.min, IntKind.max, IntKind.signed, IntKind.bits] at w0
    omega
  clear hA0 hval0
  refine Calls.mono (call_lawD baseS fnsS implT spT thSZ thSW (by decide) (by decide) lawT fd_law (n := n0) hn0 ht hwf hsz2 hg) fun e W' ⟨v', he, hv', hm⟩ => ?_
  subst he hv'
  have bel := hm.below
  exact ⟨_, rfl, _, _, _, [], _, [], hW', trodAll_mk1 (shut_bool Go.Proofs.Tryd.underlying4 _), trodAll_cons_mk (shut_int Go.Proofs.Tryd.underlying5 w0) (trodAll_cons_mk (Below.trod laidOut (by kernel_rfl) (of_decide_eq_true (by kernel_rfl)) h1 bel lt1) trodAll_mk0), rfl, bel.frame _, fun h => by cases h⟩

set_option maxHeartbeats 4000000 in
theorem joined : joinedFacts Go.Proofs.Tryd.prog 3 Go.Proofs.Tryd.f3 (Rows.OpenSpec.upto Rows.fnDefaultListPartitionReassignmentsRequestSpec).bare Rows.fnDefaultListPartitionReassignmentsRequestUptoRow = true := by
  unfold joinedFacts
  exact bandT (bandT (bandT (bandT (bandT (bandT (bandT (bandT (bandT (bandT (bandT (bandT (bandT (bandT (bandT (bandT (bandT (bandT (bandT (bandT (bandT (bandT (bandT (bandT (bandT (bandT (bandT (bandT (bandT (bandT (bandT (by as_aux_lemma => kernel_rfl) laidOut) mapsRowedS) (by as_aux_lemma => kernel_rfl)) (by as_aux_lemma => kernel_rfl)) (by as_aux_lemma => kernel_rfl)) (by as_aux_lemma => kernel_rfl)) (by as_aux_lemma => kernel_rfl)) (by as_aux_lemma => kernel_rfl)) (by as_aux_lemma => kernel_rfl)) (by as_aux_lemma => kernel_rfl)) (by as_aux_lemma => kernel_rfl)) (by as_aux_lemma => kernel_rfl)) (by as_aux_lemma => kernel_rfl)) (by as_aux_lemma => kernel_rfl)) (by as_aux_lemma => kernel_rfl)) (by as_aux_lemma => kernel_rfl)) (by as_aux_lemma => kernel_rfl)) (by as_aux_lemma => kernel_rfl)) (by as_aux_lemma => kernel_rfl)) (by as_aux_lemma => kernel_rfl)) (by as_aux_lemma => kernel_rfl)) plainKeysS) (by as_aux_lemma => kernel_rfl)) stopsHeardS) bigEnter) bigLifts) bigMake) (by as_aux_lemma => kernel_rfl)) (by as_aux_lemma => kernel_rfl)) (by as_aux_lemma => kernel_rfl)) (by as_aux_lemma => kernel_rfl)
theorem named : Go.Proofs.Tryd.prog.funcNamed Rows.fnDefaultListPartitionReassignmentsRequestUptoRow.func = some 3 := by kernel_rfl
theorem isInst : Go.Proofs.Tryd.f3.isInstance Go.Proofs.Tryd.prog Rows.fnDefaultListPartitionReassignmentsRequestUptoRow.origin Rows.fnDefaultListPartitionReassignmentsRequestUptoRow.targs := of_decide_eq_true (by kernel_rfl)
theorem isWrap : Go.Proofs.Tryd.f3.isWrapper Go.Proofs.Tryd.prog Rows.fnDefaultListPartitionReassignmentsRequestUptoRow.wrapper Rows.fnDefaultListPartitionReassignmentsRequestUptoRow.mainSum := by unfold Func.isWrapper; first | (rw [if_pos (by decide +kernel)]; kernel_rfl) | (rw [if_neg (by decide +kernel)]; exact ⟨rfl, rfl⟩)
theorem row : Rows.FnDefaultListPartitionReassignmentsRequestUptoSaid :=
  OpenClaim.holds_of_cond 3 Go.Proofs.Tryd.f3 rfl rfl rfl rfl rfl rfl rfl ⟨rfl, rfl, rfl, rfl, rfl⟩ rfl rfl rfl rfl rfl named Go.Proofs.Tryd.func3 joined
    isInst isWrap
    (fun os started H enc _ F => by rw [OpenClaim.pre_eq_preRow]; exact lifted os started H enc F)
end Go.Proofs.YtccgofjnacenhaaDoor.fnDefaultListPartitionReassignmentsRequest

namespace Go.Proofs.YtccgofjnacenhaaDoor
open Go.Kf
set_option maxHeartbeats 4000000 in
theorem fnDefaultListPartitionReassignmentsRequest_card : Rows.FnDefaultListPartitionReassignmentsRequestUptoCardSaid :=
  Claim7.holds_tied_plain_at .later [] [.sentinel] true Rows.fnDefaultListPartitionReassignmentsRequestUptoCard.stood.harness false
    fnDefaultListPartitionReassignmentsRequest.row (fun _ h => by cases h) (by as_aux_lemma => kernel_rfl) (fun _ h => by cases h) fnDefaultListPartitionReassignmentsRequestUpto_row_tie rfl ⟨rfl, rfl⟩ mainS rfl
    (fun f fn hf hfn => by
      obtain rfl : f = 3 := Option.some.inj (fnDefaultListPartitionReassignmentsRequest.named.symm.trans hf) |>.symm
      obtain rfl : fn = Go.Proofs.Tryd.f3 := (Option.some.inj (Go.Proofs.Tryd.func3.symm.trans hfn)).symm
      refine ⟨looksS, fun j t ht => ?_⟩
      rw [Go.Proofs.Tryd.params3] at ht
      rcases j with _ | _ | j
      · obtain rfl : 5 = t := by simpa using ht
        exact (show Go.Proofs.Tryd.prog.wantsStandIn 5 = false by kernel_rfl)
      · obtain rfl : 26 = t := by simpa using ht
        exact (show Go.Proofs.Tryd.prog.wantsStandIn 26 = false by kernel_rfl)
      · simp at ht)
    (by as_aux_lemma => kernel_rfl)
#print axioms fnDefaultListPartitionReassignmentsRequest_card
end Go.Proofs.YtccgofjnacenhaaDoor
