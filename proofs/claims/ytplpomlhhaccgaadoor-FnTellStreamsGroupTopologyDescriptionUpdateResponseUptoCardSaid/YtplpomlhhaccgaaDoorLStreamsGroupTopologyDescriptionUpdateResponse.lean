/- Of a message that is written by the protocol just its fields are told (laws.FnTellStreamsGroupTopologyDescriptionUpdateResponse): the second form's tied card is proved, at every version number and every tree whose bulk is at most 1048576; no other condition. -/
import Derived.Test.YtplpomlhhaccgaaDoorKs
set_option linter.unusedSimpArgs false
set_option linter.unusedVariables false
set_option maxRecDepth 100000
namespace Go.Kf
open Go

def tf : TypeId → FuncId × FuncId := fun | _ => (0, 0)

def mS : Msg := ⟨126, 85, 91, 0, false, .cons .all (.pr .i32 none) (.cons .all (.pr .i16 none) (.cons .all (.txt .nstr) (.tags)))⟩
def dS : zvm where
  newP := 61
  setV := 63
  maxV := 62
  readF := 64
  readf := 92
  tell := 65
  maxI := 26
  tellI := 28
theorem rd_m : FOk Go.Proofs.Tryd.prog 92 3 (mS.gen NS true) [.var 3] := ⟨Go.Proofs.Tryd.f92, _, [0, 1, 2, 6, 7, 8, 9, 10, 11, 12, 13, 37, 38, 41, 48], Go.Proofs.Tryd.func92, rfl, by kernel_rfl, by kernel_rfl, by decide, by kernel_rfl, by kernel_rfl⟩
theorem df_m : FOk Go.Proofs.Tryd.prog 91 1 (seqs (mS.fs.dfl NS mS.tT 1)) [] := ⟨Go.Proofs.Tryd.f91, _, [0], Go.Proofs.Tryd.func91, rfl, by kernel_rfl, by kernel_rfl, by decide, by kernel_rfl, by kernel_rfl⟩
theorem mt : MsgT Go.Proofs.Tryd.prog NS mS true := msgT_of baseS fnsS (by kernel_rfl) (by kernel_rfl) (by kernel_rfl) ⟨trivial, ⟨trivial, ⟨trivial, trivial⟩⟩⟩ df_m
theorem ft_StreamsGroupTopologyDescriptionUpdateResponse : FOk Go.Proofs.Tryd.prog 65 1 (tellC NS tf 126 1 93 mS.fs) [.cell 1 NS.zab] := ⟨Go.Proofs.Tryd.f65, _, [0, 2, 3], Go.Proofs.Tryd.func65, rfl, by kernel_rfl, by kernel_rfl, by decide, by kernel_rfl, by kernel_rfl⟩
theorem fc_StreamsGroupTopologyDescriptionUpdateResponse : FOk Go.Proofs.Tryd.prog 93 3 (cTagFn NS) [] := ⟨Go.Proofs.Tryd.f93, _, [0, 1, 2], Go.Proofs.Tryd.func93, rfl, by kernel_rfl, by kernel_rfl, by decide, by kernel_rfl, by kernel_rfl⟩
theorem tl_StreamsGroupTopologyDescriptionUpdateResponse : TellP Go.Proofs.Tryd.prog 65 1 mS.fs := tellP baseS fnsS implT tellN (tf := tf) (Tt := 126) (idx0 := 1) ft_StreamsGroupTopologyDescriptionUpdateResponse (fun _ => fc_StreamsGroupTopologyDescriptionUpdateResponse) ⟨trivial, ⟨trivial, ⟨⟨by decide, by decide⟩, trivial⟩⟩⟩ mt.hf (by decide)
theorem fd_new : FOk Go.Proofs.Tryd.prog 61 0 (c_new NS mS.tT mS.dflt) [.var 0] := ⟨Go.Proofs.Tryd.f61, _, [0, 1], Go.Proofs.Tryd.func61, rfl, by kernel_rfl, by kernel_rfl, by decide, by kernel_rfl, by kernel_rfl⟩
theorem fd_set : FOk Go.Proofs.Tryd.prog 63 2 (c_set NS mS.tT) [] := ⟨Go.Proofs.Tryd.f63, _, [0, 1], Go.Proofs.Tryd.func63, rfl, by kernel_rfl, by kernel_rfl, by decide, by kernel_rfl, by kernel_rfl⟩
theorem door : zys Go.Proofs.Tryd.prog NS mS true dS where
  msg := mt
  vin := rfl
  ti := (tsB_ok (by' := bytesOf Go.Proofs.Tryd.prog 126) (by kernel_rfl)).imp fun _ h => ⟨_, h⟩
  newP := fd_new
  setV := fd_set
  readf := rd_m
  tell := tl_StreamsGroupTopologyDescriptionUpdateResponse
  dok := ⟨⟨_, rfl, by decide⟩, ⟨⟨_, rfl, by decide⟩, trivial⟩⟩
  shB := by kernel_rfl
  cnt := by decide
theorem fd_rf : FOk Go.Proofs.Tryd.prog 64 2 (c_rf NS mS.pT 92 false) [.var 2] := ⟨Go.Proofs.Tryd.f64, _, [0, 1, 4], Go.Proofs.Tryd.func64, rfl, by kernel_rfl, by kernel_rfl, by decide, by kernel_rfl, by kernel_rfl⟩
theorem fd_mv : FOk Go.Proofs.Tryd.prog 62 1 (c_max 0) [.var 1] := ⟨Go.Proofs.Tryd.f62, _, [0, 2], Go.Proofs.Tryd.func62, rfl, by kernel_rfl, by kernel_rfl, by decide, by kernel_rfl, by kernel_rfl⟩
theorem fd_mi : FOk Go.Proofs.Tryd.prog 26 0 (c_maxI NS mS.pT 61 62) [.var 0] := ⟨Go.Proofs.Tryd.f26, _, [0], Go.Proofs.Tryd.func26, rfl, by kernel_rfl, by kernel_rfl, by decide, by kernel_rfl, by kernel_rfl⟩
theorem fd_tellI : FOk Go.Proofs.Tryd.prog 28 2 (c_door NS mS.pT 61 63 64 65) [.cell 2 NS.zab, .var 3] := ⟨Go.Proofs.Tryd.f28, _, [0, 1, 4, 5, 6, 16], Go.Proofs.Tryd.func28, rfl, by kernel_rfl, by kernel_rfl, by decide, by kernel_rfl, by kernel_rfl⟩

def sc_StreamsGroupTopologyDescriptionUpdateResponse : List SC := [.mk [(0, 3), (2, -1), (3, -1), (4, -1)] none [], .mk [(0, 2), (2, -1), (3, -1), (4, -1)] none [], .mk [(0, 8), (2, -1), (3, 0), (4, -1)] none []]
theorem fsc_StreamsGroupTopologyDescriptionUpdateResponse : FOk Go.Proofs.Tryd.prog 27 0 (c_msg MS sc_StreamsGroupTopologyDescriptionUpdateResponse (0)) [.cell 0 MS.zam] := ⟨Go.Proofs.Tryd.f27, _, [0], Go.Proofs.Tryd.func27, rfl, by kernel_rfl, by kernel_rfl, by decide, by kernel_rfl, by kernel_rfl⟩
theorem lawT : LawTT Go.Proofs.Tryd.prog NS MS mS true dS 0 27 sc_StreamsGroupTopologyDescriptionUpdateResponse (0) := ⟨door, fd_rf, fd_mv, fd_mi, fd_tellI, by decide, by decide, by decide, fsc_StreamsGroupTopologyDescriptionUpdateResponse, by kernel_rfl, ⟨rfl, ⟨rfl, ⟨rfl, trivial⟩⟩⟩, by kernel_rfl, by kernel_rfl, by kernel_rfl⟩
theorem fd_law : FOk Go.Proofs.Tryd.prog 7 2 (c_lawT NS MS 38 dS.maxI dS.tellI 27) [.var 3] := ⟨Go.Proofs.Tryd.f7, _, [0, 1, 3, 4, 12, 5, 15, 6, 7, 8, 9], Go.Proofs.Tryd.func7, rfl, by kernel_rfl, by kernel_rfl, by decide, by kernel_rfl, by kernel_rfl⟩
end Go.Kf

namespace Go.Proofs.YtplpomlhhaccgaaDoor.fnTellStreamsGroupTopologyDescriptionUpdateResponse
open Go.ChangeShapes Go.WideShapes Go.ChangeAt Go.RowKit Go.Kf

theorem reads (os : Os) {H : Type} (enc : TypeId × Value → H) : ∃ places, DataW.whole enc Go.Proofs.Tryd.prog ((World.doorLaid Go.Proofs.Tryd.prog 400 os).forCall (fun _ _ => 0) ⟨#[], #[.int .u8 0, .agg #[.int .i64 0, .slice none 0 0, .bool false, .slice none 0 0, .slice none 0 0]], []⟩).memory Go.Proofs.Tryd.f7.params.toList Rows.fnTellStreamsGroupTopologyDescriptionUpdateResponseSpec.vars false #[Value.int .u8 0, .agg #[.int .i64 0, .slice none 0 0, .bool false, .slice none 0 0, .slice none 0 0]].toList 8 = some ([.lit (.int .u8 0), .agg [.lit (.int .i64 0), .nil, .lit (.bool false), .nil, .nil]], [], places) :=
  ⟨[], by kernel_rfl⟩
set_option maxHeartbeats 4000000 in
theorem lifted (os : Os) (started : os.Started) (H : Type) (enc : TypeId × Value → H) (F : Stop.Interp) :
    ReturnsInHanded {} Go.Proofs.Tryd.checked os 7 .any ((Rows.OpenSpec.upto Rows.fnTellStreamsGroupTopologyDescriptionUpdateResponseSpec).preRow enc Go.Proofs.Tryd.prog Go.Proofs.Tryd.f7 Rows.fnTellStreamsGroupTopologyDescriptionUpdateResponseUptoRow.domain false Rows.fnTellStreamsGroupTopologyDescriptionUpdateResponseUptoRow.laid) (((Rows.OpenSpec.upto Rows.fnTellStreamsGroupTopologyDescriptionUpdateResponseSpec).at F).post enc Go.Proofs.Tryd.prog Go.Proofs.Tryd.f7 false true false false) := by
  obtain ⟨places, hx⟩ := reads os enc
  refine returnsInHanded_of_row (C := Go.Proofs.Tryd.checked) (s := Rows.OpenSpec.upto Rows.fnTellStreamsGroupTopologyDescriptionUpdateResponseSpec) own started (by kernel_rfl) Go.Proofs.Tryd.func7
    ⟨World.doorLaid Go.Proofs.Tryd.prog 400 os, fun _ _ => 0, ⟨#[], #[.int .u8 0, .agg #[.int .i64 0, .slice none 0 0, .bool false, .slice none 0 0, .slice none 0 0]], []⟩, rfl, shaped os _, rfl, (Input.okWide_of_okWideB (by kernel_rfl)).2,
      OpenSpec.preRow_of_cond 8 hx (by kernel_rfl) (fun k hk => by cases hk; kernel_rfl) (by kernel_rfl) (door_met os _), by
        simp only [Assume.holds]
        exact ⟨by simp, by simp, fun _ => Modest.zero, by simp, by simp⟩⟩ ?_
  intro W base args ds gs before hval0 hW _ hcond _ hL _ _
  have hval : ∀ (j : Nat) t v, Go.Proofs.Tryd.f7.params[j]? = some t → args[j]? = some v → Value.okWide Go.Proofs.Tryd.prog W .any base t v := hval0
  have hW' := hW
  obtain ⟨p, q, hA0, hV, rfl, hfz, hnd⟩ := hW
  have hA : DataW.TrodAll enc Go.Proofs.Tryd.prog W 0 (fun _ => true) true Go.Proofs.Tryd.f7.params.toList args.toList ds p := hA0
  rw [Go.Proofs.Tryd.params7] at hA hval
  obtain ⟨v0, vs0, d0, ds0, p0, q0, hargs, rfl, rfl, h0, r0⟩ := trodAll_cons hA
  obtain ⟨v1, vs1, d1, ds1, p1, q1, rfl, rfl, rfl, h1, r1⟩ := trodAll_cons r0
  obtain ⟨rfl, rfl, rfl⟩ := trodAll_nil r1
  obtain rfl : args = #[v0, v1] := by cases args; simp_all
  obtain ⟨rfl, rfl⟩ := trodVars_none hV
  obtain ⟨n0, rfl, rfl, rfl, w0⟩ := open_int Go.Proofs.Tryd.underlying5 (hval 0 5 v0 rfl rfl) h0
  obtain ⟨t, ct, rfl, ht, hwf, hsz⟩ := treeArg_of treeO baseS specT (bulkF H) (hval 1 26 v1 rfl rfl) h1
  have hc := hcond _ rfl
  have hsz2 : szT t ≤ 1048576 := by
    have hc2 : Rows.uptoBulkAll ([.lit (.int .u8 n0), d1] ++ []) ≤ 1048576 := of_decide_eq_true hc
    simp only [List.cons_append, List.nil_append, Rows.uptoBulkAll] at hc2
    omega
  have lt1 : ∀ x ∈ p1, x.block < W.heap.size := by obtain ⟨m, hm⟩ := h1; exact DataW.trod_lt m _ _ _ hm
  rw [MakeChecks.laidMetH_plain _ _ _ (by kernel_rfl)] at hL
  obtain ⟨a1, s1, hv1, _⟩ := laid_sentinel hL gO gT Go.Proofs.Tryd.underlying56 rowP Go.Proofs.Tryd.underlying193 Go.Proofs.Tryd.underlying211 rfl rfl Go.Proofs.Tryd.underlying9 cS cStr
  have hg : W.cell? ⟨1, 0, none⟩ = some (.iface 193 (.pointer (some a1))) := by simpa using World.var?_cell gO hv1 0
  have hn0 : 0 ≤ n0 ∧ n0 ≤ 255 := by
    simp [Lit.wf, IntKind.min, IntKind.max, IntKind.signed, IntKind.bits] at w0
    omega
  clear hA0 hval0
  refine Calls.mono (call_lawT baseS fnsS implT spT thSZ thSW thSTo (by decide) (by decide) (by decide) lawT fd_law (n := n0) hn0 ht hwf hsz2 hg) fun e W' ⟨v', he, hv', hm⟩ => ?_
  subst he hv'
  have bel := hm.below
  exact ⟨_, rfl, _, _, _, [], _, [], hW', trodAll_mk1 (shut_bool Go.Proofs.Tryd.underlying4 _), trodAll_cons_mk (shut_int Go.Proofs.Tryd.underlying5 w0) (trodAll_cons_mk (Below.trod laidOut (by kernel_rfl) (of_decide_eq_true (by kernel_rfl)) h1 bel lt1) trodAll_mk0), rfl, bel.frame _, fun h => by cases h⟩

set_option maxHeartbeats 4000000 in
theorem joined : joinedFacts Go.Proofs.Tryd.prog 7 Go.Proofs.Tryd.f7 (Rows.OpenSpec.upto Rows.fnTellStreamsGroupTopologyDescriptionUpdateResponseSpec).bare Rows.fnTellStreamsGroupTopologyDescriptionUpdateResponseUptoRow = true := by
  unfold joinedFacts
  exact bandT (bandT (bandT (bandT (bandT (bandT (bandT (bandT (bandT (bandT (bandT (bandT (bandT (bandT (bandT (bandT (bandT (bandT (bandT (bandT (bandT (bandT (bandT (bandT (bandT (bandT (bandT (bandT (bandT (bandT (bandT (by as_aux_lemma => kernel_rfl) laidOut) mapsRowedS) (by as_aux_lemma => kernel_rfl)) (by as_aux_lemma => kernel_rfl)) (by as_aux_lemma => kernel_rfl)) (by as_aux_lemma => kernel_rfl)) (by as_aux_lemma => kernel_rfl)) (by as_aux_lemma => kernel_rfl)) (by as_aux_lemma => kernel_rfl)) (by as_aux_lemma => kernel_rfl)) (by as_aux_lemma => kernel_rfl)) (by as_aux_lemma => kernel_rfl)) (by as_aux_lemma => kernel_rfl)) (by as_aux_lemma => kernel_rfl)) (by as_aux_lemma => kernel_rfl)) (by as_aux_lemma => kernel_rfl)) (by as_aux_lemma => kernel_rfl)) (by as_aux_lemma => kernel_rfl)) (by as_aux_lemma => kernel_rfl)) (by as_aux_lemma => kernel_rfl)) (by as_aux_lemma => kernel_rfl)) plainKeysS) (by as_aux_lemma => kernel_rfl)) stopsHeardS) bigEnter) bigLifts) bigMake) (by as_aux_lemma => kernel_rfl)) (by as_aux_lemma => kernel_rfl)) (by as_aux_lemma => kernel_rfl)) (by as_aux_lemma => kernel_rfl)
theorem named : Go.Proofs.Tryd.prog.funcNamed Rows.fnTellStreamsGroupTopologyDescriptionUpdateResponseUptoRow.func = some 7 := by kernel_rfl
theorem isInst : Go.Proofs.Tryd.f7.isInstance Go.Proofs.Tryd.prog Rows.fnTellStreamsGroupTopologyDescriptionUpdateResponseUptoRow.origin Rows.fnTellStreamsGroupTopologyDescriptionUpdateResponseUptoRow.targs := of_decide_eq_true (by kernel_rfl)
theorem isWrap : Go.Proofs.Tryd.f7.isWrapper Go.Proofs.Tryd.prog Rows.fnTellStreamsGroupTopologyDescriptionUpdateResponseUptoRow.wrapper Rows.fnTellStreamsGroupTopologyDescriptionUpdateResponseUptoRow.mainSum := by unfold Func.isWrapper; first | (rw [if_pos (by decide +kernel)]; kernel_rfl) | (rw [if_neg (by decide +kernel)]; exact ⟨rfl, rfl⟩)
theorem row : Rows.FnTellStreamsGroupTopologyDescriptionUpdateResponseUptoSaid :=
  OpenClaim.holds_of_cond 7 Go.Proofs.Tryd.f7 rfl rfl rfl rfl rfl rfl rfl ⟨rfl, rfl, rfl, rfl, rfl⟩ rfl rfl rfl rfl rfl named Go.Proofs.Tryd.func7 joined
    isInst isWrap
    (fun os started H enc _ F => by rw [OpenClaim.pre_eq_preRow]; exact lifted os started H enc F)
end Go.Proofs.YtplpomlhhaccgaaDoor.fnTellStreamsGroupTopologyDescriptionUpdateResponse

namespace Go.Proofs.YtplpomlhhaccgaaDoor
open Go.Kf
set_option maxHeartbeats 4000000 in
theorem fnTellStreamsGroupTopologyDescriptionUpdateResponse_card : Rows.FnTellStreamsGroupTopologyDescriptionUpdateResponseUptoCardSaid :=
  Claim7.holds_tied_plain_at .later [] [.sentinel] true Rows.fnTellStreamsGroupTopologyDescriptionUpdateResponseUptoCard.stood.harness false
    fnTellStreamsGroupTopologyDescriptionUpdateResponse.row (fun _ h => by cases h) (by as_aux_lemma => kernel_rfl) (fun _ h => by cases h) fnTellStreamsGroupTopologyDescriptionUpdateResponseUpto_row_tie rfl ⟨rfl, rfl⟩ mainS rfl
    (fun f fn hf hfn => by
      obtain rfl : f = 7 := Option.some.inj (fnTellStreamsGroupTopologyDescriptionUpdateResponse.named.symm.trans hf) |>.symm
      obtain rfl : fn = Go.Proofs.Tryd.f7 := (Option.some.inj (Go.Proofs.Tryd.func7.symm.trans hfn)).symm
      refine ⟨looksS, fun j t ht => ?_⟩
      rw [Go.Proofs.Tryd.params7] at ht
      rcases j with _ | _ | j
      · obtain rfl : 5 = t := by simpa using ht
        exact (show Go.Proofs.Tryd.prog.wantsStandIn 5 = false by kernel_rfl)
      · obtain rfl : 26 = t := by simpa using ht
        exact (show Go.Proofs.Tryd.prog.wantsStandIn 26 = false by kernel_rfl)
      · simp at ht)
    (by as_aux_lemma => kernel_rfl)
#print axioms fnTellStreamsGroupTopologyDescriptionUpdateResponse_card
end Go.Proofs.YtplpomlhhaccgaaDoor
