/- Of a message that is written by the protocol just its fields are told (laws.FnTellOffsetDeleteResponse): the second form's tied card is proved, at every version number and every tree whose bulk is at most 1048576; no other condition. -/
import Derived.Test.YtplpomlhhaccgaaDoorKs
set_option linter.unusedSimpArgs false
set_option linter.unusedVariables false
set_option maxRecDepth 100000
namespace Go.Kf
open Go

def tf : TypeId → FuncId × FuncId := fun | 135 => (103, 0) | 97 => (70, 0) | _ => (0, 0)

def rOffsetDeleteResponseTopicPartition : Fds := .cons .all (.pr .i32 none) (.cons .all (.pr .i16 none) (.nil))
theorem df_OffsetDeleteResponseTopicPartition : FOk Go.Proofs.Tryd.prog 102 1 (seqs (rOffsetDeleteResponseTopicPartition.dfl NS 135 0)) [] := ⟨Go.Proofs.Tryd.f102, _, [0], Go.Proofs.Tryd.func102, rfl, by kernel_rfl, by kernel_rfl, by decide, by kernel_rfl, by kernel_rfl⟩
theorem ft_OffsetDeleteResponseTopicPartition : FOk Go.Proofs.Tryd.prog 103 1 (tellC NS tf 135 0 0 rOffsetDeleteResponseTopicPartition) [.cell 1 NS.zab] := ⟨Go.Proofs.Tryd.f103, _, [0, 2, 3], Go.Proofs.Tryd.func103, rfl, by kernel_rfl, by kernel_rfl, by decide, by kernel_rfl, by kernel_rfl⟩
theorem tl_OffsetDeleteResponseTopicPartition : TellP Go.Proofs.Tryd.prog 103 0 rOffsetDeleteResponseTopicPartition := tellP baseS fnsS implT tellN (tf := tf) (Tt := 135) (idx0 := 0) ft_OffsetDeleteResponseTopicPartition (fun h => absurd rfl h) ⟨trivial, ⟨trivial, trivial⟩⟩ (Fds.ok_of (fx := false) (Tt := 135) (idx := 0) (off := 0) baseS fnsS rOffsetDeleteResponseTopicPartition (by kernel_rfl) ⟨trivial, ⟨trivial, trivial⟩⟩).2.1 (by decide)

def rOffsetDeleteResponseTopic : Fds := .cons .all (.txt .str) (.cons .all (.arr 95 none (.row 135 133 102 (.cons .all (.pr .i32 none) (.cons .all (.pr .i16 none) (.nil))))) (.nil))
theorem df_OffsetDeleteResponseTopic : FOk Go.Proofs.Tryd.prog 99 1 (seqs (rOffsetDeleteResponseTopic.dfl NS 97 0)) [] := ⟨Go.Proofs.Tryd.f99, _, [0], Go.Proofs.Tryd.func99, rfl, by kernel_rfl, by kernel_rfl, by decide, by kernel_rfl, by kernel_rfl⟩
theorem ft_OffsetDeleteResponseTopic : FOk Go.Proofs.Tryd.prog 70 1 (tellC NS tf 97 0 0 rOffsetDeleteResponseTopic) [.cell 1 NS.zab] := ⟨Go.Proofs.Tryd.f70, _, [0, 2, 3, 29, 30, 31, 4, 34, 46, 47, 49], Go.Proofs.Tryd.func70, rfl, by kernel_rfl, by kernel_rfl, by decide, by kernel_rfl, by kernel_rfl⟩
theorem tl_OffsetDeleteResponseTopic : TellP Go.Proofs.Tryd.prog 70 0 rOffsetDeleteResponseTopic := tellP baseS fnsS implT tellN (tf := tf) (Tt := 97) (idx0 := 0) ft_OffsetDeleteResponseTopic (fun h => absurd rfl h) ⟨trivial, ⟨⟨zhq (by kernel_rfl), el_ti (fx := false) baseS fnsS _ (by kernel_rfl) ⟨df_OffsetDeleteResponseTopicPartition, ⟨trivial, ⟨trivial, trivial⟩⟩⟩, tl_OffsetDeleteResponseTopicPartition⟩, trivial⟩⟩ (Fds.ok_of (fx := false) (Tt := 97) (idx := 0) (off := 0) baseS fnsS rOffsetDeleteResponseTopic (by kernel_rfl) ⟨trivial, ⟨⟨df_OffsetDeleteResponseTopicPartition, ⟨trivial, ⟨trivial, trivial⟩⟩⟩, trivial⟩⟩).2.1 (by decide)

def mS : Msg := ⟨91, 48, 67, 0, false, .cons .all (.pr .i16 none) (.cons .all (.pr .i32 none) (.cons .all (.arr 89 none (.row 97 94 99 (.cons .all (.txt .str) (.cons .all (.arr 95 none (.row 135 133 102 (.cons .all (.pr .i32 none) (.cons .all (.pr .i16 none) (.nil))))) (.nil))))) (.nil)))⟩
def dS : zvm where
  newP := 30
  setV := 33
  maxV := 31
  readF := 34
  readf := 69
  tell := 35
  maxI := 9
  tellI := 12
theorem rd_m : FOk Go.Proofs.Tryd.prog 69 3 (mS.gen NS false) [.var 3] := ⟨Go.Proofs.Tryd.f69, _, [0, 1, 2, 6, 7, 8, 9, 10, 11, 12, 13, 14, 54, 59, 15, 65, 16, 17, 18, 74, 19, 20, 21, 88, 93, 22, 99, 23, 24, 25, 26], Go.Proofs.Tryd.func69, rfl, by kernel_rfl, by kernel_rfl, by decide, by kernel_rfl, by kernel_rfl⟩
theorem df_m : FOk Go.Proofs.Tryd.prog 67 1 (seqs (mS.fs.dfl NS mS.tT 1)) [] := ⟨Go.Proofs.Tryd.f67, _, [0], Go.Proofs.Tryd.func67, rfl, by kernel_rfl, by kernel_rfl, by decide, by kernel_rfl, by kernel_rfl⟩
theorem mt : MsgT Go.Proofs.Tryd.prog NS mS false := msgT_of baseS fnsS (by kernel_rfl) (by kernel_rfl) (by kernel_rfl) ⟨trivial, ⟨trivial, ⟨⟨df_OffsetDeleteResponseTopic, ⟨trivial, ⟨⟨df_OffsetDeleteResponseTopicPartition, ⟨trivial, ⟨trivial, trivial⟩⟩⟩, trivial⟩⟩⟩, trivial⟩⟩⟩ df_m
theorem ft_OffsetDeleteResponse : FOk Go.Proofs.Tryd.prog 35 1 (tellC NS tf 91 1 0 mS.fs) [.cell 1 NS.zab] := ⟨Go.Proofs.Tryd.f35, _, [0, 2, 3, 38, 39, 40, 4, 43, 55, 56, 58], Go.Proofs.Tryd.func35, rfl, by kernel_rfl, by kernel_rfl, by decide, by kernel_rfl, by kernel_rfl⟩
theorem tl_OffsetDeleteResponse : TellP Go.Proofs.Tryd.prog 35 1 mS.fs := tellP baseS fnsS implT tellN (tf := tf) (Tt := 91) (idx0 := 1) ft_OffsetDeleteResponse (fun h => absurd rfl h) ⟨trivial, ⟨trivial, ⟨⟨zhq (by kernel_rfl), el_ti (fx := false) baseS fnsS _ (by kernel_rfl) ⟨df_OffsetDeleteResponseTopic, ⟨trivial, ⟨⟨df_OffsetDeleteResponseTopicPartition, ⟨trivial, ⟨trivial, trivial⟩⟩⟩, trivial⟩⟩⟩, tl_OffsetDeleteResponseTopic⟩, trivial⟩⟩⟩ mt.hf (by decide)
theorem fd_new : FOk Go.Proofs.Tryd.prog 30 0 (c_new NS mS.tT mS.dflt) [.var 0] := ⟨Go.Proofs.Tryd.f30, _, [0, 1], Go.Proofs.Tryd.func30, rfl, by kernel_rfl, by kernel_rfl, by decide, by kernel_rfl, by kernel_rfl⟩
theorem fd_set : FOk Go.Proofs.Tryd.prog 33 2 (c_set NS mS.tT) [] := ⟨Go.Proofs.Tryd.f33, _, [0, 1], Go.Proofs.Tryd.func33, rfl, by kernel_rfl, by kernel_rfl, by decide, by kernel_rfl, by kernel_rfl⟩
theorem door : zys Go.Proofs.Tryd.prog NS mS false dS where
  msg := mt
  vin := rfl
  ti := (tsB_ok (by' := bytesOf Go.Proofs.Tryd.prog 91) (by kernel_rfl)).imp fun _ h => ⟨_, h⟩
  newP := fd_new
  setV := fd_set
  readf := rd_m
  tell := tl_OffsetDeleteResponse
  dok := ⟨⟨_, rfl, by decide⟩, ⟨⟨_, rfl, by decide⟩, ⟨⟨⟨⟨_, rfl, by decide⟩, ⟨⟨_, rfl, by decide⟩, trivial⟩⟩, trivial⟩, trivial⟩⟩⟩
  shB := by kernel_rfl
  cnt := by decide
theorem fd_rf : FOk Go.Proofs.Tryd.prog 34 2 (c_rf NS mS.pT 69 false) [.var 2] := ⟨Go.Proofs.Tryd.f34, _, [0, 1, 4], Go.Proofs.Tryd.func34, rfl, by kernel_rfl, by kernel_rfl, by decide, by kernel_rfl, by kernel_rfl⟩
theorem fd_mv : FOk Go.Proofs.Tryd.prog 31 1 (c_max 0) [.var 1] := ⟨Go.Proofs.Tryd.f31, _, [0, 2], Go.Proofs.Tryd.func31, rfl, by kernel_rfl, by kernel_rfl, by decide, by kernel_rfl, by kernel_rfl⟩
theorem fd_mi : FOk Go.Proofs.Tryd.prog 9 0 (c_maxI NS mS.pT 30 31) [.var 0] := ⟨Go.Proofs.Tryd.f9, _, [0], Go.Proofs.Tryd.func9, rfl, by kernel_rfl, by kernel_rfl, by decide, by kernel_rfl, by kernel_rfl⟩
theorem fd_tellI : FOk Go.Proofs.Tryd.prog 12 2 (c_door NS mS.pT 30 33 34 35) [.cell 2 NS.zab, .var 3] := ⟨Go.Proofs.Tryd.f12, _, [0, 1, 4, 5, 6, 16], Go.Proofs.Tryd.func12, rfl, by kernel_rfl, by kernel_rfl, by decide, by kernel_rfl, by kernel_rfl⟩

def sc_sOffsetDeleteResponseTopicPartition : List SC := [.mk [(0, 3), (2, -1), (3, -1), (4, -1)] none [], .mk [(0, 2), (2, -1), (3, -1), (4, -1)] none []]
theorem fsc_sOffsetDeleteResponseTopicPartition : FOk Go.Proofs.Tryd.prog 68 0 (c_flds MS sc_sOffsetDeleteResponseTopicPartition) [.var 0] := ⟨Go.Proofs.Tryd.f68, _, [0], Go.Proofs.Tryd.func68, rfl, by kernel_rfl, by kernel_rfl, by decide, by kernel_rfl, by kernel_rfl⟩
theorem mk_sOffsetDeleteResponseTopicPartition : MkOk Go.Proofs.Tryd.prog 68 (SC.flds sc_sOffsetDeleteResponseTopicPartition) := mk_flds (l := sc_sOffsetDeleteResponseTopicPartition) spT (by kernel_rfl) ⟨rfl, ⟨rfl, trivial⟩⟩ fsc_sOffsetDeleteResponseTopicPartition

def sc_sOffsetDeleteResponseTopic : List SC := [.mk [(0, 8), (2, -1), (3, -1), (4, -1)] none [], .mk [(0, 11), (2, -1), (3, -1), (4, -1), (6, 10)] (some 68) sc_sOffsetDeleteResponseTopicPartition]
theorem fsc_sOffsetDeleteResponseTopic : FOk Go.Proofs.Tryd.prog 32 0 (c_flds MS sc_sOffsetDeleteResponseTopic) [.var 0] := ⟨Go.Proofs.Tryd.f32, _, [0], Go.Proofs.Tryd.func32, rfl, by kernel_rfl, by kernel_rfl, by decide, by kernel_rfl, by kernel_rfl⟩
theorem mk_sOffsetDeleteResponseTopic : MkOk Go.Proofs.Tryd.prog 32 (SC.flds sc_sOffsetDeleteResponseTopic) := mk_flds (l := sc_sOffsetDeleteResponseTopic) spT (by kernel_rfl) ⟨rfl, ⟨⟨mk_sOffsetDeleteResponseTopicPartition, fsc_sOffsetDeleteResponseTopicPartition.has⟩, trivial⟩⟩ fsc_sOffsetDeleteResponseTopic

def sc_OffsetDeleteResponse : List SC := [.mk [(0, 2), (2, -1), (3, -1), (4, -1)] none [], .mk [(0, 3), (2, -1), (3, -1), (4, -1)] none [], .mk [(0, 11), (2, -1), (3, -1), (4, -1), (6, 10)] (some 32) sc_sOffsetDeleteResponseTopic]
theorem fsc_OffsetDeleteResponse : FOk Go.Proofs.Tryd.prog 10 0 (c_msg MS sc_OffsetDeleteResponse (-1)) [.cell 0 MS.zam] := ⟨Go.Proofs.Tryd.f10, _, [0], Go.Proofs.Tryd.func10, rfl, by kernel_rfl, by kernel_rfl, by decide, by kernel_rfl, by kernel_rfl⟩
theorem lawT : LawTT Go.Proofs.Tryd.prog NS MS mS false dS 0 10 sc_OffsetDeleteResponse (-1) := ⟨door, fd_rf, fd_mv, fd_mi, fd_tellI, by decide, by decide, by decide, fsc_OffsetDeleteResponse, by kernel_rfl, ⟨rfl, ⟨rfl, ⟨⟨mk_sOffsetDeleteResponseTopic, fsc_sOffsetDeleteResponseTopic.has⟩, trivial⟩⟩⟩, by kernel_rfl, by kernel_rfl, by kernel_rfl⟩
theorem fd_law : FOk Go.Proofs.Tryd.prog 3 2 (c_lawT NS MS 38 dS.maxI dS.tellI 10) [.var 3] := ⟨Go.Proofs.Tryd.f3, _, [0, 1, 3, 4, 12, 5, 15, 6, 7, 8, 9], Go.Proofs.Tryd.func3, rfl, by kernel_rfl, by kernel_rfl, by decide, by kernel_rfl, by kernel_rfl⟩
end Go.Kf

namespace Go.Proofs.YtplpomlhhaccgaaDoor.fnTellOffsetDeleteResponse
open Go.ChangeShapes Go.WideShapes Go.ChangeAt Go.RowKit Go.Kf

theorem reads (os : Os) {H : Type} (enc : TypeId × Value → H) : ∃ places, DataW.whole enc Go.Proofs.Tryd.prog ((World.doorLaid Go.Proofs.Tryd.prog 400 os).forCall (fun _ _ => 0) ⟨#[], #[.int .u8 0, .agg #[.int .i64 0, .slice none 0 0, .bool false, .slice none 0 0, .slice none 0 0]], []⟩).memory Go.Proofs.Tryd.f3.params.toList Rows.fnTellOffsetDeleteResponseSpec.vars false #[Value.int .u8 0, .agg #[.int .i64 0, .slice none 0 0, .bool false, .slice none 0 0, .slice none 0 0]].toList 8 = some ([.lit (.int .u8 0), .agg [.lit (.int .i64 0), .nil, .lit (.bool false), .nil, .nil]], [], places) :=
  ⟨[], by kernel_rfl⟩
set_option maxHeartbeats 4000000 in
theorem lifted (os : Os) (started : os.Started) (H : Type) (enc : TypeId × Value → H) (F : Stop.Interp) :
    ReturnsInHanded {} Go.Proofs.Tryd.checked os 3 .any ((Rows.OpenSpec.upto Rows.fnTellOffsetDeleteResponseSpec).preRow enc Go.Proofs.Tryd.prog Go.Proofs.Tryd.f3 Rows.fnTellOffsetDeleteResponseUptoRow.domain false Rows.fnTellOffsetDeleteResponseUptoRow.laid) (((Rows.OpenSpec.upto Rows.fnTellOffsetDeleteResponseSpec).at F).post enc Go.Proofs.Tryd.prog Go.Proofs.Tryd.f3 false true false false) := by
  obtain ⟨places, hx⟩ := reads os enc
  refine returnsInHanded_of_row (C := Go.Proofs.Tryd.checked) (s := Rows.OpenSpec.upto Rows.fnTellOffsetDeleteResponseSpec) own started (by kernel_rfl) Go.Proofs.Tryd.func3
    ⟨World.doorLaid Go.Proofs.Tryd.prog 400 os, fun _ _ => 0, ⟨#[], #[.int .u8 0, .agg #[.int .i64 0, .slice none 0 0, .bool false, .slice none 0 0, .slice none 0 0]], []⟩, rfl, shaped os _, rfl, (Input.okWide_of_okWideB (by kernel_rfl)).2,
      OpenSpec.preRow_of_cond 8 hx (by kernel_rfl) (fun k hk => by cases hk; kernel_rfl) (by kernel_rfl) (door_met os _), by
        simp only [Assume.holds]
        exact ⟨by simp, by simp, fun _ => Modest.zero, by simp, by simp⟩⟩ ?_
  intro W base args ds gs before hval0 hW _ hcond _ hL _ _
  have hval : ∀ (j : Nat) t v, Go.Proofs.Tryd.f3.params[j]? = some t → args[j]? = some v → Value.okWide Go.Proofs.Tryd.prog W .any base t v := hval0
  have hW' := hW
  obtain ⟨p, q, hA0, hV, rfl, hfz, hnd⟩ := hW
  have hA : DataW.TrodAll enc Go.Proofs.Tryd.prog W 0 (fun _ => true) true Go.Proofs.Tryd.f3.params.toList args.toList ds p := hA0
  rw [Go.Proofs.Tryd.params3] at hA hval
  obtain ⟨v0, vs0, d0, ds0, p0, q0, hargs, rfl, rfl, h0, r0⟩ := trodAll_cons hA
  obtain ⟨v1, vs1, d1, ds1, p1, q1, rfl, rfl, rfl, h1, r1⟩ := trodAll_cons r0
  obtain ⟨rfl, rfl, rfl⟩ := trodAll_nil r1
  obtain rfl : args = #[v0, v1] := by cases args; simp_all
  obtain ⟨rfl, rfl⟩ := trodVars_none hV
  obtain ⟨n0, rfl, rfl, rfl, w0⟩ := open_int Go.Proofs.Tryd.underlying5 (hval 0 5 v0 rfl rfl) h0
  obtain ⟨t, ct, rfl, ht, hwf, hsz⟩ := treeArg_of treeO baseS specT (bulkF H) (hval 1 26 v1 rfl rfl) h1
  have hc := hcond _ rfl
  have hsz2 : szT t ≤ 1048576 := by
    have hc2 : Rows.uptoBulkAll ([.lit (.int .u8 n0), d1] ++ []) ≤ 1048576 := of_decide_eq_true hc
    simp only [List.cons_append, List.nil_append, Rows.uptoBulkAll] at hc2
    omega
  have lt1 : ∀ x ∈ p1, x.block < W.heap.size := by obtain ⟨m, hm⟩ := h1; exact DataW.trod_lt m _ _ _ hm
  rw [MakeChecks.laidMetH_plain _ _ _ (by kernel_rfl)] at hL
  obtain ⟨a1, s1, hv1, _⟩ := laid_sentinel hL gO gT Go.Proofs.Tryd.underlying56 rowP Go.Proofs.Tryd.underlying193 Go.Proofs.Tryd.underlying211 rfl rfl Go.Proofs.Tryd.underlying9 cS cStr
  have hg : W.cell? ⟨1, 0, none⟩ = some (.iface 193 (.pointer (some a1))) := by simpa using World.var?_cell gO hv1 0
  have hn0 : 0 ≤ n0 ∧ n0 ≤ 255 := by
    simp [Lit.wf, IntKind.min, IntKind.max, IntKind.signed, IntKind.bits] at w0
    omega
  clear hA0 hval0
  refine Calls.mono (call_lawT baseS fnsS implT spT thSZ thSW thSTo (by decide) (by decide) (by decide) lawT fd_law (n := n0) hn0 ht hwf hsz2 hg) fun e W' ⟨v', he, hv', hm⟩ => ?_
  subst he hv'
  have bel := hm.below
  exact ⟨_, rfl, _, _, _, [], _, [], hW', trodAll_mk1 (shut_bool Go.Proofs.Tryd.underlying4 _), trodAll_cons_mk (shut_int Go.Proofs.Tryd.underlying5 w0) (trodAll_cons_mk (Below.trod laidOut (by kernel_rfl) (of_decide_eq_true (by kernel_rfl)) h1 bel lt1) trodAll_mk0), rfl, bel.frame _, fun h => by cases h⟩

set_option maxHeartbeats 4000000 in
theorem joined : joinedFacts Go.Proofs.Tryd.prog 3 Go.Proofs.Tryd.f3 (Rows.OpenSpec.upto Rows.fnTellOffsetDeleteResponseSpec).bare Rows.fnTellOffsetDeleteResponseUptoRow = true := by
  unfold joinedFacts
  exact bandT (bandT (bandT (bandT (bandT (bandT (bandT (bandT (bandT (bandT (bandT (bandT (bandT (bandT (bandT (bandT (bandT (bandT (bandT (bandT (bandT (bandT (bandT (bandT (bandT (bandT (bandT (bandT (bandT (bandT (bandT (by as_aux_lemma => kernel_rfl) laidOut) mapsRowedS) (by as_aux_lemma => kernel_rfl)) (by as_aux_lemma => kernel_rfl)) (by as_aux_lemma => kernel_rfl)) (by as_aux_lemma => kernel_rfl)) (by as_aux_lemma => kernel_rfl)) (by as_aux_lemma => kernel_rfl)) (by as_aux_lemma => kernel_rfl)) (by as_aux_lemma => kernel_rfl)) (by as_aux_lemma => kernel_rfl)) (by as_aux_lemma => kernel_rfl)) (by as_aux_lemma => kernel_rfl)) (by as_aux_lemma => kernel_rfl)) (by as_aux_lemma => kernel_rfl)) (by as_aux_lemma => kernel_rfl)) (by as_aux_lemma => kernel_rfl)) (by as_aux_lemma => kernel_rfl)) (by as_aux_lemma => kernel_rfl)) (by as_aux_lemma => kernel_rfl)) (by as_aux_lemma => kernel_rfl)) plainKeysS) (by as_aux_lemma => kernel_rfl)) stopsHeardS) bigEnter) bigLifts) bigMake) (by as_aux_lemma => kernel_rfl)) (by as_aux_lemma => kernel_rfl)) (by as_aux_lemma => kernel_rfl)) (by as_aux_lemma => kernel_rfl)
theorem named : Go.Proofs.Tryd.prog.funcNamed Rows.fnTellOffsetDeleteResponseUptoRow.func = some 3 := by kernel_rfl
theorem isInst : Go.Proofs.Tryd.f3.isInstance Go.Proofs.Tryd.prog Rows.fnTellOffsetDeleteResponseUptoRow.origin Rows.fnTellOffsetDeleteResponseUptoRow.targs := of_decide_eq_true (by kernel_rfl)
theorem isWrap : Go.Proofs.Tryd.f3.isWrapper Go.Proofs.Tryd.prog Rows.fnTellOffsetDeleteResponseUptoRow.wrapper Rows.fnTellOffsetDeleteResponseUptoRow.mainSum := by unfold Func.isWrapper; first | (rw [if_pos (by decide +kernel)]; kernel_rfl) | (rw [if_neg (by decide +kernel)]; exact ⟨rfl, rfl⟩)
theorem row : Rows.FnTellOffsetDeleteResponseUptoSaid :=
  OpenClaim.holds_of_cond 3 Go.Proofs.Tryd.f3 rfl rfl rfl rfl rfl rfl rfl ⟨rfl, rfl, rfl, rfl, rfl⟩ rfl rfl rfl rfl rfl named Go.Proofs.Tryd.func3 joined
    isInst isWrap
    (fun os started H enc _ F => by rw [OpenClaim.pre_eq_preRow]; exact lifted os started H enc F)
end Go.Proofs.YtplpomlhhaccgaaDoor.fnTellOffsetDeleteResponse

namespace Go.Proofs.YtplpomlhhaccgaaDoor
open Go.Kf
set_option maxHeartbeats 4000000 in
theorem fnTellOffsetDeleteResponse_card : Rows.FnTellOffsetDeleteResponseUptoCardSaid :=
  Claim7.holds_tied_plain_at .later [] [.sentinel] true Rows.fnTellOffsetDeleteResponseUptoCard.stood.harness false
    fnTellOffsetDeleteResponse.row (fun _ h => by cases h) (by as_aux_lemma => kernel_rfl) (fun _ h => by cases h) fnTellOffsetDeleteResponseUpto_row_tie rfl ⟨rfl, rfl⟩ mainS rfl
    (fun f fn hf hfn => by
      obtain rfl : f = 3 := Option.some.inj (fnTellOffsetDeleteResponse.named.symm.trans hf) |>.symm
      obtain rfl : fn = Go.Proofs.Tryd.f3 := (Option.some.inj (Go.Proofs.Tryd.func3.symm.trans hfn)).symm
      refine ⟨looksS, fun j t ht => ?_⟩
      rw [Go.Proofs.Tryd.params3] at ht
      rcases j with _ | _ | j
      · obtain rfl : 5 = t := by simpa using ht
        exact (show Go.Proofs.Tryd.prog.wantsStandIn 5 = false by kernel_rfl)
      · obtain rfl : 26 = t := by simpa using ht
        exact (show Go.Proofs.Tryd.prog.wantsStandIn 26 = false by kernel_rfl)
      · simp at ht)
    (by as_aux_lemma => kernel_rfl)
#print axioms fnTellOffsetDeleteResponse_card
end Go.Proofs.YtplpomlhhaccgaaDoor
