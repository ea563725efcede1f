/- Of a message that is written by the protocol just its fields are told (laws.FnTellInitializeShareGroupStateRequest): the second form's tied card is proved, at every version number and every tree whose bulk is at most 1048576; no other condition. -/
import Derived.Test.YtplpomlhhaccgaaGreatDoorKs
set_option linter.unusedSimpArgs false
set_option linter.unusedVariables false
set_option maxRecDepth 100000
namespace Go.Kf
open Go

def tf : TypeId → FuncId × FuncId := fun | 182 => (160, 186) | 132 => (115, 161) | _ => (0, 0)

def rInitializeShareGroupStateRequestTopicPartition : Fds := .cons .all (.pr .i32 none) (.cons .all (.pr .i32 none) (.cons .all (.pr .i64 none) (.tags)))
theorem df_InitializeShareGroupStateRequestTopicPartition : FOk Go.Proofs.Tryz.prog 158 1 (seqs (rInitializeShareGroupStateRequestTopicPartition.dfl NS 182 0)) [] := ⟨Go.Proofs.Tryz.f158, _, [0], Go.Proofs.Tryz.func158, rfl, by kernel_rfl, by kernel_rfl, by decide, by kernel_rfl, by kernel_rfl⟩
theorem ft_InitializeShareGroupStateRequestTopicPartition : FOk Go.Proofs.Tryz.prog 160 1 (tellC NS tf 182 0 186 rInitializeShareGroupStateRequestTopicPartition) [.cell 1 NS.zab] := ⟨Go.Proofs.Tryz.f160, _, [0, 2, 3], Go.Proofs.Tryz.func160, rfl, by kernel_rfl, by kernel_rfl, by decide, by kernel_rfl, by kernel_rfl⟩
theorem fc_InitializeShareGroupStateRequestTopicPartition : FOk Go.Proofs.Tryz.prog 186 3 (cTagFn NS) [] := ⟨Go.Proofs.Tryz.f186, _, [0, 1, 2], Go.Proofs.Tryz.func186, rfl, by kernel_rfl, by kernel_rfl, by decide, by kernel_rfl, by kernel_rfl⟩
theorem tl_InitializeShareGroupStateRequestTopicPartition : TellP Go.Proofs.Tryz.prog 160 0 rInitializeShareGroupStateRequestTopicPartition := tellP baseS fnsS implT tellN (tf := tf) (Tt := 182) (idx0 := 0) ft_InitializeShareGroupStateRequestTopicPartition (fun _ => fc_InitializeShareGroupStateRequestTopicPartition) ⟨trivial, ⟨trivial, ⟨trivial, trivial⟩⟩⟩ (Fds.ok_of (fx := true) (Tt := 182) (idx := 0) (off := 0) baseS fnsS rInitializeShareGroupStateRequestTopicPartition (by kernel_rfl) ⟨trivial, ⟨trivial, ⟨trivial, trivial⟩⟩⟩).2.1 (by decide)

def rInitializeShareGroupStateRequestTopic : Fds := .cons .all (.pr .uuid none) (.cons .all (.arr 130 none (.row 182 180 158 (.cons .all (.pr .i32 none) (.cons .all (.pr .i32 none) (.cons .all (.pr .i64 none) (.tags)))))) (.tags))
theorem df_InitializeShareGroupStateRequestTopic : FOk Go.Proofs.Tryz.prog 157 1 (seqs (rInitializeShareGroupStateRequestTopic.dfl NS 132 0)) [] := ⟨Go.Proofs.Tryz.f157, _, [0], Go.Proofs.Tryz.func157, rfl, by kernel_rfl, by kernel_rfl, by decide, by kernel_rfl, by kernel_rfl⟩
theorem ft_InitializeShareGroupStateRequestTopic : FOk Go.Proofs.Tryz.prog 115 1 (tellC NS tf 132 0 161 rInitializeShareGroupStateRequestTopic) [.cell 1 NS.zab] := ⟨Go.Proofs.Tryz.f115, _, [0, 2, 3, 29, 30, 31, 4, 34, 46, 47, 49], Go.Proofs.Tryz.func115, rfl, by kernel_rfl, by kernel_rfl, by decide, by kernel_rfl, by kernel_rfl⟩
theorem fc_InitializeShareGroupStateRequestTopic : FOk Go.Proofs.Tryz.prog 161 3 (cTagFn NS) [] := ⟨Go.Proofs.Tryz.f161, _, [0, 1, 2], Go.Proofs.Tryz.func161, rfl, by kernel_rfl, by kernel_rfl, by decide, by kernel_rfl, by kernel_rfl⟩
theorem tl_InitializeShareGroupStateRequestTopic : TellP Go.Proofs.Tryz.prog 115 0 rInitializeShareGroupStateRequestTopic := tellP baseS fnsS implT tellN (tf := tf) (Tt := 132) (idx0 := 0) ft_InitializeShareGroupStateRequestTopic (fun _ => fc_InitializeShareGroupStateRequestTopic) ⟨(show NS.zbl ≠ 0 by decide), ⟨⟨zhq (by kernel_rfl), el_ti (fx := true) baseS fnsS _ (by kernel_rfl) ⟨df_InitializeShareGroupStateRequestTopicPartition, ⟨trivial, ⟨trivial, ⟨trivial, trivial⟩⟩⟩⟩, tl_InitializeShareGroupStateRequestTopicPartition⟩, trivial⟩⟩ (Fds.ok_of (fx := true) (Tt := 132) (idx := 0) (off := 0) baseS fnsS rInitializeShareGroupStateRequestTopic (by kernel_rfl) ⟨trivial, ⟨⟨df_InitializeShareGroupStateRequestTopicPartition, ⟨trivial, ⟨trivial, ⟨trivial, trivial⟩⟩⟩⟩, trivial⟩⟩).2.1 (by decide)

def mS : Msg := ⟨127, 76, 112, 0, false, .cons .all (.txt .str) (.cons .all (.arr 125 none (.row 132 129 157 (.cons .all (.pr .uuid none) (.cons .all (.arr 130 none (.row 182 180 158 (.cons .all (.pr .i32 none) (.cons .all (.pr .i32 none) (.cons .all (.pr .i64 none) (.tags)))))) (.tags))))) (.tags))⟩
def dS : zvm where
  newP := 64
  setV := 67
  maxV := 65
  readF := 68
  readf := 114
  tell := 69
  maxI := 25
  tellI := 27
theorem rd_m : FOk Go.Proofs.Tryz.prog 114 3 (mS.gen NS true) [.var 3] := ⟨Go.Proofs.Tryz.f114, _, [0, 1, 2, 6, 7, 8, 9, 10, 11, 41, 42, 45, 12, 13, 14, 57, 61, 66, 15, 72, 16, 17, 18, 19, 20, 21, 91, 95, 100, 22, 106, 23, 24, 25, 26, 27, 130, 140, 150], Go.Proofs.Tryz.func114, rfl, by kernel_rfl, by kernel_rfl, by decide, by kernel_rfl, by kernel_rfl⟩
theorem df_m : FOk Go.Proofs.Tryz.prog 112 1 (seqs (mS.fs.dfl NS mS.tT 1)) [] := ⟨Go.Proofs.Tryz.f112, _, [0], Go.Proofs.Tryz.func112, rfl, by kernel_rfl, by kernel_rfl, by decide, by kernel_rfl, by kernel_rfl⟩
theorem mt : MsgT Go.Proofs.Tryz.prog NS mS true := msgT_of baseS fnsS (by kernel_rfl) (by kernel_rfl) (by kernel_rfl) ⟨trivial, ⟨⟨df_InitializeShareGroupStateRequestTopic, ⟨trivial, ⟨⟨df_InitializeShareGroupStateRequestTopicPartition, ⟨trivial, ⟨trivial, ⟨trivial, trivial⟩⟩⟩⟩, trivial⟩⟩⟩, trivial⟩⟩ df_m
theorem ft_InitializeShareGroupStateRequest : FOk Go.Proofs.Tryz.prog 69 1 (tellC NS tf 127 1 116 mS.fs) [.cell 1 NS.zab] := ⟨Go.Proofs.Tryz.f69, _, [0, 2, 3, 29, 30, 31, 4, 34, 46, 47, 49], Go.Proofs.Tryz.func69, rfl, by kernel_rfl, by kernel_rfl, by decide, by kernel_rfl, by kernel_rfl⟩
theorem fc_InitializeShareGroupStateRequest : FOk Go.Proofs.Tryz.prog 116 3 (cTagFn NS) [] := ⟨Go.Proofs.Tryz.f116, _, [0, 1, 2], Go.Proofs.Tryz.func116, rfl, by kernel_rfl, by kernel_rfl, by decide, by kernel_rfl, by kernel_rfl⟩
theorem tl_InitializeShareGroupStateRequest : TellP Go.Proofs.Tryz.prog 69 1 mS.fs := tellP baseS fnsS implT tellN (tf := tf) (Tt := 127) (idx0 := 1) ft_InitializeShareGroupStateRequest (fun _ => fc_InitializeShareGroupStateRequest) ⟨trivial, ⟨⟨zhq (by kernel_rfl), el_ti (fx := true) baseS fnsS _ (by kernel_rfl) ⟨df_InitializeShareGroupStateRequestTopic, ⟨trivial, ⟨⟨df_InitializeShareGroupStateRequestTopicPartition, ⟨trivial, ⟨trivial, ⟨trivial, trivial⟩⟩⟩⟩, trivial⟩⟩⟩, tl_InitializeShareGroupStateRequestTopic⟩, trivial⟩⟩ mt.hf (by decide)
theorem fd_new : FOk Go.Proofs.Tryz.prog 64 0 (c_new NS mS.tT mS.dflt) [.var 0] := ⟨Go.Proofs.Tryz.f64, _, [0, 1], Go.Proofs.Tryz.func64, rfl, by kernel_rfl, by kernel_rfl, by decide, by kernel_rfl, by kernel_rfl⟩
theorem fd_set : FOk Go.Proofs.Tryz.prog 67 2 (c_set NS mS.tT) [] := ⟨Go.Proofs.Tryz.f67, _, [0, 1], Go.Proofs.Tryz.func67, rfl, by kernel_rfl, by kernel_rfl, by decide, by kernel_rfl, by kernel_rfl⟩
theorem door : zys Go.Proofs.Tryz.prog NS mS true dS where
  msg := mt
  vin := rfl
  ti := (tsB_ok (by' := bytesOf Go.Proofs.Tryz.prog 127) (by kernel_rfl)).imp fun _ h => ⟨_, h⟩
  newP := fd_new
  setV := fd_set
  readf := rd_m
  tell := tl_InitializeShareGroupStateRequest
  dok := ⟨⟨⟨List.replicate 16 0, rfl, rfl⟩, ⟨⟨⟨_, rfl, by decide⟩, ⟨⟨_, rfl, by decide⟩, ⟨⟨_, rfl, by decide⟩, trivial⟩⟩⟩, trivial⟩⟩, trivial⟩
  shB := by kernel_rfl
  cnt := by decide
theorem fd_rf : FOk Go.Proofs.Tryz.prog 68 2 (c_rf NS mS.pT 114 false) [.var 2] := ⟨Go.Proofs.Tryz.f68, _, [0, 1, 4], Go.Proofs.Tryz.func68, rfl, by kernel_rfl, by kernel_rfl, by decide, by kernel_rfl, by kernel_rfl⟩
theorem fd_mv : FOk Go.Proofs.Tryz.prog 65 1 (c_max 0) [.var 1] := ⟨Go.Proofs.Tryz.f65, _, [0, 2], Go.Proofs.Tryz.func65, rfl, by kernel_rfl, by kernel_rfl, by decide, by kernel_rfl, by kernel_rfl⟩
theorem fd_mi : FOk Go.Proofs.Tryz.prog 25 0 (c_maxI NS mS.pT 64 65) [.var 0] := ⟨Go.Proofs.Tryz.f25, _, [0], Go.Proofs.Tryz.func25, rfl, by kernel_rfl, by kernel_rfl, by decide, by kernel_rfl, by kernel_rfl⟩
theorem fd_tellI : FOk Go.Proofs.Tryz.prog 27 2 (c_door NS mS.pT 64 67 68 69) [.cell 2 NS.zab, .var 3] := ⟨Go.Proofs.Tryz.f27, _, [0, 1, 4, 5, 6, 16], Go.Proofs.Tryz.func27, rfl, by kernel_rfl, by kernel_rfl, by decide, by kernel_rfl, by kernel_rfl⟩

def sc_sInitializeShareGroupStateRequestTopicPartition : List SC := [.mk [(0, 3), (2, -1), (3, -1), (4, -1)] none [], .mk [(0, 3), (2, -1), (3, -1), (4, -1)] none [], .mk [(0, 4), (2, -1), (3, -1), (4, -1)] none []]
theorem fsc_sInitializeShareGroupStateRequestTopicPartition : FOk Go.Proofs.Tryz.prog 113 0 (c_flds MS sc_sInitializeShareGroupStateRequestTopicPartition) [.var 0] := ⟨Go.Proofs.Tryz.f113, _, [0], Go.Proofs.Tryz.func113, rfl, by kernel_rfl, by kernel_rfl, by decide, by kernel_rfl, by kernel_rfl⟩
theorem mk_sInitializeShareGroupStateRequestTopicPartition : MkOk Go.Proofs.Tryz.prog 113 (SC.flds sc_sInitializeShareGroupStateRequestTopicPartition) := mk_flds (l := sc_sInitializeShareGroupStateRequestTopicPartition) spT (by kernel_rfl) ⟨rfl, ⟨rfl, ⟨rfl, trivial⟩⟩⟩ fsc_sInitializeShareGroupStateRequestTopicPartition

def sc_sInitializeShareGroupStateRequestTopic : List SC := [.mk [(0, 7), (2, -1), (3, -1), (4, -1)] none [], .mk [(0, 11), (2, -1), (3, -1), (4, -1), (6, 10)] (some 113) sc_sInitializeShareGroupStateRequestTopicPartition]
theorem fsc_sInitializeShareGroupStateRequestTopic : FOk Go.Proofs.Tryz.prog 66 0 (c_flds MS sc_sInitializeShareGroupStateRequestTopic) [.var 0] := ⟨Go.Proofs.Tryz.f66, _, [0], Go.Proofs.Tryz.func66, rfl, by kernel_rfl, by kernel_rfl, by decide, by kernel_rfl, by kernel_rfl⟩
theorem mk_sInitializeShareGroupStateRequestTopic : MkOk Go.Proofs.Tryz.prog 66 (SC.flds sc_sInitializeShareGroupStateRequestTopic) := mk_flds (l := sc_sInitializeShareGroupStateRequestTopic) spT (by kernel_rfl) ⟨rfl, ⟨⟨mk_sInitializeShareGroupStateRequestTopicPartition, fsc_sInitializeShareGroupStateRequestTopicPartition.has⟩, trivial⟩⟩ fsc_sInitializeShareGroupStateRequestTopic

def sc_InitializeShareGroupStateRequest : List SC := [.mk [(0, 8), (2, -1), (3, -1), (4, -1)] none [], .mk [(0, 11), (2, -1), (3, -1), (4, -1), (6, 10)] (some 66) sc_sInitializeShareGroupStateRequestTopic]
theorem fsc_InitializeShareGroupStateRequest : FOk Go.Proofs.Tryz.prog 26 0 (c_msg MS sc_InitializeShareGroupStateRequest (0)) [.cell 0 MS.zam] := ⟨Go.Proofs.Tryz.f26, _, [0], Go.Proofs.Tryz.func26, rfl, by kernel_rfl, by kernel_rfl, by decide, by kernel_rfl, by kernel_rfl⟩
theorem lawT : LawTT Go.Proofs.Tryz.prog NS MS mS true dS 0 26 sc_InitializeShareGroupStateRequest (0) := ⟨door, fd_rf, fd_mv, fd_mi, fd_tellI, by decide, by decide, by decide, fsc_InitializeShareGroupStateRequest, by kernel_rfl, ⟨rfl, ⟨⟨mk_sInitializeShareGroupStateRequestTopic, fsc_sInitializeShareGroupStateRequestTopic.has⟩, trivial⟩⟩, by kernel_rfl, by kernel_rfl, by kernel_rfl⟩
theorem fd_law : FOk Go.Proofs.Tryz.prog 6 2 (c_lawT NS MS 38 dS.maxI dS.tellI 26) [.var 3] := ⟨Go.Proofs.Tryz.f6, _, [0, 1, 3, 4, 12, 5, 15, 6, 7, 8, 9], Go.Proofs.Tryz.func6, rfl, by kernel_rfl, by kernel_rfl, by decide, by kernel_rfl, by kernel_rfl⟩
end Go.Kf

namespace Go.Proofs.YtplpomlhhaccgaaGreatDoor.fnTellInitializeShareGroupStateRequest
open Go.ChangeShapes Go.WideShapes Go.ChangeAt Go.RowKit Go.Kf

theorem reads (os : Os) {H : Type} (enc : TypeId × Value → H) : ∃ places, DataW.whole enc Go.Proofs.Tryz.prog ((World.doorLaid Go.Proofs.Tryz.prog 400 os).forCall (fun _ _ => 0) ⟨#[], #[.int .u8 0, .agg #[.int .i64 0, .slice none 0 0, .bool false, .slice none 0 0, .slice none 0 0]], []⟩).memory Go.Proofs.Tryz.f6.params.toList Rows.fnTellInitializeShareGroupStateRequestSpec.vars false #[Value.int .u8 0, .agg #[.int .i64 0, .slice none 0 0, .bool false, .slice none 0 0, .slice none 0 0]].toList 8 = some ([.lit (.int .u8 0), .agg [.lit (.int .i64 0), .nil, .lit (.bool false), .nil, .nil]], [], places) :=
  ⟨[], by kernel_rfl⟩
set_option maxHeartbeats 4000000 in
theorem lifted (os : Os) (started : os.Started) (H : Type) (enc : TypeId × Value → H) (F : Stop.Interp) :
    ReturnsInHanded {} Go.Proofs.Tryz.checked os 6 .any ((Rows.OpenSpec.upto Rows.fnTellInitializeShareGroupStateRequestSpec).preRow enc Go.Proofs.Tryz.prog Go.Proofs.Tryz.f6 Rows.fnTellInitializeShareGroupStateRequestUptoRow.domain false Rows.fnTellInitializeShareGroupStateRequestUptoRow.laid) (((Rows.OpenSpec.upto Rows.fnTellInitializeShareGroupStateRequestSpec).at F).post enc Go.Proofs.Tryz.prog Go.Proofs.Tryz.f6 false true false false) := by
  obtain ⟨places, hx⟩ := reads os enc
  refine returnsInHanded_of_row (C := Go.Proofs.Tryz.checked) (s := Rows.OpenSpec.upto Rows.fnTellInitializeShareGroupStateRequestSpec) own started (by kernel_rfl) Go.Proofs.Tryz.func6
    ⟨World.doorLaid Go.Proofs.Tryz.prog 400 os, fun _ _ => 0, ⟨#[], #[.int .u8 0, .agg #[.int .i64 0, .slice none 0 0, .bool false, .slice none 0 0, .slice none 0 0]], []⟩, rfl, shaped os _, rfl, (Input.okWide_of_okWideB (by kernel_rfl)).2,
      OpenSpec.preRow_of_cond 8 hx (by kernel_rfl) (fun k hk => by cases hk; kernel_rfl) (by kernel_rfl) (door_met os _), by
        simp only [Assume.holds]
        exact ⟨by simp, by simp, fun _ => Modest.zero, by simp, by simp⟩⟩ ?_
  intro W base args ds gs before hval0 hW _ hcond _ hL _ _
  have hval : ∀ (j : Nat) t v, Go.Proofs.Tryz.f6.params[j]? = some t → args[j]? = some v → Value.okWide Go.Proofs.Tryz.prog W .any base t v := hval0
  have hW' := hW
  obtain ⟨p, q, hA0, hV, rfl, hfz, hnd⟩ := hW
  have hA : DataW.TrodAll enc Go.Proofs.Tryz.prog W 0 (fun _ => true) true Go.Proofs.Tryz.f6.params.toList args.toList ds p := hA0
  rw [Go.Proofs.Tryz.params6] at hA hval
  obtain ⟨v0, vs0, d0, ds0, p0, q0, hargs, rfl, rfl, h0, r0⟩ := trodAll_cons hA
  obtain ⟨v1, vs1, d1, ds1, p1, q1, rfl, rfl, rfl, h1, r1⟩ := trodAll_cons r0
  obtain ⟨rfl, rfl, rfl⟩ := trodAll_nil r1
  obtain rfl : args = #[v0, v1] := by cases args; simp_all
  obtain ⟨rfl, rfl⟩ := trodVars_none hV
  obtain ⟨n0, rfl, rfl, rfl, w0⟩ := open_int Go.Proofs.Tryz.underlying5 (hval 0 5 v0 rfl rfl) h0
  obtain ⟨t, ct, rfl, ht, hwf, hsz⟩ := treeArg_of treeO baseS specT (bulkF H) (hval 1 26 v1 rfl rfl) h1
  have hc := hcond _ rfl
  have hsz2 : szT t ≤ 1048576 := by
    have hc2 : Rows.uptoBulkAll ([.lit (.int .u8 n0), d1] ++ []) ≤ 1048576 := of_decide_eq_true hc
    simp only [List.cons_append, List.nil_append, Rows.uptoBulkAll] at hc2
    omega
  have lt1 : ∀ x ∈ p1, x.block < W.heap.size := by obtain ⟨m, hm⟩ := h1; exact DataW.trod_lt m _ _ _ hm
  rw [MakeChecks.laidMetH_plain _ _ _ (by kernel_rfl)] at hL
  obtain ⟨a1, s1, hv1, _⟩ := laid_sentinel hL gO gT Go.Proofs.Tryz.underlying54 rowP Go.Proofs.Tryz.underlying236 Go.Proofs.Tryz.underlying254 rfl rfl Go.Proofs.Tryz.underlying9 cS cStr
  have hg : W.cell? ⟨1, 0, none⟩ = some (.iface 236 (.pointer (some a1))) := by simpa using World.var?_cell gO hv1 0
  have hn0 : 0 ≤ n0 ∧ n0 ≤ 255 := by
    simp [Lit.wf, IntKind.min, IntKind.max, IntKind.signed, IntKind.bits] at w0
    omega
  clear hA0 hval0
  refine Calls.mono (call_lawT baseS fnsS implT spT thSZ thSW thSTo (by decide) (by decide) (by decide) lawT fd_law (n := n0) hn0 ht hwf hsz2 hg) fun e W' ⟨v', he, hv', hm⟩ => ?_
  subst he hv'
  have bel := hm.below
  exact ⟨_, rfl, _, _, _, [], _, [], hW', trodAll_mk1 (shut_bool Go.Proofs.Tryz.underlying4 _), trodAll_cons_mk (shut_int Go.Proofs.Tryz.underlying5 w0) (trodAll_cons_mk (Below.trod laidOut (by kernel_rfl) (of_decide_eq_true (by kernel_rfl)) h1 bel lt1) trodAll_mk0), rfl, bel.frame _, fun h => by cases h⟩

set_option maxHeartbeats 4000000 in
theorem joined : joinedFacts Go.Proofs.Tryz.prog 6 Go.Proofs.Tryz.f6 (Rows.OpenSpec.upto Rows.fnTellInitializeShareGroupStateRequestSpec).bare Rows.fnTellInitializeShareGroupStateRequestUptoRow = true := by
  unfold joinedFacts
  exact bandT (bandT (bandT (bandT (bandT (bandT (bandT (bandT (bandT (bandT (bandT (bandT (bandT (bandT (bandT (bandT (bandT (bandT (bandT (bandT (bandT (bandT (bandT (bandT (bandT (bandT (bandT (bandT (bandT (bandT (bandT (by as_aux_lemma => kernel_rfl) laidOut) mapsRowedS) (by as_aux_lemma => kernel_rfl)) (by as_aux_lemma => kernel_rfl)) (by as_aux_lemma => kernel_rfl)) (by as_aux_lemma => kernel_rfl)) (by as_aux_lemma => kernel_rfl)) (by as_aux_lemma => kernel_rfl)) (by as_aux_lemma => kernel_rfl)) (by as_aux_lemma => kernel_rfl)) (by as_aux_lemma => kernel_rfl)) (by as_aux_lemma => kernel_rfl)) (by as_aux_lemma => kernel_rfl)) (by as_aux_lemma => kernel_rfl)) (by as_aux_lemma => kernel_rfl)) (by as_aux_lemma => kernel_rfl)) (by as_aux_lemma => kernel_rfl)) (by as_aux_lemma => kernel_rfl)) (by as_aux_lemma => kernel_rfl)) (by as_aux_lemma => kernel_rfl)) (by as_aux_lemma => kernel_rfl)) plainKeysS) (by as_aux_lemma => kernel_rfl)) stopsHeardS) bigEnter) bigLifts) bigMake) (by as_aux_lemma => kernel_rfl)) (by as_aux_lemma => kernel_rfl)) (by as_aux_lemma => kernel_rfl)) (by as_aux_lemma => kernel_rfl)
theorem named : Go.Proofs.Tryz.prog.funcNamed Rows.fnTellInitializeShareGroupStateRequestUptoRow.func = some 6 := by kernel_rfl
theorem isInst : Go.Proofs.Tryz.f6.isInstance Go.Proofs.Tryz.prog Rows.fnTellInitializeShareGroupStateRequestUptoRow.origin Rows.fnTellInitializeShareGroupStateRequestUptoRow.targs := of_decide_eq_true (by kernel_rfl)
theorem isWrap : Go.Proofs.Tryz.f6.isWrapper Go.Proofs.Tryz.prog Rows.fnTellInitializeShareGroupStateRequestUptoRow.wrapper Rows.fnTellInitializeShareGroupStateRequestUptoRow.mainSum := by unfold Func.isWrapper; first | (rw [if_pos (by decide +kernel)]; kernel_rfl) | (rw [if_neg (by decide +kernel)]; exact ⟨rfl, rfl⟩)
theorem row : Rows.FnTellInitializeShareGroupStateRequestUptoSaid :=
  OpenClaim.holds_of_cond 6 Go.Proofs.Tryz.f6 rfl rfl rfl rfl rfl rfl rfl ⟨rfl, rfl, rfl, rfl, rfl⟩ rfl rfl rfl rfl rfl named Go.Proofs.Tryz.func6 joined
    isInst isWrap
    (fun os started H enc _ F => by rw [OpenClaim.pre_eq_preRow]; exact lifted os started H enc F)
end Go.Proofs.YtplpomlhhaccgaaGreatDoor.fnTellInitializeShareGroupStateRequest

namespace Go.Proofs.YtplpomlhhaccgaaGreatDoor
open Go.Kf
set_option maxHeartbeats 4000000 in
theorem fnTellInitializeShareGroupStateRequest_card : Rows.FnTellInitializeShareGroupStateRequestUptoCardSaid :=
  Claim7.holds_tied_plain_at .later [] [.sentinel] true Rows.fnTellInitializeShareGroupStateRequestUptoCard.stood.harness false
    fnTellInitializeShareGroupStateRequest.row (fun _ h => by cases h) (by as_aux_lemma => kernel_rfl) (fun _ h => by cases h) fnTellInitializeShareGroupStateRequestUpto_row_tie rfl ⟨rfl, rfl⟩ mainS rfl
    (fun f fn hf hfn => by
      obtain rfl : f = 6 := Option.some.inj (fnTellInitializeShareGroupStateRequest.named.symm.trans hf) |>.symm
      obtain rfl : fn = Go.Proofs.Tryz.f6 := (Option.some.inj (Go.Proofs.Tryz.func6.symm.trans hfn)).symm
      refine ⟨looksS, fun j t ht => ?_⟩
      rw [Go.Proofs.Tryz.params6] at ht
      rcases j with _ | _ | j
      · obtain rfl : 5 = t := by simpa using ht
        exact (show Go.Proofs.Tryz.prog.wantsStandIn 5 = false by kernel_rfl)
      · obtain rfl : 26 = t := by simpa using ht
        exact (show Go.Proofs.Tryz.prog.wantsStandIn 26 = false by kernel_rfl)
      · simp at ht)
    (by as_aux_lemma => kernel_rfl)
#print axioms fnTellInitializeShareGroupStateRequest_card
end Go.Proofs.YtplpomlhhaccgaaGreatDoor
