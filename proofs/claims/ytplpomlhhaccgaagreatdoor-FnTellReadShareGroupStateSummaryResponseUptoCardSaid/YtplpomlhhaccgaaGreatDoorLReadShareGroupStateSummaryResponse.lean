/- Of a message that is written by the protocol just its fields are told (laws.FnTellReadShareGroupStateSummaryResponse): the second form's tied card is proved, at every version number and every tree whose bulk is at most 1048576; no other condition. -/
import Derived.Test.YtplpomlhhaccgaaGreatDoorKs
set_option linter.unusedSimpArgs false
set_option linter.unusedVariables false
set_option maxRecDepth 100000
namespace Go.Kf
open Go

def tf : TypeId → FuncId × FuncId := fun | 187 => (165, 188) | 140 => (120, 166) | _ => (0, 0)

def rReadShareGroupStateSummaryResponseTopicPartition : Fds := .cons .all (.pr .i32 none) (.cons .all (.pr .i16 none) (.cons .all (.txt .nstr) (.cons .all (.pr .i32 none) (.cons .all (.pr .i32 none) (.cons .all (.pr .i64 none) (.cons (.ge 1) (.pr .i32 (some (.int .i32 (-1)))) (.tags)))))))
theorem df_ReadShareGroupStateSummaryResponseTopicPartition : FOk Go.Proofs.Tryz.prog 163 1 (seqs (rReadShareGroupStateSummaryResponseTopicPartition.dfl NS 187 0)) [] := ⟨Go.Proofs.Tryz.f163, _, [0], Go.Proofs.Tryz.func163, rfl, by kernel_rfl, by kernel_rfl, by decide, by kernel_rfl, by kernel_rfl⟩
theorem ft_ReadShareGroupStateSummaryResponseTopicPartition : FOk Go.Proofs.Tryz.prog 165 1 (tellC NS tf 187 0 188 rReadShareGroupStateSummaryResponseTopicPartition) [.cell 1 NS.zab] := ⟨Go.Proofs.Tryz.f165, _, [0, 2, 3], Go.Proofs.Tryz.func165, rfl, by kernel_rfl, by kernel_rfl, by decide, by kernel_rfl, by kernel_rfl⟩
theorem fc_ReadShareGroupStateSummaryResponseTopicPartition : FOk Go.Proofs.Tryz.prog 188 3 (cTagFn NS) [] := ⟨Go.Proofs.Tryz.f188, _, [0, 1, 2], Go.Proofs.Tryz.func188, rfl, by kernel_rfl, by kernel_rfl, by decide, by kernel_rfl, by kernel_rfl⟩
theorem tl_ReadShareGroupStateSummaryResponseTopicPartition : TellP Go.Proofs.Tryz.prog 165 0 rReadShareGroupStateSummaryResponseTopicPartition := tellP baseS fnsS implT tellN (tf := tf) (Tt := 187) (idx0 := 0) ft_ReadShareGroupStateSummaryResponseTopicPartition (fun _ => fc_ReadShareGroupStateSummaryResponseTopicPartition) ⟨trivial, ⟨trivial, ⟨⟨by decide, by decide⟩, ⟨trivial, ⟨trivial, ⟨trivial, ⟨trivial, trivial⟩⟩⟩⟩⟩⟩⟩ (Fds.ok_of (fx := true) (Tt := 187) (idx := 0) (off := 0) baseS fnsS rReadShareGroupStateSummaryResponseTopicPartition (by kernel_rfl) ⟨trivial, ⟨trivial, ⟨trivial, ⟨trivial, ⟨trivial, ⟨trivial, ⟨trivial, trivial⟩⟩⟩⟩⟩⟩⟩).2.1 (by decide)

def rReadShareGroupStateSummaryResponseTopic : Fds := .cons .all (.pr .uuid none) (.cons .all (.arr 138 none (.row 187 185 163 (.cons .all (.pr .i32 none) (.cons .all (.pr .i16 none) (.cons .all (.txt .nstr) (.cons .all (.pr .i32 none) (.cons .all (.pr .i32 none) (.cons .all (.pr .i64 none) (.cons (.ge 1) (.pr .i32 (some (.int .i32 (-1)))) (.tags)))))))))) (.tags))
theorem df_ReadShareGroupStateSummaryResponseTopic : FOk Go.Proofs.Tryz.prog 162 1 (seqs (rReadShareGroupStateSummaryResponseTopic.dfl NS 140 0)) [] := ⟨Go.Proofs.Tryz.f162, _, [0], Go.Proofs.Tryz.func162, rfl, by kernel_rfl, by kernel_rfl, by decide, by kernel_rfl, by kernel_rfl⟩
theorem ft_ReadShareGroupStateSummaryResponseTopic : FOk Go.Proofs.Tryz.prog 120 1 (tellC NS tf 140 0 166 rReadShareGroupStateSummaryResponseTopic) [.cell 1 NS.zab] := ⟨Go.Proofs.Tryz.f120, _, [0, 2, 3, 29, 30, 31, 4, 34, 46, 47, 49], Go.Proofs.Tryz.func120, rfl, by kernel_rfl, by kernel_rfl, by decide, by kernel_rfl, by kernel_rfl⟩
theorem fc_ReadShareGroupStateSummaryResponseTopic : FOk Go.Proofs.Tryz.prog 166 3 (cTagFn NS) [] := ⟨Go.Proofs.Tryz.f166, _, [0, 1, 2], Go.Proofs.Tryz.func166, rfl, by kernel_rfl, by kernel_rfl, by decide, by kernel_rfl, by kernel_rfl⟩
theorem tl_ReadShareGroupStateSummaryResponseTopic : TellP Go.Proofs.Tryz.prog 120 0 rReadShareGroupStateSummaryResponseTopic := tellP baseS fnsS implT tellN (tf := tf) (Tt := 140) (idx0 := 0) ft_ReadShareGroupStateSummaryResponseTopic (fun _ => fc_ReadShareGroupStateSummaryResponseTopic) ⟨(show NS.zbl ≠ 0 by decide), ⟨⟨zhq (by kernel_rfl), el_ti (fx := true) baseS fnsS _ (by kernel_rfl) ⟨df_ReadShareGroupStateSummaryResponseTopicPartition, ⟨trivial, ⟨trivial, ⟨trivial, ⟨trivial, ⟨trivial, ⟨trivial, ⟨trivial, trivial⟩⟩⟩⟩⟩⟩⟩⟩, tl_ReadShareGroupStateSummaryResponseTopicPartition⟩, trivial⟩⟩ (Fds.ok_of (fx := true) (Tt := 140) (idx := 0) (off := 0) baseS fnsS rReadShareGroupStateSummaryResponseTopic (by kernel_rfl) ⟨trivial, ⟨⟨df_ReadShareGroupStateSummaryResponseTopicPartition, ⟨trivial, ⟨trivial, ⟨trivial, ⟨trivial, ⟨trivial, ⟨trivial, ⟨trivial, trivial⟩⟩⟩⟩⟩⟩⟩⟩, trivial⟩⟩).2.1 (by decide)

def mS : Msg := ⟨135, 79, 117, 0, false, .cons .all (.arr 133 none (.row 140 137 162 (.cons .all (.pr .uuid none) (.cons .all (.arr 138 none (.row 187 185 163 (.cons .all (.pr .i32 none) (.cons .all (.pr .i16 none) (.cons .all (.txt .nstr) (.cons .all (.pr .i32 none) (.cons .all (.pr .i32 none) (.cons .all (.pr .i64 none) (.cons (.ge 1) (.pr .i32 (some (.int .i32 (-1)))) (.tags)))))))))) (.tags))))) (.tags)⟩
def dS : zvm where
  newP := 70
  setV := 73
  maxV := 71
  readF := 74
  readf := 119
  tell := 75
  maxI := 28
  tellI := 30
theorem rd_m : FOk Go.Proofs.Tryz.prog 119 3 (mS.gen NS true) [.var 3] := ⟨Go.Proofs.Tryz.f119, _, [0, 1, 2, 6, 7, 8, 9, 10, 11, 12, 13, 49, 53, 58, 14, 64, 15, 16, 17, 18, 19, 20, 83, 87, 92, 21, 98, 22, 23, 24, 25, 26, 117, 118, 121, 27, 28, 29, 144, 30, 150, 160, 170], Go.Proofs.Tryz.func119, rfl, by kernel_rfl, by kernel_rfl, by decide, by kernel_rfl, by kernel_rfl⟩
theorem df_m : FOk Go.Proofs.Tryz.prog 117 1 (seqs (mS.fs.dfl NS mS.tT 1)) [] := ⟨Go.Proofs.Tryz.f117, _, [0], Go.Proofs.Tryz.func117, rfl, by kernel_rfl, by kernel_rfl, by decide, by kernel_rfl, by kernel_rfl⟩
theorem mt : MsgT Go.Proofs.Tryz.prog NS mS true := msgT_of baseS fnsS (by kernel_rfl) (by kernel_rfl) (by kernel_rfl) ⟨⟨df_ReadShareGroupStateSummaryResponseTopic, ⟨trivial, ⟨⟨df_ReadShareGroupStateSummaryResponseTopicPartition, ⟨trivial, ⟨trivial, ⟨trivial, ⟨trivial, ⟨trivial, ⟨trivial, ⟨trivial, trivial⟩⟩⟩⟩⟩⟩⟩⟩, trivial⟩⟩⟩, trivial⟩ df_m
theorem ft_ReadShareGroupStateSummaryResponse : FOk Go.Proofs.Tryz.prog 75 1 (tellC NS tf 135 1 121 mS.fs) [.cell 1 NS.zab] := ⟨Go.Proofs.Tryz.f75, _, [0, 2, 3, 20, 21, 22, 4, 25, 37, 38, 40], Go.Proofs.Tryz.func75, rfl, by kernel_rfl, by kernel_rfl, by decide, by kernel_rfl, by kernel_rfl⟩
theorem fc_ReadShareGroupStateSummaryResponse : FOk Go.Proofs.Tryz.prog 121 3 (cTagFn NS) [] := ⟨Go.Proofs.Tryz.f121, _, [0, 1, 2], Go.Proofs.Tryz.func121, rfl, by kernel_rfl, by kernel_rfl, by decide, by kernel_rfl, by kernel_rfl⟩
theorem tl_ReadShareGroupStateSummaryResponse : TellP Go.Proofs.Tryz.prog 75 1 mS.fs := tellP baseS fnsS implT tellN (tf := tf) (Tt := 135) (idx0 := 1) ft_ReadShareGroupStateSummaryResponse (fun _ => fc_ReadShareGroupStateSummaryResponse) ⟨⟨zhq (by kernel_rfl), el_ti (fx := true) baseS fnsS _ (by kernel_rfl) ⟨df_ReadShareGroupStateSummaryResponseTopic, ⟨trivial, ⟨⟨df_ReadShareGroupStateSummaryResponseTopicPartition, ⟨trivial, ⟨trivial, ⟨trivial, ⟨trivial, ⟨trivial, ⟨trivial, ⟨trivial, trivial⟩⟩⟩⟩⟩⟩⟩⟩, trivial⟩⟩⟩, tl_ReadShareGroupStateSummaryResponseTopic⟩, trivial⟩ mt.hf (by decide)
theorem fd_new : FOk Go.Proofs.Tryz.prog 70 0 (c_new NS mS.tT mS.dflt) [.var 0] := ⟨Go.Proofs.Tryz.f70, _, [0, 1], Go.Proofs.Tryz.func70, rfl, by kernel_rfl, by kernel_rfl, by decide, by kernel_rfl, by kernel_rfl⟩
theorem fd_set : FOk Go.Proofs.Tryz.prog 73 2 (c_set NS mS.tT) [] := ⟨Go.Proofs.Tryz.f73, _, [0, 1], Go.Proofs.Tryz.func73, rfl, by kernel_rfl, by kernel_rfl, by decide, by kernel_rfl, by kernel_rfl⟩
theorem door : zys Go.Proofs.Tryz.prog NS mS true dS where
  msg := mt
  vin := rfl
  ti := (tsB_ok (by' := bytesOf Go.Proofs.Tryz.prog 135) (by kernel_rfl)).imp fun _ h => ⟨_, h⟩
  newP := fd_new
  setV := fd_set
  readf := rd_m
  tell := tl_ReadShareGroupStateSummaryResponse
  dok := ⟨⟨⟨List.replicate 16 0, rfl, rfl⟩, ⟨⟨⟨_, rfl, by decide⟩, ⟨⟨_, rfl, by decide⟩, ⟨⟨_, rfl, by decide⟩, ⟨⟨_, rfl, by decide⟩, ⟨⟨_, rfl, by decide⟩, ⟨⟨_, rfl, by decide⟩, trivial⟩⟩⟩⟩⟩⟩, trivial⟩⟩, trivial⟩
  shB := by kernel_rfl
  cnt := by decide
theorem fd_rf : FOk Go.Proofs.Tryz.prog 74 2 (c_rf NS mS.pT 119 false) [.var 2] := ⟨Go.Proofs.Tryz.f74, _, [0, 1, 4], Go.Proofs.Tryz.func74, rfl, by kernel_rfl, by kernel_rfl, by decide, by kernel_rfl, by kernel_rfl⟩
theorem fd_mv : FOk Go.Proofs.Tryz.prog 71 1 (c_max 1) [.var 1] := ⟨Go.Proofs.Tryz.f71, _, [0, 2], Go.Proofs.Tryz.func71, rfl, by kernel_rfl, by kernel_rfl, by decide, by kernel_rfl, by kernel_rfl⟩
theorem fd_mi : FOk Go.Proofs.Tryz.prog 28 0 (c_maxI NS mS.pT 70 71) [.var 0] := ⟨Go.Proofs.Tryz.f28, _, [0], Go.Proofs.Tryz.func28, rfl, by kernel_rfl, by kernel_rfl, by decide, by kernel_rfl, by kernel_rfl⟩
theorem fd_tellI : FOk Go.Proofs.Tryz.prog 30 2 (c_door NS mS.pT 70 73 74 75) [.cell 2 NS.zab, .var 3] := ⟨Go.Proofs.Tryz.f30, _, [0, 1, 4, 5, 6, 16], Go.Proofs.Tryz.func30, rfl, by kernel_rfl, by kernel_rfl, by decide, by kernel_rfl, by kernel_rfl⟩

def sc_sReadShareGroupStateSummaryResponseTopicPartition : List SC := [.mk [(0, 3), (2, -1), (3, -1), (4, -1)] none [], .mk [(0, 2), (2, -1), (3, -1), (4, -1)] none [], .mk [(0, 8), (2, -1), (3, 0), (4, -1)] none [], .mk [(0, 3), (2, -1), (3, -1), (4, -1)] none [], .mk [(0, 3), (2, -1), (3, -1), (4, -1)] none [], .mk [(0, 4), (2, -1), (3, -1), (4, -1)] none [], .mk [(0, 3), (1, 1), (2, -1), (3, -1), (4, -1), (5, -1)] none []]
theorem fsc_sReadShareGroupStateSummaryResponseTopicPartition : FOk Go.Proofs.Tryz.prog 118 0 (c_flds MS sc_sReadShareGroupStateSummaryResponseTopicPartition) [.var 0] := ⟨Go.Proofs.Tryz.f118, _, [0], Go.Proofs.Tryz.func118, rfl, by kernel_rfl, by kernel_rfl, by decide, by kernel_rfl, by kernel_rfl⟩
theorem mk_sReadShareGroupStateSummaryResponseTopicPartition : MkOk Go.Proofs.Tryz.prog 118 (SC.flds sc_sReadShareGroupStateSummaryResponseTopicPartition) := mk_flds (l := sc_sReadShareGroupStateSummaryResponseTopicPartition) spT (by kernel_rfl) ⟨rfl, ⟨rfl, ⟨rfl, ⟨rfl, ⟨rfl, ⟨rfl, ⟨rfl, trivial⟩⟩⟩⟩⟩⟩⟩ fsc_sReadShareGroupStateSummaryResponseTopicPartition

def sc_sReadShareGroupStateSummaryResponseTopic : List SC := [.mk [(0, 7), (2, -1), (3, -1), (4, -1)] none [], .mk [(0, 11), (2, -1), (3, -1), (4, -1), (6, 10)] (some 118) sc_sReadShareGroupStateSummaryResponseTopicPartition]
theorem fsc_sReadShareGroupStateSummaryResponseTopic : FOk Go.Proofs.Tryz.prog 72 0 (c_flds MS sc_sReadShareGroupStateSummaryResponseTopic) [.var 0] := ⟨Go.Proofs.Tryz.f72, _, [0], Go.Proofs.Tryz.func72, rfl, by kernel_rfl, by kernel_rfl, by decide, by kernel_rfl, by kernel_rfl⟩
theorem mk_sReadShareGroupStateSummaryResponseTopic : MkOk Go.Proofs.Tryz.prog 72 (SC.flds sc_sReadShareGroupStateSummaryResponseTopic) := mk_flds (l := sc_sReadShareGroupStateSummaryResponseTopic) spT (by kernel_rfl) ⟨rfl, ⟨⟨mk_sReadShareGroupStateSummaryResponseTopicPartition, fsc_sReadShareGroupStateSummaryResponseTopicPartition.has⟩, trivial⟩⟩ fsc_sReadShareGroupStateSummaryResponseTopic

def sc_ReadShareGroupStateSummaryResponse : List SC := [.mk [(0, 11), (2, -1), (3, -1), (4, -1), (6, 10)] (some 72) sc_sReadShareGroupStateSummaryResponseTopic]
theorem fsc_ReadShareGroupStateSummaryResponse : FOk Go.Proofs.Tryz.prog 29 0 (c_msg MS sc_ReadShareGroupStateSummaryResponse (0)) [.cell 0 MS.zam] := ⟨Go.Proofs.Tryz.f29, _, [0], Go.Proofs.Tryz.func29, rfl, by kernel_rfl, by kernel_rfl, by decide, by kernel_rfl, by kernel_rfl⟩
theorem lawT : LawTT Go.Proofs.Tryz.prog NS MS mS true dS 1 29 sc_ReadShareGroupStateSummaryResponse (0) := ⟨door, fd_rf, fd_mv, fd_mi, fd_tellI, by decide, by decide, by decide, fsc_ReadShareGroupStateSummaryResponse, by kernel_rfl, ⟨⟨mk_sReadShareGroupStateSummaryResponseTopic, fsc_sReadShareGroupStateSummaryResponseTopic.has⟩, trivial⟩, by kernel_rfl, by kernel_rfl, by kernel_rfl⟩
theorem fd_law : FOk Go.Proofs.Tryz.prog 7 2 (c_lawT NS MS 38 dS.maxI dS.tellI 29) [.var 3] := ⟨Go.Proofs.Tryz.f7, _, [0, 1, 3, 4, 12, 5, 15, 6, 7, 8, 9], Go.Proofs.Tryz.func7, rfl, by kernel_rfl, by kernel_rfl, by decide, by kernel_rfl, by kernel_rfl⟩
end Go.Kf

namespace Go.Proofs.YtplpomlhhaccgaaGreatDoor.fnTellReadShareGroupStateSummaryResponse
open Go.ChangeShapes Go.WideShapes Go.ChangeAt Go.RowKit Go.Kf

theorem reads (os : Os) {H : Type} (enc : TypeId × Value → H) : ∃ places, DataW.whole enc Go.Proofs.Tryz.prog ((World.doorLaid Go.Proofs.Tryz.prog 400 os).forCall (fun _ _ => 0) ⟨#[], #[.int .u8 0, .agg #[.int .i64 0, .slice none 0 0, .bool false, .slice none 0 0, .slice none 0 0]], []⟩).memory Go.Proofs.Tryz.f7.params.toList Rows.fnTellReadShareGroupStateSummaryResponseSpec.vars false #[Value.int .u8 0, .agg #[.int .i64 0, .slice none 0 0, .bool false, .slice none 0 0, .slice none 0 0]].toList 8 = some ([.lit (.int .u8 0), .agg [.lit (.int .i64 0), .nil, .lit (.bool false), .nil, .nil]], [], places) :=
  ⟨[], by kernel_rfl⟩
set_option maxHeartbeats 4000000 in
theorem lifted (os : Os) (started : os.Started) (H : Type) (enc : TypeId × Value → H) (F : Stop.Interp) :
    ReturnsInHanded {} Go.Proofs.Tryz.checked os 7 .any ((Rows.OpenSpec.upto Rows.fnTellReadShareGroupStateSummaryResponseSpec).preRow enc Go.Proofs.Tryz.prog Go.Proofs.Tryz.f7 Rows.fnTellReadShareGroupStateSummaryResponseUptoRow.domain false Rows.fnTellReadShareGroupStateSummaryResponseUptoRow.laid) (((Rows.OpenSpec.upto Rows.fnTellReadShareGroupStateSummaryResponseSpec).at F).post enc Go.Proofs.Tryz.prog Go.Proofs.Tryz.f7 false true false false) := by
  obtain ⟨places, hx⟩ := reads os enc
  refine returnsInHanded_of_row (C := Go.Proofs.Tryz.checked) (s := Rows.OpenSpec.upto Rows.fnTellReadShareGroupStateSummaryResponseSpec) own started (by kernel_rfl) Go.Proofs.Tryz.func7
    ⟨World.doorLaid Go.Proofs.Tryz.prog 400 os, fun _ _ => 0, ⟨#[], #[.int .u8 0, .agg #[.int .i64 0, .slice none 0 0, .bool false, .slice none 0 0, .slice none 0 0]], []⟩, rfl, shaped os _, rfl, (Input.okWide_of_okWideB (by kernel_rfl)).2,
      OpenSpec.preRow_of_cond 8 hx (by kernel_rfl) (fun k hk => by cases hk; kernel_rfl) (by kernel_rfl) (door_met os _), by
        simp only [Assume.holds]
        exact ⟨by simp, by simp, fun _ => Modest.zero, by simp, by simp⟩⟩ ?_
  intro W base args ds gs before hval0 hW _ hcond _ hL _ _
  have hval : ∀ (j : Nat) t v, Go.Proofs.Tryz.f7.params[j]? = some t → args[j]? = some v → Value.okWide Go.Proofs.Tryz.prog W .any base t v := hval0
  have hW' := hW
  obtain ⟨p, q, hA0, hV, rfl, hfz, hnd⟩ := hW
  have hA : DataW.TrodAll enc Go.Proofs.Tryz.prog W 0 (fun _ => true) true Go.Proofs.Tryz.f7.params.toList args.toList ds p := hA0
  rw [Go.Proofs.Tryz.params7] at hA hval
  obtain ⟨v0, vs0, d0, ds0, p0, q0, hargs, rfl, rfl, h0, r0⟩ := trodAll_cons hA
  obtain ⟨v1, vs1, d1, ds1, p1, q1, rfl, rfl, rfl, h1, r1⟩ := trodAll_cons r0
  obtain ⟨rfl, rfl, rfl⟩ := trodAll_nil r1
  obtain rfl : args = #[v0, v1] := by cases args; simp_all
  obtain ⟨rfl, rfl⟩ := trodVars_none hV
  obtain ⟨n0, rfl, rfl, rfl, w0⟩ := open_int Go.Proofs.Tryz.underlying5 (hval 0 5 v0 rfl rfl) h0
  obtain ⟨t, ct, rfl, ht, hwf, hsz⟩ := treeArg_of treeO baseS specT (bulkF H) (hval 1 26 v1 rfl rfl) h1
  have hc := hcond _ rfl
  have hsz2 : szT t ≤ 1048576 := by
    have hc2 : Rows.uptoBulkAll ([.lit (.int .u8 n0), d1] ++ []) ≤ 1048576 := of_decide_eq_true hc
    simp only [List.cons_append, List.nil_append, Rows.uptoBulkAll] at hc2
    omega
  have lt1 : ∀ x ∈ p1, x.block < W.heap.size := by obtain ⟨m, hm⟩ := h1; exact DataW.trod_lt m _ _ _ hm
  rw [MakeChecks.laidMetH_plain _ _ _ (by kernel_rfl)] at hL
  obtain ⟨a1, s1, hv1, _⟩ := laid_sentinel hL gO gT Go.Proofs.Tryz.underlying54 rowP Go.Proofs.Tryz.underlying236 Go.Proofs.Tryz.underlying254 rfl rfl Go.Proofs.Tryz.underlying9 cS cStr
  have hg : W.cell? ⟨1, 0, none⟩ = some (.iface 236 (.pointer (some a1))) := by simpa using World.var?_cell gO hv1 0
  have hn0 : 0 ≤ n0 ∧ n0 ≤ 255 := by
    simp [Lit.wf, IntKind.min, IntKind.max, IntKind.signed, IntKind.bits] at w0
    omega
  clear hA0 hval0
  refine Calls.mono (call_lawT baseS fnsS implT spT thSZ thSW thSTo (by decide) (by decide) (by decide) lawT fd_law (n := n0) hn0 ht hwf hsz2 hg) fun e W' ⟨v', he, hv', hm⟩ => ?_
  subst he hv'
  have bel := hm.below
  exact ⟨_, rfl, _, _, _, [], _, [], hW', trodAll_mk1 (shut_bool Go.Proofs.Tryz.underlying4 _), trodAll_cons_mk (shut_int Go.Proofs.Tryz.underlying5 w0) (trodAll_cons_mk (Below.trod laidOut (by kernel_rfl) (of_decide_eq_true (by kernel_rfl)) h1 bel lt1) trodAll_mk0), rfl, bel.frame _, fun h => by cases h⟩

set_option maxHeartbeats 4000000 in
theorem joined : joinedFacts Go.Proofs.Tryz.prog 7 Go.Proofs.Tryz.f7 (Rows.OpenSpec.upto Rows.fnTellReadShareGroupStateSummaryResponseSpec).bare Rows.fnTellReadShareGroupStateSummaryResponseUptoRow = true := by
  unfold joinedFacts
  exact bandT (bandT (bandT (bandT (bandT (bandT (bandT (bandT (bandT (bandT (bandT (bandT (bandT (bandT (bandT (bandT (bandT (bandT (bandT (bandT (bandT (bandT (bandT (bandT (bandT (bandT (bandT (bandT (bandT (bandT (bandT (by as_aux_lemma => kernel_rfl) laidOut) mapsRowedS) (by as_aux_lemma => kernel_rfl)) (by as_aux_lemma => kernel_rfl)) (by as_aux_lemma => kernel_rfl)) (by as_aux_lemma => kernel_rfl)) (by as_aux_lemma => kernel_rfl)) (by as_aux_lemma => kernel_rfl)) (by as_aux_lemma => kernel_rfl)) (by as_aux_lemma => kernel_rfl)) (by as_aux_lemma => kernel_rfl)) (by as_aux_lemma => kernel_rfl)) (by as_aux_lemma => kernel_rfl)) (by as_aux_lemma => kernel_rfl)) (by as_aux_lemma => kernel_rfl)) (by as_aux_lemma => kernel_rfl)) (by as_aux_lemma => kernel_rfl)) (by as_aux_lemma => kernel_rfl)) (by as_aux_lemma => kernel_rfl)) (by as_aux_lemma => kernel_rfl)) (by as_aux_lemma => kernel_rfl)) plainKeysS) (by as_aux_lemma => kernel_rfl)) stopsHeardS) bigEnter) bigLifts) bigMake) (by as_aux_lemma => kernel_rfl)) (by as_aux_lemma => kernel_rfl)) (by as_aux_lemma => kernel_rfl)) (by as_aux_lemma => kernel_rfl)
theorem named : Go.Proofs.Tryz.prog.funcNamed Rows.fnTellReadShareGroupStateSummaryResponseUptoRow.func = some 7 := by kernel_rfl
theorem isInst : Go.Proofs.Tryz.f7.isInstance Go.Proofs.Tryz.prog Rows.fnTellReadShareGroupStateSummaryResponseUptoRow.origin Rows.fnTellReadShareGroupStateSummaryResponseUptoRow.targs := of_decide_eq_true (by kernel_rfl)
theorem isWrap : Go.Proofs.Tryz.f7.isWrapper Go.Proofs.Tryz.prog Rows.fnTellReadShareGroupStateSummaryResponseUptoRow.wrapper Rows.fnTellReadShareGroupStateSummaryResponseUptoRow.mainSum := by unfold Func.isWrapper; first | (rw [if_pos (by decide +kernel)]; kernel_rfl) | (rw [if_neg (by decide +kernel)]; exact ⟨rfl, rfl⟩)
theorem row : Rows.FnTellReadShareGroupStateSummaryResponseUptoSaid :=
  OpenClaim.holds_of_cond 7 Go.Proofs.Tryz.f7 rfl rfl rfl rfl rfl rfl rfl ⟨rfl, rfl, rfl, rfl, rfl⟩ rfl rfl rfl rfl rfl named Go.Proofs.Tryz.func7 joined
    isInst isWrap
    (fun os started H enc _ F => by rw [OpenClaim.pre_eq_preRow]; exact lifted os started H enc F)
end Go.Proofs.YtplpomlhhaccgaaGreatDoor.fnTellReadShareGroupStateSummaryResponse

namespace Go.Proofs.YtplpomlhhaccgaaGreatDoor
open Go.Kf
set_option maxHeartbeats 4000000 in
theorem fnTellReadShareGroupStateSummaryResponse_card : Rows.FnTellReadShareGroupStateSummaryResponseUptoCardSaid :=
  Claim7.holds_tied_plain_at .later [] [.sentinel] true Rows.fnTellReadShareGroupStateSummaryResponseUptoCard.stood.harness false
    fnTellReadShareGroupStateSummaryResponse.row (fun _ h => by cases h) (by as_aux_lemma => kernel_rfl) (fun _ h => by cases h) fnTellReadShareGroupStateSummaryResponseUpto_row_tie rfl ⟨rfl, rfl⟩ mainS rfl
    (fun f fn hf hfn => by
      obtain rfl : f = 7 := Option.some.inj (fnTellReadShareGroupStateSummaryResponse.named.symm.trans hf) |>.symm
      obtain rfl : fn = Go.Proofs.Tryz.f7 := (Option.some.inj (Go.Proofs.Tryz.func7.symm.trans hfn)).symm
      refine ⟨looksS, fun j t ht => ?_⟩
      rw [Go.Proofs.Tryz.params7] at ht
      rcases j with _ | _ | j
      · obtain rfl : 5 = t := by simpa using ht
        exact (show Go.Proofs.Tryz.prog.wantsStandIn 5 = false by kernel_rfl)
      · obtain rfl : 26 = t := by simpa using ht
        exact (show Go.Proofs.Tryz.prog.wantsStandIn 26 = false by kernel_rfl)
      · simp at ht)
    (by as_aux_lemma => kernel_rfl)
#print axioms fnTellReadShareGroupStateSummaryResponse_card
end Go.Proofs.YtplpomlhhaccgaaGreatDoor
