/- Of a message that is written by the protocol just its fields are told (laws.FnTellAlterPartitionAssignmentsResponse): the second form's tied card is proved, at every version number and every tree whose bulk is at most 1048576; no other condition. -/
import Derived.Test.YtplpomlhhaccgaaGreatDoorKs
set_option linter.unusedSimpArgs false
set_option linter.unusedVariables false
set_option maxRecDepth 100000
namespace Go.Kf
open Go

def tf : TypeId → FuncId × FuncId := fun | 191 => (172, 189) | 156 => (130, 173) | _ => (0, 0)

def rAlterPartitionAssignmentsResponseTopicPartition : Fds := .cons .all (.pr .i32 none) (.cons .all (.pr .i16 none) (.cons .all (.txt .nstr) (.tags)))
theorem df_AlterPartitionAssignmentsResponseTopicPartition : FOk Go.Proofs.Tryz.prog 171 1 (seqs (rAlterPartitionAssignmentsResponseTopicPartition.dfl NS 191 0)) [] := ⟨Go.Proofs.Tryz.f171, _, [0], Go.Proofs.Tryz.func171, rfl, by kernel_rfl, by kernel_rfl, by decide, by kernel_rfl, by kernel_rfl⟩
theorem ft_AlterPartitionAssignmentsResponseTopicPartition : FOk Go.Proofs.Tryz.prog 172 1 (tellC NS tf 191 0 189 rAlterPartitionAssignmentsResponseTopicPartition) [.cell 1 NS.zab] := ⟨Go.Proofs.Tryz.f172, _, [0, 2, 3], Go.Proofs.Tryz.func172, rfl, by kernel_rfl, by kernel_rfl, by decide, by kernel_rfl, by kernel_rfl⟩
theorem fc_AlterPartitionAssignmentsResponseTopicPartition : FOk Go.Proofs.Tryz.prog 189 3 (cTagFn NS) [] := ⟨Go.Proofs.Tryz.f189, _, [0, 1, 2], Go.Proofs.Tryz.func189, rfl, by kernel_rfl, by kernel_rfl, by decide, by kernel_rfl, by kernel_rfl⟩
theorem tl_AlterPartitionAssignmentsResponseTopicPartition : TellP Go.Proofs.Tryz.prog 172 0 rAlterPartitionAssignmentsResponseTopicPartition := tellP baseS fnsS implT tellN (tf := tf) (Tt := 191) (idx0 := 0) ft_AlterPartitionAssignmentsResponseTopicPartition (fun _ => fc_AlterPartitionAssignmentsResponseTopicPartition) ⟨trivial, ⟨trivial, ⟨⟨by decide, by decide⟩, trivial⟩⟩⟩ (Fds.ok_of (fx := true) (Tt := 191) (idx := 0) (off := 0) baseS fnsS rAlterPartitionAssignmentsResponseTopicPartition (by kernel_rfl) ⟨trivial, ⟨trivial, ⟨trivial, trivial⟩⟩⟩).2.1 (by decide)

def rAlterPartitionAssignmentsResponseTopic : Fds := .cons .all (.txt .str) (.cons .all (.arr 154 none (.row 191 189 171 (.cons .all (.pr .i32 none) (.cons .all (.pr .i16 none) (.cons .all (.txt .nstr) (.tags)))))) (.tags))
theorem df_AlterPartitionAssignmentsResponseTopic : FOk Go.Proofs.Tryz.prog 170 1 (seqs (rAlterPartitionAssignmentsResponseTopic.dfl NS 156 0)) [] := ⟨Go.Proofs.Tryz.f170, _, [0], Go.Proofs.Tryz.func170, rfl, by kernel_rfl, by kernel_rfl, by decide, by kernel_rfl, by kernel_rfl⟩
theorem ft_AlterPartitionAssignmentsResponseTopic : FOk Go.Proofs.Tryz.prog 130 1 (tellC NS tf 156 0 173 rAlterPartitionAssignmentsResponseTopic) [.cell 1 NS.zab] := ⟨Go.Proofs.Tryz.f130, _, [0, 2, 3, 29, 30, 31, 4, 34, 46, 47, 49], Go.Proofs.Tryz.func130, rfl, by kernel_rfl, by kernel_rfl, by decide, by kernel_rfl, by kernel_rfl⟩
theorem fc_AlterPartitionAssignmentsResponseTopic : FOk Go.Proofs.Tryz.prog 173 3 (cTagFn NS) [] := ⟨Go.Proofs.Tryz.f173, _, [0, 1, 2], Go.Proofs.Tryz.func173, rfl, by kernel_rfl, by kernel_rfl, by decide, by kernel_rfl, by kernel_rfl⟩
theorem tl_AlterPartitionAssignmentsResponseTopic : TellP Go.Proofs.Tryz.prog 130 0 rAlterPartitionAssignmentsResponseTopic := tellP baseS fnsS implT tellN (tf := tf) (Tt := 156) (idx0 := 0) ft_AlterPartitionAssignmentsResponseTopic (fun _ => fc_AlterPartitionAssignmentsResponseTopic) ⟨trivial, ⟨⟨zhq (by kernel_rfl), el_ti (fx := true) baseS fnsS _ (by kernel_rfl) ⟨df_AlterPartitionAssignmentsResponseTopicPartition, ⟨trivial, ⟨trivial, ⟨trivial, trivial⟩⟩⟩⟩, tl_AlterPartitionAssignmentsResponseTopicPartition⟩, trivial⟩⟩ (Fds.ok_of (fx := true) (Tt := 156) (idx := 0) (off := 0) baseS fnsS rAlterPartitionAssignmentsResponseTopic (by kernel_rfl) ⟨trivial, ⟨⟨df_AlterPartitionAssignmentsResponseTopicPartition, ⟨trivial, ⟨trivial, ⟨trivial, trivial⟩⟩⟩⟩, trivial⟩⟩).2.1 (by decide)

def mS : Msg := ⟨150, 85, 126, 0, false, .cons .all (.pr .i32 none) (.cons (.ge 1) (.pr .bool (some (.bool true))) (.cons .all (.pr .i16 none) (.cons .all (.txt .nstr) (.cons .all (.arr 148 none (.row 156 153 170 (.cons .all (.txt .str) (.cons .all (.arr 154 none (.row 191 189 171 (.cons .all (.pr .i32 none) (.cons .all (.pr .i16 none) (.cons .all (.txt .nstr) (.tags)))))) (.tags))))) (.tags)))))⟩
def dS : zvm where
  newP := 82
  setV := 85
  maxV := 83
  readF := 86
  readf := 128
  tell := 87
  maxI := 34
  tellI := 36
theorem rd_m : FOk Go.Proofs.Tryz.prog 128 3 (mS.gen NS true) [.var 3] := ⟨Go.Proofs.Tryz.f128, _, [0, 1, 2, 6, 7, 8, 9, 10, 11, 50, 12, 13, 14, 61, 62, 65, 15, 16, 17, 77, 81, 86, 18, 92, 19, 20, 21, 101, 102, 105, 22, 23, 24, 117, 121, 126, 25, 132, 26, 27, 28, 29, 30, 151, 152, 155, 162, 172, 182], Go.Proofs.Tryz.func128, rfl, by kernel_rfl, by kernel_rfl, by decide, by kernel_rfl, by kernel_rfl⟩
theorem df_m : FOk Go.Proofs.Tryz.prog 126 1 (seqs (mS.fs.dfl NS mS.tT 1)) [] := ⟨Go.Proofs.Tryz.f126, _, [0], Go.Proofs.Tryz.func126, rfl, by kernel_rfl, by kernel_rfl, by decide, by kernel_rfl, by kernel_rfl⟩
theorem mt : MsgT Go.Proofs.Tryz.prog NS mS true := msgT_of baseS fnsS (by kernel_rfl) (by kernel_rfl) (by kernel_rfl) ⟨trivial, ⟨trivial, ⟨trivial, ⟨trivial, ⟨⟨df_AlterPartitionAssignmentsResponseTopic, ⟨trivial, ⟨⟨df_AlterPartitionAssignmentsResponseTopicPartition, ⟨trivial, ⟨trivial, ⟨trivial, trivial⟩⟩⟩⟩, trivial⟩⟩⟩, trivial⟩⟩⟩⟩⟩ df_m
theorem ft_AlterPartitionAssignmentsResponse : FOk Go.Proofs.Tryz.prog 87 1 (tellC NS tf 150 1 131 mS.fs) [.cell 1 NS.zab] := ⟨Go.Proofs.Tryz.f87, _, [0, 2, 3, 54, 55, 56, 4, 59, 71, 72, 74], Go.Proofs.Tryz.func87, rfl, by kernel_rfl, by kernel_rfl, by decide, by kernel_rfl, by kernel_rfl⟩
theorem fc_AlterPartitionAssignmentsResponse : FOk Go.Proofs.Tryz.prog 131 3 (cTagFn NS) [] := ⟨Go.Proofs.Tryz.f131, _, [0, 1, 2], Go.Proofs.Tryz.func131, rfl, by kernel_rfl, by kernel_rfl, by decide, by kernel_rfl, by kernel_rfl⟩
theorem tl_AlterPartitionAssignmentsResponse : TellP Go.Proofs.Tryz.prog 87 1 mS.fs := tellP baseS fnsS implT tellN (tf := tf) (Tt := 150) (idx0 := 1) ft_AlterPartitionAssignmentsResponse (fun _ => fc_AlterPartitionAssignmentsResponse) ⟨trivial, ⟨(show NS.zhb ≠ 0 by decide), ⟨trivial, ⟨⟨by decide, by decide⟩, ⟨⟨zhq (by kernel_rfl), el_ti (fx := true) baseS fnsS _ (by kernel_rfl) ⟨df_AlterPartitionAssignmentsResponseTopic, ⟨trivial, ⟨⟨df_AlterPartitionAssignmentsResponseTopicPartition, ⟨trivial, ⟨trivial, ⟨trivial, trivial⟩⟩⟩⟩, trivial⟩⟩⟩, tl_AlterPartitionAssignmentsResponseTopic⟩, trivial⟩⟩⟩⟩⟩ mt.hf (by decide)
theorem fd_new : FOk Go.Proofs.Tryz.prog 82 0 (c_new NS mS.tT mS.dflt) [.var 0] := ⟨Go.Proofs.Tryz.f82, _, [0, 1], Go.Proofs.Tryz.func82, rfl, by kernel_rfl, by kernel_rfl, by decide, by kernel_rfl, by kernel_rfl⟩
theorem fd_set : FOk Go.Proofs.Tryz.prog 85 2 (c_set NS mS.tT) [] := ⟨Go.Proofs.Tryz.f85, _, [0, 1], Go.Proofs.Tryz.func85, rfl, by kernel_rfl, by kernel_rfl, by decide, by kernel_rfl, by kernel_rfl⟩
theorem door : zys Go.Proofs.Tryz.prog NS mS true dS where
  msg := mt
  vin := rfl
  ti := (tsB_ok (by' := bytesOf Go.Proofs.Tryz.prog 150) (by kernel_rfl)).imp fun _ h => ⟨_, h⟩
  newP := fd_new
  setV := fd_set
  readf := rd_m
  tell := tl_AlterPartitionAssignmentsResponse
  dok := ⟨⟨_, rfl, by decide⟩, ⟨⟨_, rfl⟩, ⟨⟨_, rfl, by decide⟩, ⟨⟨⟨⟨_, rfl, by decide⟩, ⟨⟨_, rfl, by decide⟩, trivial⟩⟩, trivial⟩, trivial⟩⟩⟩⟩
  shB := by kernel_rfl
  cnt := by decide
theorem fd_rf : FOk Go.Proofs.Tryz.prog 86 2 (c_rf NS mS.pT 128 false) [.var 2] := ⟨Go.Proofs.Tryz.f86, _, [0, 1, 4], Go.Proofs.Tryz.func86, rfl, by kernel_rfl, by kernel_rfl, by decide, by kernel_rfl, by kernel_rfl⟩
theorem fd_mv : FOk Go.Proofs.Tryz.prog 83 1 (c_max 1) [.var 1] := ⟨Go.Proofs.Tryz.f83, _, [0, 2], Go.Proofs.Tryz.func83, rfl, by kernel_rfl, by kernel_rfl, by decide, by kernel_rfl, by kernel_rfl⟩
theorem fd_mi : FOk Go.Proofs.Tryz.prog 34 0 (c_maxI NS mS.pT 82 83) [.var 0] := ⟨Go.Proofs.Tryz.f34, _, [0], Go.Proofs.Tryz.func34, rfl, by kernel_rfl, by kernel_rfl, by decide, by kernel_rfl, by kernel_rfl⟩
theorem fd_tellI : FOk Go.Proofs.Tryz.prog 36 2 (c_door NS mS.pT 82 85 86 87) [.cell 2 NS.zab, .var 3] := ⟨Go.Proofs.Tryz.f36, _, [0, 1, 4, 5, 6, 16], Go.Proofs.Tryz.func36, rfl, by kernel_rfl, by kernel_rfl, by decide, by kernel_rfl, by kernel_rfl⟩

def sc_sAlterPartitionAssignmentsResponseTopicPartition : List SC := [.mk [(0, 3), (2, -1), (3, -1), (4, -1)] none [], .mk [(0, 2), (2, -1), (3, -1), (4, -1)] none [], .mk [(0, 8), (2, -1), (3, 0), (4, -1)] none []]
theorem fsc_sAlterPartitionAssignmentsResponseTopicPartition : FOk Go.Proofs.Tryz.prog 127 0 (c_flds MS sc_sAlterPartitionAssignmentsResponseTopicPartition) [.var 0] := ⟨Go.Proofs.Tryz.f127, _, [0], Go.Proofs.Tryz.func127, rfl, by kernel_rfl, by kernel_rfl, by decide, by kernel_rfl, by kernel_rfl⟩
theorem mk_sAlterPartitionAssignmentsResponseTopicPartition : MkOk Go.Proofs.Tryz.prog 127 (SC.flds sc_sAlterPartitionAssignmentsResponseTopicPartition) := mk_flds (l := sc_sAlterPartitionAssignmentsResponseTopicPartition) spT (by kernel_rfl) ⟨rfl, ⟨rfl, ⟨rfl, trivial⟩⟩⟩ fsc_sAlterPartitionAssignmentsResponseTopicPartition

def sc_sAlterPartitionAssignmentsResponseTopic : List SC := [.mk [(0, 8), (2, -1), (3, -1), (4, -1)] none [], .mk [(0, 11), (2, -1), (3, -1), (4, -1), (6, 10)] (some 127) sc_sAlterPartitionAssignmentsResponseTopicPartition]
theorem fsc_sAlterPartitionAssignmentsResponseTopic : FOk Go.Proofs.Tryz.prog 84 0 (c_flds MS sc_sAlterPartitionAssignmentsResponseTopic) [.var 0] := ⟨Go.Proofs.Tryz.f84, _, [0], Go.Proofs.Tryz.func84, rfl, by kernel_rfl, by kernel_rfl, by decide, by kernel_rfl, by kernel_rfl⟩
theorem mk_sAlterPartitionAssignmentsResponseTopic : MkOk Go.Proofs.Tryz.prog 84 (SC.flds sc_sAlterPartitionAssignmentsResponseTopic) := mk_flds (l := sc_sAlterPartitionAssignmentsResponseTopic) spT (by kernel_rfl) ⟨rfl, ⟨⟨mk_sAlterPartitionAssignmentsResponseTopicPartition, fsc_sAlterPartitionAssignmentsResponseTopicPartition.has⟩, trivial⟩⟩ fsc_sAlterPartitionAssignmentsResponseTopic

def sc_AlterPartitionAssignmentsResponse : List SC := [.mk [(0, 3), (2, -1), (3, -1), (4, -1)] none [], .mk [(0, 0), (1, 1), (2, -1), (3, -1), (4, -1), (5, 1)] none [], .mk [(0, 2), (2, -1), (3, -1), (4, -1)] none [], .mk [(0, 8), (2, -1), (3, 0), (4, -1)] none [], .mk [(0, 11), (2, -1), (3, -1), (4, -1), (6, 10)] (some 84) sc_sAlterPartitionAssignmentsResponseTopic]
theorem fsc_AlterPartitionAssignmentsResponse : FOk Go.Proofs.Tryz.prog 35 0 (c_msg MS sc_AlterPartitionAssignmentsResponse (0)) [.cell 0 MS.zam] := ⟨Go.Proofs.Tryz.f35, _, [0], Go.Proofs.Tryz.func35, rfl, by kernel_rfl, by kernel_rfl, by decide, by kernel_rfl, by kernel_rfl⟩
theorem lawT : LawTT Go.Proofs.Tryz.prog NS MS mS true dS 1 35 sc_AlterPartitionAssignmentsResponse (0) := ⟨door, fd_rf, fd_mv, fd_mi, fd_tellI, by decide, by decide, by decide, fsc_AlterPartitionAssignmentsResponse, by kernel_rfl, ⟨rfl, ⟨rfl, ⟨rfl, ⟨rfl, ⟨⟨mk_sAlterPartitionAssignmentsResponseTopic, fsc_sAlterPartitionAssignmentsResponseTopic.has⟩, trivial⟩⟩⟩⟩⟩, by kernel_rfl, by kernel_rfl, by kernel_rfl⟩
theorem fd_law : FOk Go.Proofs.Tryz.prog 9 2 (c_lawT NS MS 38 dS.maxI dS.tellI 35) [.var 3] := ⟨Go.Proofs.Tryz.f9, _, [0, 1, 3, 4, 12, 5, 15, 6, 7, 8, 9], Go.Proofs.Tryz.func9, rfl, by kernel_rfl, by kernel_rfl, by decide, by kernel_rfl, by kernel_rfl⟩
end Go.Kf

namespace Go.Proofs.YtplpomlhhaccgaaGreatDoor.fnTellAlterPartitionAssignmentsResponse
open Go.ChangeShapes Go.WideShapes Go.ChangeAt Go.RowKit Go.Kf

theorem reads (os : Os) {H : Type} (enc : TypeId × Value → H) : ∃ places, DataW.whole enc Go.Proofs.Tryz.prog ((World.doorLaid Go.Proofs.Tryz.prog 400 os).forCall (fun _ _ => 0) ⟨#[], #[.int .u8 0, .agg #[.int .i64 0, .slice none 0 0, .bool false, .slice none 0 0, .slice none 0 0]], []⟩).memory Go.Proofs.Tryz.f9.params.toList Rows.fnTellAlterPartitionAssignmentsResponseSpec.vars false #[Value.int .u8 0, .agg #[.int .i64 0, .slice none 0 0, .bool false, .slice none 0 0, .slice none 0 0]].toList 8 = some ([.lit (.int .u8 0), .agg [.lit (.int .i64 0), .nil, .lit (.bool false), .nil, .nil]], [], places) :=
  ⟨[], by kernel_rfl⟩
set_option maxHeartbeats 4000000 in
theorem lifted (os : Os) (started : os.Started) (H : Type) (enc : TypeId × Value → H) (F : Stop.Interp) :
    ReturnsInHanded {} Go.Proofs.Tryz.checked os 9 .any ((Rows.OpenSpec.upto Rows.fnTellAlterPartitionAssignmentsResponseSpec).preRow enc Go.Proofs.Tryz.prog Go.Proofs.Tryz.f9 Rows.fnTellAlterPartitionAssignmentsResponseUptoRow.domain false Rows.fnTellAlterPartitionAssignmentsResponseUptoRow.laid) (((Rows.OpenSpec.upto Rows.fnTellAlterPartitionAssignmentsResponseSpec).at F).post enc Go.Proofs.Tryz.prog Go.Proofs.Tryz.f9 false true false false) := by
  obtain ⟨places, hx⟩ := reads os enc
  refine returnsInHanded_of_row (C := Go.Proofs.Tryz.checked) (s := Rows.OpenSpec.upto Rows.fnTellAlterPartitionAssignmentsResponseSpec) own started (by kernel_rfl) Go.Proofs.Tryz.func9
    ⟨World.doorLaid Go.Proofs.Tryz.prog 400 os, fun _ _ => 0, ⟨#[], #[.int .u8 0, .agg #[.int .i64 0, .slice none 0 0, .bool false, .slice none 0 0, .slice none 0 0]], []⟩, rfl, shaped os _, rfl, (Input.okWide_of_okWideB (by kernel_rfl)).2,
      OpenSpec.preRow_of_cond 8 hx (by kernel_rfl) (fun k hk => by cases hk; kernel_rfl) (by kernel_rfl) (door_met os _), by
        simp only [Assume.holds]
        exact ⟨by simp, by simp, fun _ => Modest.zero, by simp, by simp⟩⟩ ?_
  intro W base args ds gs before hval0 hW _ hcond _ hL _ _
  have hval : ∀ (j : Nat) t v, Go.Proofs.Tryz.f9.params[j]? = some t → args[j]? = some v → Value.okWide Go.Proofs.Tryz.prog W .any base t v := hval0
  have hW' := hW
  obtain ⟨p, q, hA0, hV, rfl, hfz, hnd⟩ := hW
  have hA : DataW.TrodAll enc Go.Proofs.Tryz.prog W 0 (fun _ => true) true Go.Proofs.Tryz.f9.params.toList args.toList ds p := hA0
  rw [Go.Proofs.Tryz.params9] at hA hval
  obtain ⟨v0, vs0, d0, ds0, p0, q0, hargs, rfl, rfl, h0, r0⟩ := trodAll_cons hA
  obtain ⟨v1, vs1, d1, ds1, p1, q1, rfl, rfl, rfl, h1, r1⟩ := trodAll_cons r0
  obtain ⟨rfl, rfl, rfl⟩ := trodAll_nil r1
  obtain rfl : args = #[v0, v1] := by cases args; simp_all
  obtain ⟨rfl, rfl⟩ := trodVars_none hV
  obtain ⟨n0, rfl, rfl, rfl, w0⟩ := open_int Go.Proofs.Tryz.underlying5 (hval 0 5 v0 rfl rfl) h0
  obtain ⟨t, ct, rfl, ht, hwf, hsz⟩ := treeArg_of treeO baseS specT (bulkF H) (hval 1 26 v1 rfl rfl) h1
  have hc := hcond _ rfl
  have hsz2 : szT t ≤ 1048576 := by
    have hc2 : Rows.uptoBulkAll ([.lit (.int .u8 n0), d1] ++ []) ≤ 1048576 := of_decide_eq_true hc
    simp only [List.cons_append, List.nil_append, Rows.uptoBulkAll] at hc2
    omega
  have lt1 : ∀ x ∈ p1, x.block < W.heap.size := by obtain ⟨m, hm⟩ := h1; exact DataW.trod_lt m _ _ _ hm
  rw [MakeChecks.laidMetH_plain _ _ _ (by kernel_rfl)] at hL
  obtain ⟨a1, s1, hv1, _⟩ := laid_sentinel hL gO gT Go.Proofs.Tryz.underlying54 rowP Go.Proofs.Tryz.underlying236 Go.Proofs.Tryz.underlying254 rfl rfl Go.Proofs.Tryz.underlying9 cS cStr
  have hg : W.cell? ⟨1, 0, none⟩ = some (.iface 236 (.pointer (some a1))) := by simpa using World.var?_cell gO hv1 0
  have hn0 : 0 ≤ n0 ∧ n0 ≤ 255 := by
    simp [Lit.wf, IntKind.min, IntKind.max, IntKind.signed, IntKind.bits] at w0
    omega
  clear hA0 hval0
  refine Calls.mono (call_lawT baseS fnsS implT spT thSZ thSW thSTo (by decide) (by decide) (by decide) lawT fd_law (n := n0) hn0 ht hwf hsz2 hg) fun e W' ⟨v', he, hv', hm⟩ => ?_
  subst he hv'
  have bel := hm.below
  exact ⟨_, rfl, _, _, _, [], _, [], hW', trodAll_mk1 (shut_bool Go.Proofs.Tryz.underlying4 _), trodAll_cons_mk (shut_int Go.Proofs.Tryz.underlying5 w0) (trodAll_cons_mk (Below.trod laidOut (by kernel_rfl) (of_decide_eq_true (by kernel_rfl)) h1 bel lt1) trodAll_mk0), rfl, bel.frame _, fun h => by cases h⟩

set_option maxHeartbeats 4000000 in
theorem joined : joinedFacts Go.Proofs.Tryz.prog 9 Go.Proofs.Tryz.f9 (Rows.OpenSpec.upto Rows.fnTellAlterPartitionAssignmentsResponseSpec).bare Rows.fnTellAlterPartitionAssignmentsResponseUptoRow = true := by
  unfold joinedFacts
  exact bandT (bandT (bandT (bandT (bandT (bandT (bandT (bandT (bandT (bandT (bandT (bandT (bandT (bandT (bandT (bandT (bandT (bandT (bandT (bandT (bandT (bandT (bandT (bandT (bandT (bandT (bandT (bandT (bandT (bandT (bandT (by as_aux_lemma => kernel_rfl) laidOut) mapsRowedS) (by as_aux_lemma => kernel_rfl)) (by as_aux_lemma => kernel_rfl)) (by as_aux_lemma => kernel_rfl)) (by as_aux_lemma => kernel_rfl)) (by as_aux_lemma => kernel_rfl)) (by as_aux_lemma => kernel_rfl)) (by as_aux_lemma => kernel_rfl)) (by as_aux_lemma => kernel_rfl)) (by as_aux_lemma => kernel_rfl)) (by as_aux_lemma => kernel_rfl)) (by as_aux_lemma => kernel_rfl)) (by as_aux_lemma => kernel_rfl)) (by as_aux_lemma => kernel_rfl)) (by as_aux_lemma => kernel_rfl)) (by as_aux_lemma => kernel_rfl)) (by as_aux_lemma => kernel_rfl)) (by as_aux_lemma => kernel_rfl)) (by as_aux_lemma => kernel_rfl)) (by as_aux_lemma => kernel_rfl)) plainKeysS) (by as_aux_lemma => kernel_rfl)) stopsHeardS) bigEnter) bigLifts) bigMake) (by as_aux_lemma => kernel_rfl)) (by as_aux_lemma => kernel_rfl)) (by as_aux_lemma => kernel_rfl)) (by as_aux_lemma => kernel_rfl)
theorem named : Go.Proofs.Tryz.prog.funcNamed Rows.fnTellAlterPartitionAssignmentsResponseUptoRow.func = some 9 := by kernel_rfl
theorem isInst : Go.Proofs.Tryz.f9.isInstance Go.Proofs.Tryz.prog Rows.fnTellAlterPartitionAssignmentsResponseUptoRow.origin Rows.fnTellAlterPartitionAssignmentsResponseUptoRow.targs := of_decide_eq_true (by kernel_rfl)
theorem isWrap : Go.Proofs.Tryz.f9.isWrapper Go.Proofs.Tryz.prog Rows.fnTellAlterPartitionAssignmentsResponseUptoRow.wrapper Rows.fnTellAlterPartitionAssignmentsResponseUptoRow.mainSum := by unfold Func.isWrapper; first | (rw [if_pos (by decide +kernel)]; kernel_rfl) | (rw [if_neg (by decide +kernel)]; exact ⟨rfl, rfl⟩)
theorem row : Rows.FnTellAlterPartitionAssignmentsResponseUptoSaid :=
  OpenClaim.holds_of_cond 9 Go.Proofs.Tryz.f9 rfl rfl rfl rfl rfl rfl rfl ⟨rfl, rfl, rfl, rfl, rfl⟩ rfl rfl rfl rfl rfl named Go.Proofs.Tryz.func9 joined
    isInst isWrap
    (fun os started H enc _ F => by rw [OpenClaim.pre_eq_preRow]; exact lifted os started H enc F)
end Go.Proofs.YtplpomlhhaccgaaGreatDoor.fnTellAlterPartitionAssignmentsResponse

namespace Go.Proofs.YtplpomlhhaccgaaGreatDoor
open Go.Kf
set_option maxHeartbeats 4000000 in
theorem fnTellAlterPartitionAssignmentsResponse_card : Rows.FnTellAlterPartitionAssignmentsResponseUptoCardSaid :=
  Claim7.holds_tied_plain_at .later [] [.sentinel] true Rows.fnTellAlterPartitionAssignmentsResponseUptoCard.stood.harness false
    fnTellAlterPartitionAssignmentsResponse.row (fun _ h => by cases h) (by as_aux_lemma => kernel_rfl) (fun _ h => by cases h) fnTellAlterPartitionAssignmentsResponseUpto_row_tie rfl ⟨rfl, rfl⟩ mainS rfl
    (fun f fn hf hfn => by
      obtain rfl : f = 9 := Option.some.inj (fnTellAlterPartitionAssignmentsResponse.named.symm.trans hf) |>.symm
      obtain rfl : fn = Go.Proofs.Tryz.f9 := (Option.some.inj (Go.Proofs.Tryz.func9.symm.trans hfn)).symm
      refine ⟨looksS, fun j t ht => ?_⟩
      rw [Go.Proofs.Tryz.params9] at ht
      rcases j with _ | _ | j
      · obtain rfl : 5 = t := by simpa using ht
        exact (show Go.Proofs.Tryz.prog.wantsStandIn 5 = false by kernel_rfl)
      · obtain rfl : 26 = t := by simpa using ht
        exact (show Go.Proofs.Tryz.prog.wantsStandIn 26 = false by kernel_rfl)
      · simp at ht)
    (by as_aux_lemma => kernel_rfl)
#print axioms fnTellAlterPartitionAssignmentsResponse_card
end Go.Proofs.YtplpomlhhaccgaaGreatDoor
