/- Of a message that is written by the protocol just its fields are told (laws.FnTellVoteRequest): the second form's tied card is proved, at every version number and every tree whose bulk is at most 1048576; no other condition. -/
import Derived.Test.YtccgofjnacenhaaGreatDoorKs
set_option linter.unusedSimpArgs false
set_option linter.unusedVariables false
set_option maxRecDepth 100000
namespace Go.Kf
open Go

def tf : TypeId → FuncId × FuncId := fun | 179 => (150, 185) | 119 => (102, 151) | _ => (0, 0)

def rVoteRequestTopicPartition : Fds := .cons .all (.pr .i32 none) (.cons .all (.pr .i32 none) (.cons .all (.pr .i32 none) (.cons (.ge 1) (.pr .uuid none) (.cons (.ge 1) (.pr .uuid none) (.cons .all (.pr .i32 none) (.cons .all (.pr .i64 none) (.cons (.ge 2) (.pr .bool none) (.tags))))))))
theorem df_VoteRequestTopicPartition : FOk Go.Proofs.Tryz.prog 147 1 (seqs (rVoteRequestTopicPartition.dfl NS 179 0)) [] := ⟨Go.Proofs.Tryz.f147, _, [0], Go.Proofs.Tryz.func147, rfl, by kernel_rfl, by kernel_rfl, by decide, by kernel_rfl, by kernel_rfl⟩
theorem ft_VoteRequestTopicPartition : FOk Go.Proofs.Tryz.prog 150 1 (tellC NS tf 179 0 185 rVoteRequestTopicPartition) [.cell 1 NS.zab] := ⟨Go.Proofs.Tryz.f150, _, [0, 2, 3], Go.Proofs.Tryz.func150, rfl, by kernel_rfl, by kernel_rfl, by decide, by kernel_rfl, by kernel_rfl⟩
theorem fc_VoteRequestTopicPartition : FOk Go.Proofs.Tryz.prog 185 3 (cTagFn NS) [] := ⟨Go.Proofs.Tryz.f185, _, [0, 1, 2], Go.Proofs.Tryz.func185, rfl, by kernel_rfl, by kernel_rfl, by decide, by kernel_rfl, by kernel_rfl⟩
theorem tl_VoteRequestTopicPartition : TellP Go.Proofs.Tryz.prog 150 0 rVoteRequestTopicPartition := tellP baseS fnsS implT tellN (tf := tf) (Tt := 179) (idx0 := 0) ft_VoteRequestTopicPartition (fun _ => fc_VoteRequestTopicPartition) ⟨trivial, ⟨trivial, ⟨trivial, ⟨(show NS.zbl ≠ 0 by decide), ⟨(show NS.zbl ≠ 0 by decide), ⟨trivial, ⟨trivial, ⟨(show NS.zhb ≠ 0 by decide), trivial⟩⟩⟩⟩⟩⟩⟩⟩ (Fds.ok_of (fx := true) (Tt := 179) (idx := 0) (off := 0) baseS fnsS rVoteRequestTopicPartition (by kernel_rfl) ⟨trivial, ⟨trivial, ⟨trivial, ⟨trivial, ⟨trivial, ⟨trivial, ⟨trivial, ⟨trivial, trivial⟩⟩⟩⟩⟩⟩⟩⟩).2.1 (by decide)

def rVoteRequestTopic : Fds := .cons .all (.txt .str) (.cons .all (.arr 117 none (.row 179 177 147 (.cons .all (.pr .i32 none) (.cons .all (.pr .i32 none) (.cons .all (.pr .i32 none) (.cons (.ge 1) (.pr .uuid none) (.cons (.ge 1) (.pr .uuid none) (.cons .all (.pr .i32 none) (.cons .all (.pr .i64 none) (.cons (.ge 2) (.pr .bool none) (.tags))))))))))) (.tags))
theorem df_VoteRequestTopic : FOk Go.Proofs.Tryz.prog 146 1 (seqs (rVoteRequestTopic.dfl NS 119 0)) [] := ⟨Go.Proofs.Tryz.f146, _, [0], Go.Proofs.Tryz.func146, rfl, by kernel_rfl, by kernel_rfl, by decide, by kernel_rfl, by kernel_rfl⟩
theorem ft_VoteRequestTopic : FOk Go.Proofs.Tryz.prog 102 1 (tellC NS tf 119 0 151 rVoteRequestTopic) [.cell 1 NS.zab] := ⟨Go.Proofs.Tryz.f102, _, [0, 2, 3, 29, 30, 31, 4, 34, 46, 47, 49], Go.Proofs.Tryz.func102, rfl, by kernel_rfl, by kernel_rfl, by decide, by kernel_rfl, by kernel_rfl⟩
theorem fc_VoteRequestTopic : FOk Go.Proofs.Tryz.prog 151 3 (cTagFn NS) [] := ⟨Go.Proofs.Tryz.f151, _, [0, 1, 2], Go.Proofs.Tryz.func151, rfl, by kernel_rfl, by kernel_rfl, by decide, by kernel_rfl, by kernel_rfl⟩
theorem tl_VoteRequestTopic : TellP Go.Proofs.Tryz.prog 102 0 rVoteRequestTopic := tellP baseS fnsS implT tellN (tf := tf) (Tt := 119) (idx0 := 0) ft_VoteRequestTopic (fun _ => fc_VoteRequestTopic) ⟨trivial, ⟨⟨zhq (by kernel_rfl), el_ti (fx := true) baseS fnsS _ (by kernel_rfl) ⟨df_VoteRequestTopicPartition, ⟨trivial, ⟨trivial, ⟨trivial, ⟨trivial, ⟨trivial, ⟨trivial, ⟨trivial, ⟨trivial, trivial⟩⟩⟩⟩⟩⟩⟩⟩⟩, tl_VoteRequestTopicPartition⟩, trivial⟩⟩ (Fds.ok_of (fx := true) (Tt := 119) (idx := 0) (off := 0) baseS fnsS rVoteRequestTopic (by kernel_rfl) ⟨trivial, ⟨⟨df_VoteRequestTopicPartition, ⟨trivial, ⟨trivial, ⟨trivial, ⟨trivial, ⟨trivial, ⟨trivial, ⟨trivial, ⟨trivial, trivial⟩⟩⟩⟩⟩⟩⟩⟩⟩, trivial⟩⟩).2.1 (by decide)

def mS : Msg := ⟨114, 70, 99, 0, false, .cons .all (.txt .nstr) (.cons (.ge 1) (.pr .i32 (some (.int .i32 (-1)))) (.cons .all (.arr 112 none (.row 119 116 146 (.cons .all (.txt .str) (.cons .all (.arr 117 none (.row 179 177 147 (.cons .all (.pr .i32 none) (.cons .all (.pr .i32 none) (.cons .all (.pr .i32 none) (.cons (.ge 1) (.pr .uuid none) (.cons (.ge 1) (.pr .uuid none) (.cons .all (.pr .i32 none) (.cons .all (.pr .i64 none) (.cons (.ge 2) (.pr .bool none) (.tags))))))))))) (.tags))))) (.tags)))⟩
def dS : zvm where
  newP := 50
  setV := 53
  maxV := 51
  readF := 54
  readf := 101
  tell := 55
  maxI := 18
  tellI := 20
theorem rd_m : FOk Go.Proofs.Tryz.prog 101 3 (mS.gen NS true) [.var 3] := ⟨Go.Proofs.Tryz.f101, _, [0, 1, 2, 6, 7, 8, 9, 10, 11, 47, 48, 51, 59, 12, 13, 14, 15, 70, 74, 79, 16, 85, 17, 18, 19, 94, 95, 98, 20, 21, 22, 110, 114, 119, 23, 125, 24, 25, 26, 27, 28, 150, 29, 157, 30, 31, 32, 174, 33, 180, 190, 200], Go.Proofs.Tryz.func101, rfl, by kernel_rfl, by kernel_rfl, by decide, by kernel_rfl, by kernel_rfl⟩
theorem df_m : FOk Go.Proofs.Tryz.prog 99 1 (seqs (mS.fs.dfl NS mS.tT 1)) [] := ⟨Go.Proofs.Tryz.f99, _, [0], Go.Proofs.Tryz.func99, rfl, by kernel_rfl, by kernel_rfl, by decide, by kernel_rfl, by kernel_rfl⟩
theorem mt : MsgT Go.Proofs.Tryz.prog NS mS true := msgT_of baseS fnsS (by kernel_rfl) (by kernel_rfl) (by kernel_rfl) ⟨trivial, ⟨trivial, ⟨⟨df_VoteRequestTopic, ⟨trivial, ⟨⟨df_VoteRequestTopicPartition, ⟨trivial, ⟨trivial, ⟨trivial, ⟨trivial, ⟨trivial, ⟨trivial, ⟨trivial, ⟨trivial, trivial⟩⟩⟩⟩⟩⟩⟩⟩⟩, trivial⟩⟩⟩, trivial⟩⟩⟩ df_m
theorem ft_VoteRequest : FOk Go.Proofs.Tryz.prog 55 1 (tellC NS tf 114 1 103 mS.fs) [.cell 1 NS.zab] := ⟨Go.Proofs.Tryz.f55, _, [0, 2, 3, 37, 38, 39, 4, 42, 54, 55, 57], Go.Proofs.Tryz.func55, rfl, by kernel_rfl, by kernel_rfl, by decide, by kernel_rfl, by kernel_rfl⟩
theorem fc_VoteRequest : FOk Go.Proofs.Tryz.prog 103 3 (cTagFn NS) [] := ⟨Go.Proofs.Tryz.f103, _, [0, 1, 2], Go.Proofs.Tryz.func103, rfl, by kernel_rfl, by kernel_rfl, by decide, by kernel_rfl, by kernel_rfl⟩
theorem tl_VoteRequest : TellP Go.Proofs.Tryz.prog 55 1 mS.fs := tellP baseS fnsS implT tellN (tf := tf) (Tt := 114) (idx0 := 1) ft_VoteRequest (fun _ => fc_VoteRequest) ⟨⟨by decide, by decide⟩, ⟨trivial, ⟨⟨zhq (by kernel_rfl), el_ti (fx := true) baseS fnsS _ (by kernel_rfl) ⟨df_VoteRequestTopic, ⟨trivial, ⟨⟨df_VoteRequestTopicPartition, ⟨trivial, ⟨trivial, ⟨trivial, ⟨trivial, ⟨trivial, ⟨trivial, ⟨trivial, ⟨trivial, trivial⟩⟩⟩⟩⟩⟩⟩⟩⟩, trivial⟩⟩⟩, tl_VoteRequestTopic⟩, trivial⟩⟩⟩ mt.hf (by decide)
theorem fd_new : FOk Go.Proofs.Tryz.prog 50 0 (c_new NS mS.tT mS.dflt) [.var 0] := ⟨Go.Proofs.Tryz.f50, _, [0, 1], Go.Proofs.Tryz.func50, rfl, by kernel_rfl, by kernel_rfl, by decide, by kernel_rfl, by kernel_rfl⟩
theorem fd_set : FOk Go.Proofs.Tryz.prog 53 2 (c_set NS mS.tT) [] := ⟨Go.Proofs.Tryz.f53, _, [0, 1], Go.Proofs.Tryz.func53, rfl, by kernel_rfl, by kernel_rfl, by decide, by kernel_rfl, by kernel_rfl⟩
theorem door : zys Go.Proofs.Tryz.prog NS mS true dS where
  msg := mt
  vin := rfl
  ti := (tsB_ok (by' := bytesOf Go.Proofs.Tryz.prog 114) (by kernel_rfl)).imp fun _ h => ⟨_, h⟩
  newP := fd_new
  setV := fd_set
  readf := rd_m
  tell := tl_VoteRequest
  dok := ⟨⟨_, rfl, by decide⟩, ⟨⟨⟨⟨_, rfl, by decide⟩, ⟨⟨_, rfl, by decide⟩, ⟨⟨_, rfl, by decide⟩, ⟨⟨List.replicate 16 0, rfl, rfl⟩, ⟨⟨List.replicate 16 0, rfl, rfl⟩, ⟨⟨_, rfl, by decide⟩, ⟨⟨_, rfl, by decide⟩, ⟨⟨_, rfl⟩, trivial⟩⟩⟩⟩⟩⟩⟩⟩, trivial⟩, trivial⟩⟩
  shB := by kernel_rfl
  cnt := by decide
theorem fd_rf : FOk Go.Proofs.Tryz.prog 54 2 (c_rf NS mS.pT 101 false) [.var 2] := ⟨Go.Proofs.Tryz.f54, _, [0, 1, 4], Go.Proofs.Tryz.func54, rfl, by kernel_rfl, by kernel_rfl, by decide, by kernel_rfl, by kernel_rfl⟩
theorem fd_mv : FOk Go.Proofs.Tryz.prog 51 1 (c_max 2) [.var 1] := ⟨Go.Proofs.Tryz.f51, _, [0, 2], Go.Proofs.Tryz.func51, rfl, by kernel_rfl, by kernel_rfl, by decide, by kernel_rfl, by kernel_rfl⟩
theorem fd_mi : FOk Go.Proofs.Tryz.prog 18 0 (c_maxI NS mS.pT 50 51) [.var 0] := ⟨Go.Proofs.Tryz.f18, _, [0], Go.Proofs.Tryz.func18, rfl, by kernel_rfl, by kernel_rfl, by decide, by kernel_rfl, by kernel_rfl⟩
theorem fd_tellI : FOk Go.Proofs.Tryz.prog 20 2 (c_door NS mS.pT 50 53 54 55) [.cell 2 NS.zab, .var 3] := ⟨Go.Proofs.Tryz.f20, _, [0, 1, 4, 5, 6, 16], Go.Proofs.Tryz.func20, rfl, by kernel_rfl, by kernel_rfl, by decide, by kernel_rfl, by kernel_rfl⟩

def sc_sVoteRequestTopicPartition : List SC := [.mk [(0, 3), (2, -1), (3, -1), (4, -1)] none [], .mk [(0, 3), (2, -1), (3, -1), (4, -1)] none [], .mk [(0, 3), (2, -1), (3, -1), (4, -1)] none [], .mk [(0, 7), (1, 1), (2, -1), (3, -1), (4, -1)] none [], .mk [(0, 7), (1, 1), (2, -1), (3, -1), (4, -1)] none [], .mk [(0, 3), (2, -1), (3, -1), (4, -1)] none [], .mk [(0, 4), (2, -1), (3, -1), (4, -1)] none [], .mk [(0, 0), (1, 2), (2, -1), (3, -1), (4, -1)] none []]
theorem fsc_sVoteRequestTopicPartition : FOk Go.Proofs.Tryz.prog 100 0 (c_flds MS sc_sVoteRequestTopicPartition) [.var 0] := ⟨Go.Proofs.Tryz.f100, _, [0], Go.Proofs.Tryz.func100, rfl, by kernel_rfl, by kernel_rfl, by decide, by kernel_rfl, by kernel_rfl⟩
theorem mk_sVoteRequestTopicPartition : MkOk Go.Proofs.Tryz.prog 100 (SC.flds sc_sVoteRequestTopicPartition) := mk_flds (l := sc_sVoteRequestTopicPartition) spT (by kernel_rfl) ⟨rfl, ⟨rfl, ⟨rfl, ⟨rfl, ⟨rfl, ⟨rfl, ⟨rfl, ⟨rfl, trivial⟩⟩⟩⟩⟩⟩⟩⟩ fsc_sVoteRequestTopicPartition

def sc_sVoteRequestTopic : List SC := [.mk [(0, 8), (2, -1), (3, -1), (4, -1)] none [], .mk [(0, 11), (2, -1), (3, -1), (4, -1), (6, 10)] (some 100) sc_sVoteRequestTopicPartition]
theorem fsc_sVoteRequestTopic : FOk Go.Proofs.Tryz.prog 52 0 (c_flds MS sc_sVoteRequestTopic) [.var 0] := ⟨Go.Proofs.Tryz.f52, _, [0], Go.Proofs.Tryz.func52, rfl, by kernel_rfl, by kernel_rfl, by decide, by kernel_rfl, by kernel_rfl⟩
theorem mk_sVoteRequestTopic : MkOk Go.Proofs.Tryz.prog 52 (SC.flds sc_sVoteRequestTopic) := mk_flds (l := sc_sVoteRequestTopic) spT (by kernel_rfl) ⟨rfl, ⟨⟨mk_sVoteRequestTopicPartition, fsc_sVoteRequestTopicPartition.has⟩, trivial⟩⟩ fsc_sVoteRequestTopic

def sc_VoteRequest : List SC := [.mk [(0, 8), (2, -1), (3, 0), (4, -1)] none [], .mk [(0, 3), (1, 1), (2, -1), (3, -1), (4, -1), (5, -1)] none [], .mk [(0, 11), (2, -1), (3, -1), (4, -1), (6, 10)] (some 52) sc_sVoteRequestTopic]
theorem fsc_VoteRequest : FOk Go.Proofs.Tryz.prog 19 0 (c_msg MS sc_VoteRequest (0)) [.cell 0 MS.zam] := ⟨Go.Proofs.Tryz.f19, _, [0], Go.Proofs.Tryz.func19, rfl, by kernel_rfl, by kernel_rfl, by decide, by kernel_rfl, by kernel_rfl⟩
theorem lawT : LawTT Go.Proofs.Tryz.prog NS MS mS true dS 2 19 sc_VoteRequest (0) := ⟨door, fd_rf, fd_mv, fd_mi, fd_tellI, by decide, by decide, by decide, fsc_VoteRequest, by kernel_rfl, ⟨rfl, ⟨rfl, ⟨⟨mk_sVoteRequestTopic, fsc_sVoteRequestTopic.has⟩, trivial⟩⟩⟩, by kernel_rfl, by kernel_rfl, by kernel_rfl⟩
theorem fd_law : FOk Go.Proofs.Tryz.prog 4 2 (c_lawT NS MS 38 dS.maxI dS.tellI 19) [.var 3] := ⟨Go.Proofs.Tryz.f4, _, [0, 1, 3, 4, 12, 5, 15, 6, 7, 8, 9], Go.Proofs.Tryz.func4, rfl, by kernel_rfl, by kernel_rfl, by decide, by kernel_rfl, by kernel_rfl⟩
end Go.Kf

namespace Go.Proofs.YtccgofjnacenhaaGreatDoor.fnTellVoteRequest
open Go.ChangeShapes Go.WideShapes Go.ChangeAt Go.RowKit Go.Kf

theorem reads (os : Os) {H : Type} (enc : TypeId × Value → H) : ∃ places, DataW.whole enc Go.Proofs.Tryz.prog ((World.doorLaid Go.Proofs.Tryz.prog 400 os).forCall (fun _ _ => 0) ⟨#[], #[.int .u8 0, .agg #[.int .i64 0, .slice none 0 0, .bool false, .slice none 0 0, .slice none 0 0]], []⟩).memory Go.Proofs.Tryz.f4.params.toList Rows.fnTellVoteRequestSpec.vars false #[Value.int .u8 0, .agg #[.int .i64 0, .slice none 0 0, .bool false, .slice none 0 0, .slice none 0 0]].toList 8 = some ([.lit (.int .u8 0), .agg [.lit (.int .i64 0), .nil, .lit (.bool false), .nil, .nil]], [], places) :=
  ⟨[], by kernel_rfl⟩
set_option maxHeartbeats 4000000 in
theorem lifted (os : Os) (started : os.Started) (H : Type) (enc : TypeId × Value → H) (F : Stop.Interp) :
    ReturnsInHanded {} Go.Proofs.Tryz.checked os 4 .any ((Rows.OpenSpec.upto Rows.fnTellVoteRequestSpec).preRow enc Go.Proofs.Tryz.prog Go.Proofs.Tryz.f4 Rows.fnTellVoteRequestUptoRow.domain false Rows.fnTellVoteRequestUptoRow.laid) (((Rows.OpenSpec.upto Rows.fnTellVoteRequestSpec).at F).post enc Go.Proofs.Tryz.prog Go.Proofs.Tryz.f4 false true false false) := by
  obtain ⟨places, hx⟩ := reads os enc
  refine returnsInHanded_of_row (C := Go.Proofs.Tryz.checked) (s := Rows.OpenSpec.upto Rows.fnTellVoteRequestSpec) own started (by kernel_rfl) Go.Proofs.Tryz.func4
    ⟨World.doorLaid Go.Proofs.Tryz.prog 400 os, fun _ _ => 0, ⟨#[], #[.int .u8 0, .agg #[.int .i64 0, .slice none 0 0, .bool false, .slice none 0 0, .slice none 0 0]], []⟩, rfl, shaped os _, rfl, (Input.okWide_of_okWideB (by kernel_rfl)).2,
      OpenSpec.preRow_of_cond 8 hx (by kernel_rfl) (fun k hk => by cases hk; kernel_rfl) (by kernel_rfl) (door_met os _), by
        simp only [Assume.holds]
        exact ⟨by simp, by simp, fun _ => Modest.zero, by simp, by simp⟩⟩ ?_
  intro W base args ds gs before hval0 hW _ hcond _ hL _ _
  have hval : ∀ (j : Nat) t v, Go.Proofs.Tryz.f4.params[j]? = some t → args[j]? = some v → Value.okWide Go.Proofs.Tryz.prog W .any base t v := hval0
  have hW' := hW
  obtain ⟨p, q, hA0, hV, rfl, hfz, hnd⟩ := hW
  have hA : DataW.TrodAll enc Go.Proofs.Tryz.prog W 0 (fun _ => true) true Go.Proofs.Tryz.f4.params.toList args.toList ds p := hA0
  rw [Go.Proofs.Tryz.params4] at hA hval
  obtain ⟨v0, vs0, d0, ds0, p0, q0, hargs, rfl, rfl, h0, r0⟩ := trodAll_cons hA
  obtain ⟨v1, vs1, d1, ds1, p1, q1, rfl, rfl, rfl, h1, r1⟩ := trodAll_cons r0
  obtain ⟨rfl, rfl, rfl⟩ := trodAll_nil r1
  obtain rfl : args = #[v0, v1] := by cases args; simp_all
  obtain ⟨rfl, rfl⟩ := trodVars_none hV
  obtain ⟨n0, rfl, rfl, rfl, w0⟩ := open_int Go.Proofs.Tryz.underlying5 (hval 0 5 v0 rfl rfl) h0
  obtain ⟨t, ct, rfl, ht, hwf, hsz⟩ := treeArg_of treeO baseS specT (bulkF H) (hval 1 26 v1 rfl rfl) h1
  have hc := hcond _ rfl
  have hsz2 : szT t ≤ 1048576 := by
    have hc2 : Rows.uptoBulkAll ([.lit (.int .u8 n0), d1] ++ []) ≤ 1048576 := of_decide_eq_true hc
    simp only [List.cons_append, List.nil_append, Rows.uptoBulkAll] at hc2
    omega
  have lt1 : ∀ x ∈ p1, x.block < W.heap.size := by obtain ⟨m, hm⟩ := h1; exact DataW.trod_lt m _ _ _ hm
  rw [MakeChecks.laidMetH_plain _ _ _ (by kernel_rfl)] at hL
  obtain ⟨a1, s1, hv1, _⟩ := laid_sentinel hL gO gT Go.Proofs.Tryz.underlying56 rowP Go.Proofs.Tryz.underlying247 Go.Proofs.Tryz.underlying265 rfl rfl Go.Proofs.Tryz.underlying9 cS cStr
  have hg : W.cell? ⟨1, 0, none⟩ = some (.iface 247 (.pointer (some a1))) := by simpa using World.var?_cell gO hv1 0
  have hn0 : 0 ≤ n0 ∧ n0 ≤ 255 := by
    simp [Lit.wf, IntKind.min, IntKind.max, IntKind.signed, IntKind.bits] at w0
    omega
  clear hA0 hval0
  refine Calls.mono (call_lawT baseS fnsS implT spT thSZ thSW thSTo (by decide) (by decide) (by decide) lawT fd_law (n := n0) hn0 ht hwf hsz2 hg) fun e W' ⟨v', he, hv', hm⟩ => ?_
  subst he hv'
  have bel := hm.below
  exact ⟨_, rfl, _, _, _, [], _, [], hW', trodAll_mk1 (shut_bool Go.Proofs.Tryz.underlying4 _), trodAll_cons_mk (shut_int Go.Proofs.Tryz.underlying5 w0) (trodAll_cons_mk (Below.trod laidOut (by kernel_rfl) (of_decide_eq_true (by kernel_rfl)) h1 bel lt1) trodAll_mk0), rfl, bel.frame _, fun h => by cases h⟩

set_option maxHeartbeats 4000000 in
theorem joined : joinedFacts Go.Proofs.Tryz.prog 4 Go.Proofs.Tryz.f4 (Rows.OpenSpec.upto Rows.fnTellVoteRequestSpec).bare Rows.fnTellVoteRequestUptoRow = true := by
  unfold joinedFacts
  exact bandT (bandT (bandT (bandT (bandT (bandT (bandT (bandT (bandT (bandT (bandT (bandT (bandT (bandT (bandT (bandT (bandT (bandT (bandT (bandT (bandT (bandT (bandT (bandT (bandT (bandT (bandT (bandT (bandT (bandT (bandT (by as_aux_lemma => kernel_rfl) laidOut) mapsRowedS) (by as_aux_lemma => kernel_rfl)) (by as_aux_lemma => kernel_rfl)) (by as_aux_lemma => kernel_rfl)) (by as_aux_lemma => kernel_rfl)) (by as_aux_lemma => kernel_rfl)) (by as_aux_lemma => kernel_rfl)) (by as_aux_lemma => kernel_rfl)) (by as_aux_lemma => kernel_rfl)) (by as_aux_lemma => kernel_rfl)) (by as_aux_lemma => kernel_rfl)) (by as_aux_lemma => kernel_rfl)) (by as_aux_lemma => kernel_rfl)) (by as_aux_lemma => kernel_rfl)) (by as_aux_lemma => kernel_rfl)) (by as_aux_lemma => kernel_rfl)) (by as_aux_lemma => kernel_rfl)) (by as_aux_lemma => kernel_rfl)) (by as_aux_lemma => kernel_rfl)) (by as_aux_lemma => kernel_rfl)) plainKeysS) (by as_aux_lemma => kernel_rfl)) stopsHeardS) bigEnter) bigLifts) bigMake) (by as_aux_lemma => kernel_rfl)) (by as_aux_lemma => kernel_rfl)) (by as_aux_lemma => kernel_rfl)) (by as_aux_lemma => kernel_rfl)
theorem named : Go.Proofs.Tryz.prog.funcNamed Rows.fnTellVoteRequestUptoRow.func = some 4 := by kernel_rfl
theorem isInst : Go.Proofs.Tryz.f4.isInstance Go.Proofs.Tryz.prog Rows.fnTellVoteRequestUptoRow.origin Rows.fnTellVoteRequestUptoRow.targs := of_decide_eq_true (by kernel_rfl)
theorem isWrap : Go.Proofs.Tryz.f4.isWrapper Go.Proofs.Tryz.prog Rows.fnTellVoteRequestUptoRow.wrapper Rows.fnTellVoteRequestUptoRow.mainSum := by unfold Func.isWrapper; first | (rw [if_pos (by decide +kernel)]; kernel_rfl) | (rw [if_neg (by decide +kernel)]; exact ⟨rfl, rfl⟩)
theorem row : Rows.FnTellVoteRequestUptoSaid :=
  OpenClaim.holds_of_cond 4 Go.Proofs.Tryz.f4 rfl rfl rfl rfl rfl rfl rfl ⟨rfl, rfl, rfl, rfl, rfl⟩ rfl rfl rfl rfl rfl named Go.Proofs.Tryz.func4 joined
    isInst isWrap
    (fun os started H enc _ F => by rw [OpenClaim.pre_eq_preRow]; exact lifted os started H enc F)
end Go.Proofs.YtccgofjnacenhaaGreatDoor.fnTellVoteRequest

namespace Go.Proofs.YtccgofjnacenhaaGreatDoor
open Go.Kf
set_option maxHeartbeats 4000000 in
theorem fnTellVoteRequest_card : Rows.FnTellVoteRequestUptoCardSaid :=
  Claim7.holds_tied_plain_at .later [] [.sentinel] true Rows.fnTellVoteRequestUptoCard.stood.harness false
    fnTellVoteRequest.row (fun _ h => by cases h) (by as_aux_lemma => kernel_rfl) (fun _ h => by cases h) fnTellVoteRequestUpto_row_tie rfl ⟨rfl, rfl⟩ mainS rfl
    (fun f fn hf hfn => by
      obtain rfl : f = 4 := Option.some.inj (fnTellVoteRequest.named.symm.trans hf) |>.symm
      obtain rfl : fn = Go.Proofs.Tryz.f4 := (Option.some.inj (Go.Proofs.Tryz.func4.symm.trans hfn)).symm
      refine ⟨looksS, fun j t ht => ?_⟩
      rw [Go.Proofs.Tryz.params4] at ht
      rcases j with _ | _ | j
      · obtain rfl : 5 = t := by simpa using ht
        exact (show Go.Proofs.Tryz.prog.wantsStandIn 5 = false by kernel_rfl)
      · obtain rfl : 26 = t := by simpa using ht
        exact (show Go.Proofs.Tryz.prog.wantsStandIn 26 = false by kernel_rfl)
      · simp at ht)
    (by as_aux_lemma => kernel_rfl)
#print axioms fnTellVoteRequest_card
end Go.Proofs.YtccgofjnacenhaaGreatDoor
