/- Of a message that is written by the protocol just its fields are told (laws.FnTellDescribeGroupsResponse): the second form's tied card is proved, at every version number and every tree whose bulk is at most 1048576; no other condition. -/
import Derived.Test.YtccgofjnacenhaaGreatDoorKs
set_option linter.unusedSimpArgs false
set_option linter.unusedVariables false
set_option maxRecDepth 100000
namespace Go.Kf
open Go

def tf : TypeId → FuncId × FuncId := fun | 186 => (161, 187) | 143 => (113, 162) | _ => (0, 0)

def rDescribeGroupsResponseGroupMember : Fds := .cons .all (.txt .str) (.cons (.ge 4) (.txt .nstr) (.cons .all (.txt .str) (.cons .all (.txt .str) (.cons .all (.txt .byt) (.cons .all (.txt .byt) (.tags))))))
theorem df_DescribeGroupsResponseGroupMember : FOk Go.Proofs.Tryz.prog 158 1 (seqs (rDescribeGroupsResponseGroupMember.dfl NS 186 0)) [] := ⟨Go.Proofs.Tryz.f158, _, [0], Go.Proofs.Tryz.func158, rfl, by kernel_rfl, by kernel_rfl, by decide, by kernel_rfl, by kernel_rfl⟩
theorem ft_DescribeGroupsResponseGroupMember : FOk Go.Proofs.Tryz.prog 161 1 (tellC NS tf 186 0 187 rDescribeGroupsResponseGroupMember) [.cell 1 NS.zab] := ⟨Go.Proofs.Tryz.f161, _, [0, 2, 3], Go.Proofs.Tryz.func161, rfl, by kernel_rfl, by kernel_rfl, by decide, by kernel_rfl, by kernel_rfl⟩
theorem fc_DescribeGroupsResponseGroupMember : FOk Go.Proofs.Tryz.prog 187 3 (cTagFn NS) [] := ⟨Go.Proofs.Tryz.f187, _, [0, 1, 2], Go.Proofs.Tryz.func187, rfl, by kernel_rfl, by kernel_rfl, by decide, by kernel_rfl, by kernel_rfl⟩
theorem tl_DescribeGroupsResponseGroupMember : TellP Go.Proofs.Tryz.prog 161 0 rDescribeGroupsResponseGroupMember := tellP baseS fnsS implT tellN (tf := tf) (Tt := 186) (idx0 := 0) ft_DescribeGroupsResponseGroupMember (fun _ => fc_DescribeGroupsResponseGroupMember) ⟨trivial, ⟨⟨by decide, by decide⟩, ⟨trivial, ⟨trivial, ⟨(show NS.zfh ≠ 0 by decide), ⟨(show NS.zfh ≠ 0 by decide), trivial⟩⟩⟩⟩⟩⟩ (Fds.ok_of (fx := true) (Tt := 186) (idx := 0) (off := 0) baseS fnsS rDescribeGroupsResponseGroupMember (by kernel_rfl) ⟨trivial, ⟨trivial, ⟨trivial, ⟨trivial, ⟨trivial, ⟨trivial, trivial⟩⟩⟩⟩⟩⟩).2.1 (by decide)

def rDescribeGroupsResponseGroup : Fds := .cons .all (.pr .i16 none) (.cons (.ge 6) (.txt .nstr) (.cons .all (.txt .str) (.cons .all (.txt .str) (.cons .all (.txt .str) (.cons .all (.txt .str) (.cons .all (.arr 141 none (.row 186 184 158 (.cons .all (.txt .str) (.cons (.ge 4) (.txt .nstr) (.cons .all (.txt .str) (.cons .all (.txt .str) (.cons .all (.txt .byt) (.cons .all (.txt .byt) (.tags))))))))) (.cons (.ge 3) (.pr .i32 (some (.int .i32 (-2147483648)))) (.tags))))))))
theorem df_DescribeGroupsResponseGroup : FOk Go.Proofs.Tryz.prog 157 1 (seqs (rDescribeGroupsResponseGroup.dfl NS 143 0)) [] := ⟨Go.Proofs.Tryz.f157, _, [0], Go.Proofs.Tryz.func157, rfl, by kernel_rfl, by kernel_rfl, by decide, by kernel_rfl, by kernel_rfl⟩
theorem ft_DescribeGroupsResponseGroup : FOk Go.Proofs.Tryz.prog 113 1 (tellC NS tf 143 0 162 rDescribeGroupsResponseGroup) [.cell 1 NS.zab] := ⟨Go.Proofs.Tryz.f113, _, [0, 2, 3, 73, 74, 75, 4, 78, 90, 91, 93], Go.Proofs.Tryz.func113, rfl, by kernel_rfl, by kernel_rfl, by decide, by kernel_rfl, by kernel_rfl⟩
theorem fc_DescribeGroupsResponseGroup : FOk Go.Proofs.Tryz.prog 162 3 (cTagFn NS) [] := ⟨Go.Proofs.Tryz.f162, _, [0, 1, 2], Go.Proofs.Tryz.func162, rfl, by kernel_rfl, by kernel_rfl, by decide, by kernel_rfl, by kernel_rfl⟩
theorem tl_DescribeGroupsResponseGroup : TellP Go.Proofs.Tryz.prog 113 0 rDescribeGroupsResponseGroup := tellP baseS fnsS implT tellN (tf := tf) (Tt := 143) (idx0 := 0) ft_DescribeGroupsResponseGroup (fun _ => fc_DescribeGroupsResponseGroup) ⟨trivial, ⟨⟨by decide, by decide⟩, ⟨trivial, ⟨trivial, ⟨trivial, ⟨trivial, ⟨⟨zhq (by kernel_rfl), el_ti (fx := true) baseS fnsS _ (by kernel_rfl) ⟨df_DescribeGroupsResponseGroupMember, ⟨trivial, ⟨trivial, ⟨trivial, ⟨trivial, ⟨trivial, ⟨trivial, trivial⟩⟩⟩⟩⟩⟩⟩, tl_DescribeGroupsResponseGroupMember⟩, ⟨trivial, trivial⟩⟩⟩⟩⟩⟩⟩⟩ (Fds.ok_of (fx := true) (Tt := 143) (idx := 0) (off := 0) baseS fnsS rDescribeGroupsResponseGroup (by kernel_rfl) ⟨trivial, ⟨trivial, ⟨trivial, ⟨trivial, ⟨trivial, ⟨trivial, ⟨⟨df_DescribeGroupsResponseGroupMember, ⟨trivial, ⟨trivial, ⟨trivial, ⟨trivial, ⟨trivial, ⟨trivial, trivial⟩⟩⟩⟩⟩⟩⟩, ⟨trivial, trivial⟩⟩⟩⟩⟩⟩⟩⟩).2.1 (by decide)

def mS : Msg := ⟨138, 76, 110, 5, false, .cons (.ge 1) (.pr .i32 none) (.cons .all (.arr 136 none (.row 143 140 157 (.cons .all (.pr .i16 none) (.cons (.ge 6) (.txt .nstr) (.cons .all (.txt .str) (.cons .all (.txt .str) (.cons .all (.txt .str) (.cons .all (.txt .str) (.cons .all (.arr 141 none (.row 186 184 158 (.cons .all (.txt .str) (.cons (.ge 4) (.txt .nstr) (.cons .all (.txt .str) (.cons .all (.txt .str) (.cons .all (.txt .byt) (.cons .all (.txt .byt) (.tags))))))))) (.cons (.ge 3) (.pr .i32 (some (.int .i32 (-2147483648)))) (.tags))))))))))) (.tags))⟩
def dS : zvm where
  newP := 63
  setV := 66
  maxV := 64
  readF := 67
  readf := 112
  tell := 68
  maxI := 24
  tellI := 26
theorem rd_m : FOk Go.Proofs.Tryz.prog 112 3 (mS.gen NS true) [.var 3] := ⟨Go.Proofs.Tryz.f112, _, [0, 1, 2, 6, 7, 8, 9, 10, 51, 11, 12, 13, 14, 62, 66, 71, 15, 77, 16, 17, 18, 92, 19, 93, 94, 97, 20, 104, 105, 108, 21, 115, 116, 119, 22, 126, 127, 130, 23, 137, 138, 141, 24, 25, 26, 153, 157, 162, 27, 168, 28, 29, 30, 177, 178, 181, 189, 31, 190, 191, 194, 32, 201, 202, 205, 33, 212, 213, 216, 34, 223, 35, 230, 237, 248, 36, 254, 264], Go.Proofs.Tryz.func112, rfl, by kernel_rfl, by kernel_rfl, by decide, by kernel_rfl, by kernel_rfl⟩
theorem df_m : FOk Go.Proofs.Tryz.prog 110 1 (seqs (mS.fs.dfl NS mS.tT 1)) [] := ⟨Go.Proofs.Tryz.f110, _, [0], Go.Proofs.Tryz.func110, rfl, by kernel_rfl, by kernel_rfl, by decide, by kernel_rfl, by kernel_rfl⟩
theorem mt : MsgT Go.Proofs.Tryz.prog NS mS true := msgT_of baseS fnsS (by kernel_rfl) (by kernel_rfl) (by kernel_rfl) ⟨trivial, ⟨⟨df_DescribeGroupsResponseGroup, ⟨trivial, ⟨trivial, ⟨trivial, ⟨trivial, ⟨trivial, ⟨trivial, ⟨⟨df_DescribeGroupsResponseGroupMember, ⟨trivial, ⟨trivial, ⟨trivial, ⟨trivial, ⟨trivial, ⟨trivial, trivial⟩⟩⟩⟩⟩⟩⟩, ⟨trivial, trivial⟩⟩⟩⟩⟩⟩⟩⟩⟩, trivial⟩⟩ df_m
theorem ft_DescribeGroupsResponse : FOk Go.Proofs.Tryz.prog 68 1 (tellC NS tf 138 1 114 mS.fs) [.cell 1 NS.zab] := ⟨Go.Proofs.Tryz.f68, _, [0, 2, 3, 29, 30, 31, 4, 34, 46, 47, 49], Go.Proofs.Tryz.func68, rfl, by kernel_rfl, by kernel_rfl, by decide, by kernel_rfl, by kernel_rfl⟩
theorem fc_DescribeGroupsResponse : FOk Go.Proofs.Tryz.prog 114 3 (cTagFn NS) [] := ⟨Go.Proofs.Tryz.f114, _, [0, 1, 2], Go.Proofs.Tryz.func114, rfl, by kernel_rfl, by kernel_rfl, by decide, by kernel_rfl, by kernel_rfl⟩
theorem tl_DescribeGroupsResponse : TellP Go.Proofs.Tryz.prog 68 1 mS.fs := tellP baseS fnsS implT tellN (tf := tf) (Tt := 138) (idx0 := 1) ft_DescribeGroupsResponse (fun _ => fc_DescribeGroupsResponse) ⟨trivial, ⟨⟨zhq (by kernel_rfl), el_ti (fx := true) baseS fnsS _ (by kernel_rfl) ⟨df_DescribeGroupsResponseGroup, ⟨trivial, ⟨trivial, ⟨trivial, ⟨trivial, ⟨trivial, ⟨trivial, ⟨⟨df_DescribeGroupsResponseGroupMember, ⟨trivial, ⟨trivial, ⟨trivial, ⟨trivial, ⟨trivial, ⟨trivial, trivial⟩⟩⟩⟩⟩⟩⟩, ⟨trivial, trivial⟩⟩⟩⟩⟩⟩⟩⟩⟩, tl_DescribeGroupsResponseGroup⟩, trivial⟩⟩ mt.hf (by decide)
theorem fd_new : FOk Go.Proofs.Tryz.prog 63 0 (c_new NS mS.tT mS.dflt) [.var 0] := ⟨Go.Proofs.Tryz.f63, _, [0, 1], Go.Proofs.Tryz.func63, rfl, by kernel_rfl, by kernel_rfl, by decide, by kernel_rfl, by kernel_rfl⟩
theorem fd_set : FOk Go.Proofs.Tryz.prog 66 2 (c_set NS mS.tT) [] := ⟨Go.Proofs.Tryz.f66, _, [0, 1], Go.Proofs.Tryz.func66, rfl, by kernel_rfl, by kernel_rfl, by decide, by kernel_rfl, by kernel_rfl⟩
theorem door : zys Go.Proofs.Tryz.prog NS mS true dS where
  msg := mt
  vin := rfl
  ti := (tsB_ok (by' := bytesOf Go.Proofs.Tryz.prog 138) (by kernel_rfl)).imp fun _ h => ⟨_, h⟩
  newP := fd_new
  setV := fd_set
  readf := rd_m
  tell := tl_DescribeGroupsResponse
  dok := ⟨⟨_, rfl, by decide⟩, ⟨⟨⟨_, rfl, by decide⟩, ⟨trivial, ⟨⟨_, rfl, by decide⟩, trivial⟩⟩⟩, trivial⟩⟩
  shB := by kernel_rfl
  cnt := by decide
theorem fd_rf : FOk Go.Proofs.Tryz.prog 67 2 (c_rf NS mS.pT 112 false) [.var 2] := ⟨Go.Proofs.Tryz.f67, _, [0, 1, 4], Go.Proofs.Tryz.func67, rfl, by kernel_rfl, by kernel_rfl, by decide, by kernel_rfl, by kernel_rfl⟩
theorem fd_mv : FOk Go.Proofs.Tryz.prog 64 1 (c_max 6) [.var 1] := ⟨Go.Proofs.Tryz.f64, _, [0, 2], Go.Proofs.Tryz.func64, rfl, by kernel_rfl, by kernel_rfl, by decide, by kernel_rfl, by kernel_rfl⟩
theorem fd_mi : FOk Go.Proofs.Tryz.prog 24 0 (c_maxI NS mS.pT 63 64) [.var 0] := ⟨Go.Proofs.Tryz.f24, _, [0], Go.Proofs.Tryz.func24, rfl, by kernel_rfl, by kernel_rfl, by decide, by kernel_rfl, by kernel_rfl⟩
theorem fd_tellI : FOk Go.Proofs.Tryz.prog 26 2 (c_door NS mS.pT 63 66 67 68) [.cell 2 NS.zab, .var 3] := ⟨Go.Proofs.Tryz.f26, _, [0, 1, 4, 5, 6, 16], Go.Proofs.Tryz.func26, rfl, by kernel_rfl, by kernel_rfl, by decide, by kernel_rfl, by kernel_rfl⟩

def sc_sDescribeGroupsResponseGroupMember : List SC := [.mk [(0, 8), (2, -1), (3, -1), (4, -1)] none [], .mk [(0, 8), (1, 4), (2, -1), (3, 4), (4, -1)] none [], .mk [(0, 8), (2, -1), (3, -1), (4, -1)] none [], .mk [(0, 8), (2, -1), (3, -1), (4, -1)] none [], .mk [(0, 9), (2, -1), (3, -1), (4, -1)] none [], .mk [(0, 9), (2, -1), (3, -1), (4, -1)] none []]
theorem fsc_sDescribeGroupsResponseGroupMember : FOk Go.Proofs.Tryz.prog 111 0 (c_flds MS sc_sDescribeGroupsResponseGroupMember) [.var 0] := ⟨Go.Proofs.Tryz.f111, _, [0], Go.Proofs.Tryz.func111, rfl, by kernel_rfl, by kernel_rfl, by decide, by kernel_rfl, by kernel_rfl⟩
theorem mk_sDescribeGroupsResponseGroupMember : MkOk Go.Proofs.Tryz.prog 111 (SC.flds sc_sDescribeGroupsResponseGroupMember) := mk_flds (l := sc_sDescribeGroupsResponseGroupMember) spT (by kernel_rfl) ⟨rfl, ⟨rfl, ⟨rfl, ⟨rfl, ⟨rfl, ⟨rfl, trivial⟩⟩⟩⟩⟩⟩ fsc_sDescribeGroupsResponseGroupMember

def sc_sDescribeGroupsResponseGroup : List SC := [.mk [(0, 2), (2, -1), (3, -1), (4, -1)] none [], .mk [(0, 8), (1, 6), (2, -1), (3, 6), (4, -1)] none [], .mk [(0, 8), (2, -1), (3, -1), (4, -1)] none [], .mk [(0, 8), (2, -1), (3, -1), (4, -1)] none [], .mk [(0, 8), (2, -1), (3, -1), (4, -1)] none [], .mk [(0, 8), (2, -1), (3, -1), (4, -1)] none [], .mk [(0, 11), (2, -1), (3, -1), (4, -1), (6, 10)] (some 111) sc_sDescribeGroupsResponseGroupMember, .mk [(0, 3), (1, 3), (2, -1), (3, -1), (4, -1), (5, -2147483648)] none []]
theorem fsc_sDescribeGroupsResponseGroup : FOk Go.Proofs.Tryz.prog 65 0 (c_flds MS sc_sDescribeGroupsResponseGroup) [.var 0] := ⟨Go.Proofs.Tryz.f65, _, [0], Go.Proofs.Tryz.func65, rfl, by kernel_rfl, by kernel_rfl, by decide, by kernel_rfl, by kernel_rfl⟩
theorem mk_sDescribeGroupsResponseGroup : MkOk Go.Proofs.Tryz.prog 65 (SC.flds sc_sDescribeGroupsResponseGroup) := mk_flds (l := sc_sDescribeGroupsResponseGroup) spT (by kernel_rfl) ⟨rfl, ⟨rfl, ⟨rfl, ⟨rfl, ⟨rfl, ⟨rfl, ⟨⟨mk_sDescribeGroupsResponseGroupMember, fsc_sDescribeGroupsResponseGroupMember.has⟩, ⟨rfl, trivial⟩⟩⟩⟩⟩⟩⟩⟩ fsc_sDescribeGroupsResponseGroup

def sc_DescribeGroupsResponse : List SC := [.mk [(0, 3), (1, 1), (2, -1), (3, -1), (4, -1)] none [], .mk [(0, 11), (2, -1), (3, -1), (4, -1), (6, 10)] (some 65) sc_sDescribeGroupsResponseGroup]
theorem fsc_DescribeGroupsResponse : FOk Go.Proofs.Tryz.prog 25 0 (c_msg MS sc_DescribeGroupsResponse (5)) [.cell 0 MS.zam] := ⟨Go.Proofs.Tryz.f25, _, [0], Go.Proofs.Tryz.func25, rfl, by kernel_rfl, by kernel_rfl, by decide, by kernel_rfl, by kernel_rfl⟩
theorem lawT : LawTT Go.Proofs.Tryz.prog NS MS mS true dS 6 25 sc_DescribeGroupsResponse (5) := ⟨door, fd_rf, fd_mv, fd_mi, fd_tellI, by decide, by decide, by decide, fsc_DescribeGroupsResponse, by kernel_rfl, ⟨rfl, ⟨⟨mk_sDescribeGroupsResponseGroup, fsc_sDescribeGroupsResponseGroup.has⟩, trivial⟩⟩, by kernel_rfl, by kernel_rfl, by kernel_rfl⟩
theorem fd_law : FOk Go.Proofs.Tryz.prog 6 2 (c_lawT NS MS 38 dS.maxI dS.tellI 25) [.var 3] := ⟨Go.Proofs.Tryz.f6, _, [0, 1, 3, 4, 12, 5, 15, 6, 7, 8, 9], Go.Proofs.Tryz.func6, rfl, by kernel_rfl, by kernel_rfl, by decide, by kernel_rfl, by kernel_rfl⟩
end Go.Kf

namespace Go.Proofs.YtccgofjnacenhaaGreatDoor.fnTellDescribeGroupsResponse
open Go.ChangeShapes Go.WideShapes Go.ChangeAt Go.RowKit Go.Kf

theorem reads (os : Os) {H : Type} (enc : TypeId × Value → H) : ∃ places, DataW.whole enc Go.Proofs.Tryz.prog ((World.doorLaid Go.Proofs.Tryz.prog 400 os).forCall (fun _ _ => 0) ⟨#[], #[.int .u8 0, .agg #[.int .i64 0, .slice none 0 0, .bool false, .slice none 0 0, .slice none 0 0]], []⟩).memory Go.Proofs.Tryz.f6.params.toList Rows.fnTellDescribeGroupsResponseSpec.vars false #[Value.int .u8 0, .agg #[.int .i64 0, .slice none 0 0, .bool false, .slice none 0 0, .slice none 0 0]].toList 8 = some ([.lit (.int .u8 0), .agg [.lit (.int .i64 0), .nil, .lit (.bool false), .nil, .nil]], [], places) :=
  ⟨[], by kernel_rfl⟩
set_option maxHeartbeats 4000000 in
theorem lifted (os : Os) (started : os.Started) (H : Type) (enc : TypeId × Value → H) (F : Stop.Interp) :
    ReturnsInHanded {} Go.Proofs.Tryz.checked os 6 .any ((Rows.OpenSpec.upto Rows.fnTellDescribeGroupsResponseSpec).preRow enc Go.Proofs.Tryz.prog Go.Proofs.Tryz.f6 Rows.fnTellDescribeGroupsResponseUptoRow.domain false Rows.fnTellDescribeGroupsResponseUptoRow.laid) (((Rows.OpenSpec.upto Rows.fnTellDescribeGroupsResponseSpec).at F).post enc Go.Proofs.Tryz.prog Go.Proofs.Tryz.f6 false true false false) := by
  obtain ⟨places, hx⟩ := reads os enc
  refine returnsInHanded_of_row (C := Go.Proofs.Tryz.checked) (s := Rows.OpenSpec.upto Rows.fnTellDescribeGroupsResponseSpec) own started (by kernel_rfl) Go.Proofs.Tryz.func6
    ⟨World.doorLaid Go.Proofs.Tryz.prog 400 os, fun _ _ => 0, ⟨#[], #[.int .u8 0, .agg #[.int .i64 0, .slice none 0 0, .bool false, .slice none 0 0, .slice none 0 0]], []⟩, rfl, shaped os _, rfl, (Input.okWide_of_okWideB (by kernel_rfl)).2,
      OpenSpec.preRow_of_cond 8 hx (by kernel_rfl) (fun k hk => by cases hk; kernel_rfl) (by kernel_rfl) (door_met os _), by
        simp only [Assume.holds]
        exact ⟨by simp, by simp, fun _ => Modest.zero, by simp, by simp⟩⟩ ?_
  intro W base args ds gs before hval0 hW _ hcond _ hL _ _
  have hval : ∀ (j : Nat) t v, Go.Proofs.Tryz.f6.params[j]? = some t → args[j]? = some v → Value.okWide Go.Proofs.Tryz.prog W .any base t v := hval0
  have hW' := hW
  obtain ⟨p, q, hA0, hV, rfl, hfz, hnd⟩ := hW
  have hA : DataW.TrodAll enc Go.Proofs.Tryz.prog W 0 (fun _ => true) true Go.Proofs.Tryz.f6.params.toList args.toList ds p := hA0
  rw [Go.Proofs.Tryz.params6] at hA hval
  obtain ⟨v0, vs0, d0, ds0, p0, q0, hargs, rfl, rfl, h0, r0⟩ := trodAll_cons hA
  obtain ⟨v1, vs1, d1, ds1, p1, q1, rfl, rfl, rfl, h1, r1⟩ := trodAll_cons r0
  obtain ⟨rfl, rfl, rfl⟩ := trodAll_nil r1
  obtain rfl : args = #[v0, v1] := by cases args; simp_all
  obtain ⟨rfl, rfl⟩ := trodVars_none hV
  obtain ⟨n0, rfl, rfl, rfl, w0⟩ := open_int Go.Proofs.Tryz.underlying5 (hval 0 5 v0 rfl rfl) h0
  obtain ⟨t, ct, rfl, ht, hwf, hsz⟩ := treeArg_of treeO baseS specT (bulkF H) (hval 1 26 v1 rfl rfl) h1
  have hc := hcond _ rfl
  have hsz2 : szT t ≤ 1048576 := by
    have hc2 : Rows.uptoBulkAll ([.lit (.int .u8 n0), d1] ++ []) ≤ 1048576 := of_decide_eq_true hc
    simp only [List.cons_append, List.nil_append, Rows.uptoBulkAll] at hc2
    omega
  have lt1 : ∀ x ∈ p1, x.block < W.heap.size := by obtain ⟨m, hm⟩ := h1; exact DataW.trod_lt m _ _ _ hm
  rw [MakeChecks.laidMetH_plain _ _ _ (by kernel_rfl)] at hL
  obtain ⟨a1, s1, hv1, _⟩ := laid_sentinel hL gO gT Go.Proofs.Tryz.underlying56 rowP Go.Proofs.Tryz.underlying247 Go.Proofs.Tryz.underlying265 rfl rfl Go.Proofs.Tryz.underlying9 cS cStr
  have hg : W.cell? ⟨1, 0, none⟩ = some (.iface 247 (.pointer (some a1))) := by simpa using World.var?_cell gO hv1 0
  have hn0 : 0 ≤ n0 ∧ n0 ≤ 255 := by
    simp [Lit.wf, IntKind.min, IntKind.max, IntKind.signed, IntKind.bits] at w0
    omega
  clear hA0 hval0
  refine Calls.mono (call_lawT baseS fnsS implT spT thSZ thSW thSTo (by decide) (by decide) (by decide) lawT fd_law (n := n0) hn0 ht hwf hsz2 hg) fun e W' ⟨v', he, hv', hm⟩ => ?_
  subst he hv'
  have bel := hm.below
  exact ⟨_, rfl, _, _, _, [], _, [], hW', trodAll_mk1 (shut_bool Go.Proofs.Tryz.underlying4 _), trodAll_cons_mk (shut_int Go.Proofs.Tryz.underlying5 w0) (trodAll_cons_mk (Below.trod laidOut (by kernel_rfl) (of_decide_eq_true (by kernel_rfl)) h1 bel lt1) trodAll_mk0), rfl, bel.frame _, fun h => by cases h⟩

set_option maxHeartbeats 4000000 in
theorem joined : joinedFacts Go.Proofs.Tryz.prog 6 Go.Proofs.Tryz.f6 (Rows.OpenSpec.upto Rows.fnTellDescribeGroupsResponseSpec).bare Rows.fnTellDescribeGroupsResponseUptoRow = true := by
  unfold joinedFacts
  exact bandT (bandT (bandT (bandT (bandT (bandT (bandT (bandT (bandT (bandT (bandT (bandT (bandT (bandT (bandT (bandT (bandT (bandT (bandT (bandT (bandT (bandT (bandT (bandT (bandT (bandT (bandT (bandT (bandT (bandT (bandT (by as_aux_lemma => kernel_rfl) laidOut) mapsRowedS) (by as_aux_lemma => kernel_rfl)) (by as_aux_lemma => kernel_rfl)) (by as_aux_lemma => kernel_rfl)) (by as_aux_lemma => kernel_rfl)) (by as_aux_lemma => kernel_rfl)) (by as_aux_lemma => kernel_rfl)) (by as_aux_lemma => kernel_rfl)) (by as_aux_lemma => kernel_rfl)) (by as_aux_lemma => kernel_rfl)) (by as_aux_lemma => kernel_rfl)) (by as_aux_lemma => kernel_rfl)) (by as_aux_lemma => kernel_rfl)) (by as_aux_lemma => kernel_rfl)) (by as_aux_lemma => kernel_rfl)) (by as_aux_lemma => kernel_rfl)) (by as_aux_lemma => kernel_rfl)) (by as_aux_lemma => kernel_rfl)) (by as_aux_lemma => kernel_rfl)) (by as_aux_lemma => kernel_rfl)) plainKeysS) (by as_aux_lemma => kernel_rfl)) stopsHeardS) bigEnter) bigLifts) bigMake) (by as_aux_lemma => kernel_rfl)) (by as_aux_lemma => kernel_rfl)) (by as_aux_lemma => kernel_rfl)) (by as_aux_lemma => kernel_rfl)
theorem named : Go.Proofs.Tryz.prog.funcNamed Rows.fnTellDescribeGroupsResponseUptoRow.func = some 6 := by kernel_rfl
theorem isInst : Go.Proofs.Tryz.f6.isInstance Go.Proofs.Tryz.prog Rows.fnTellDescribeGroupsResponseUptoRow.origin Rows.fnTellDescribeGroupsResponseUptoRow.targs := of_decide_eq_true (by kernel_rfl)
theorem isWrap : Go.Proofs.Tryz.f6.isWrapper Go.Proofs.Tryz.prog Rows.fnTellDescribeGroupsResponseUptoRow.wrapper Rows.fnTellDescribeGroupsResponseUptoRow.mainSum := by unfold Func.isWrapper; first | (rw [if_pos (by decide +kernel)]; kernel_rfl) | (rw [if_neg (by decide +kernel)]; exact ⟨rfl, rfl⟩)
theorem row : Rows.FnTellDescribeGroupsResponseUptoSaid :=
  OpenClaim.holds_of_cond 6 Go.Proofs.Tryz.f6 rfl rfl rfl rfl rfl rfl rfl ⟨rfl, rfl, rfl, rfl, rfl⟩ rfl rfl rfl rfl rfl named Go.Proofs.Tryz.func6 joined
    isInst isWrap
    (fun os started H enc _ F => by rw [OpenClaim.pre_eq_preRow]; exact lifted os started H enc F)
end Go.Proofs.YtccgofjnacenhaaGreatDoor.fnTellDescribeGroupsResponse

namespace Go.Proofs.YtccgofjnacenhaaGreatDoor
open Go.Kf
set_option maxHeartbeats 4000000 in
theorem fnTellDescribeGroupsResponse_card : Rows.FnTellDescribeGroupsResponseUptoCardSaid :=
  Claim7.holds_tied_plain_at .later [] [.sentinel] true Rows.fnTellDescribeGroupsResponseUptoCard.stood.harness false
    fnTellDescribeGroupsResponse.row (fun _ h => by cases h) (by as_aux_lemma => kernel_rfl) (fun _ h => by cases h) fnTellDescribeGroupsResponseUpto_row_tie rfl ⟨rfl, rfl⟩ mainS rfl
    (fun f fn hf hfn => by
      obtain rfl : f = 6 := Option.some.inj (fnTellDescribeGroupsResponse.named.symm.trans hf) |>.symm
      obtain rfl : fn = Go.Proofs.Tryz.f6 := (Option.some.inj (Go.Proofs.Tryz.func6.symm.trans hfn)).symm
      refine ⟨looksS, fun j t ht => ?_⟩
      rw [Go.Proofs.Tryz.params6] at ht
      rcases j with _ | _ | j
      · obtain rfl : 5 = t := by simpa using ht
        exact (show Go.Proofs.Tryz.prog.wantsStandIn 5 = false by kernel_rfl)
      · obtain rfl : 26 = t := by simpa using ht
        exact (show Go.Proofs.Tryz.prog.wantsStandIn 26 = false by kernel_rfl)
      · simp at ht)
    (by as_aux_lemma => kernel_rfl)
#print axioms fnTellDescribeGroupsResponse_card
end Go.Proofs.YtccgofjnacenhaaGreatDoor
