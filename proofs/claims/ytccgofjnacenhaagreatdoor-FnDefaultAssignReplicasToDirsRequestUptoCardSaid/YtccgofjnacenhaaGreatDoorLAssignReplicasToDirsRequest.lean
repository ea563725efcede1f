/- Default sets the fields that have a default, whatever was read ahead (laws.FnDefaultAssignReplicasToDirsRequest): the second form's tied card is proved, at every version number and every tree whose bulk is at most 1048576; no other condition. -/
import Derived.Test.YtccgofjnacenhaaGreatDoorDs
set_option linter.unusedSimpArgs false
set_option linter.unusedVariables false
set_option maxRecDepth 100000
namespace Go.Kf
open Go

def tf : TypeId → FuncId × FuncId := fun | 195 => (188, 212) | 192 => (167, 189) | 151 => (117, 168) | _ => (0, 0)

def rAssignReplicasToDirsRequestDirectoryTopicPartition : Fds := .cons .all (.pr .i32 none) (.tags)
theorem df_AssignReplicasToDirsRequestDirectoryTopicPartition : FOk Go.Proofs.Tryz.prog 166 1 (seqs (rAssignReplicasToDirsRequestDirectoryTopicPartition.dfl NS 195 0)) [] := ⟨Go.Proofs.Tryz.f166, _, [0], Go.Proofs.Tryz.func166, rfl, by kernel_rfl, by kernel_rfl, by decide, by kernel_rfl, by kernel_rfl⟩
theorem ft_AssignReplicasToDirsRequestDirectoryTopicPartition : FOk Go.Proofs.Tryz.prog 188 1 (tellC NS tf 195 0 212 rAssignReplicasToDirsRequestDirectoryTopicPartition) [.cell 1 NS.zz] := ⟨Go.Proofs.Tryz.f188, _, [0, 2, 3], Go.Proofs.Tryz.func188, rfl, by kernel_rfl, by kernel_rfl, by decide, by kernel_rfl, by kernel_rfl⟩
theorem fc_AssignReplicasToDirsRequestDirectoryTopicPartition : FOk Go.Proofs.Tryz.prog 212 3 (cTagFn NS) [] := ⟨Go.Proofs.Tryz.f212, _, [0, 1, 2], Go.Proofs.Tryz.func212, rfl, by kernel_rfl, by kernel_rfl, by decide, by kernel_rfl, by kernel_rfl⟩
theorem tl_AssignReplicasToDirsRequestDirectoryTopicPartition : TellP Go.Proofs.Tryz.prog 188 0 rAssignReplicasToDirsRequestDirectoryTopicPartition := tellP baseS fnsS implT tellN (tf := tf) (Tt := 195) (idx0 := 0) ft_AssignReplicasToDirsRequestDirectoryTopicPartition (fun _ => fc_AssignReplicasToDirsRequestDirectoryTopicPartition) ⟨trivial, trivial⟩ (Fds.ok_of (fx := true) (Tt := 195) (idx := 0) (off := 0) baseS fnsS rAssignReplicasToDirsRequestDirectoryTopicPartition (by kernel_rfl) ⟨trivial, trivial⟩).2.1 (by decide)

def rAssignReplicasToDirsRequestDirectoryTopic : Fds := .cons .all (.pr .uuid none) (.cons .all (.arr 190 none (.row 195 193 166 (.cons .all (.pr .i32 none) (.tags)))) (.tags))
theorem df_AssignReplicasToDirsRequestDirectoryTopic : FOk Go.Proofs.Tryz.prog 165 1 (seqs (rAssignReplicasToDirsRequestDirectoryTopic.dfl NS 192 0)) [] := ⟨Go.Proofs.Tryz.f165, _, [0], Go.Proofs.Tryz.func165, rfl, by kernel_rfl, by kernel_rfl, by decide, by kernel_rfl, by kernel_rfl⟩
theorem ft_AssignReplicasToDirsRequestDirectoryTopic : FOk Go.Proofs.Tryz.prog 167 1 (tellC NS tf 192 0 189 rAssignReplicasToDirsRequestDirectoryTopic) [.cell 1 NS.zz] := ⟨Go.Proofs.Tryz.f167, _, [0, 2, 3, 29, 30, 31, 4, 34, 46, 47, 49], Go.Proofs.Tryz.func167, rfl, by kernel_rfl, by kernel_rfl, by decide, by kernel_rfl, by kernel_rfl⟩
theorem fc_AssignReplicasToDirsRequestDirectoryTopic : FOk Go.Proofs.Tryz.prog 189 3 (cTagFn NS) [] := ⟨Go.Proofs.Tryz.f189, _, [0, 1, 2], Go.Proofs.Tryz.func189, rfl, by kernel_rfl, by kernel_rfl, by decide, by kernel_rfl, by kernel_rfl⟩
theorem tl_AssignReplicasToDirsRequestDirectoryTopic : TellP Go.Proofs.Tryz.prog 167 0 rAssignReplicasToDirsRequestDirectoryTopic := tellP baseS fnsS implT tellN (tf := tf) (Tt := 192) (idx0 := 0) ft_AssignReplicasToDirsRequestDirectoryTopic (fun _ => fc_AssignReplicasToDirsRequestDirectoryTopic) ⟨(show NS.zbi ≠ 0 by decide), ⟨⟨zhi (by kernel_rfl), el_ti (fx := true) baseS fnsS _ (by kernel_rfl) ⟨df_AssignReplicasToDirsRequestDirectoryTopicPartition, ⟨trivial, trivial⟩⟩, tl_AssignReplicasToDirsRequestDirectoryTopicPartition⟩, trivial⟩⟩ (Fds.ok_of (fx := true) (Tt := 192) (idx := 0) (off := 0) baseS fnsS rAssignReplicasToDirsRequestDirectoryTopic (by kernel_rfl) ⟨trivial, ⟨⟨df_AssignReplicasToDirsRequestDirectoryTopicPartition, ⟨trivial, trivial⟩⟩, trivial⟩⟩).2.1 (by decide)

def rAssignReplicasToDirsRequestDirectory : Fds := .cons .all (.pr .uuid none) (.cons .all (.arr 149 none (.row 192 189 165 (.cons .all (.pr .uuid none) (.cons .all (.arr 190 none (.row 195 193 166 (.cons .all (.pr .i32 none) (.tags)))) (.tags))))) (.tags))
theorem df_AssignReplicasToDirsRequestDirectory : FOk Go.Proofs.Tryz.prog 164 1 (seqs (rAssignReplicasToDirsRequestDirectory.dfl NS 151 0)) [] := ⟨Go.Proofs.Tryz.f164, _, [0], Go.Proofs.Tryz.func164, rfl, by kernel_rfl, by kernel_rfl, by decide, by kernel_rfl, by kernel_rfl⟩
theorem ft_AssignReplicasToDirsRequestDirectory : FOk Go.Proofs.Tryz.prog 117 1 (tellC NS tf 151 0 168 rAssignReplicasToDirsRequestDirectory) [.cell 1 NS.zz] := ⟨Go.Proofs.Tryz.f117, _, [0, 2, 3, 29, 30, 31, 4, 34, 46, 47, 49], Go.Proofs.Tryz.func117, rfl, by kernel_rfl, by kernel_rfl, by decide, by kernel_rfl, by kernel_rfl⟩
theorem fc_AssignReplicasToDirsRequestDirectory : FOk Go.Proofs.Tryz.prog 168 3 (cTagFn NS) [] := ⟨Go.Proofs.Tryz.f168, _, [0, 1, 2], Go.Proofs.Tryz.func168, rfl, by kernel_rfl, by kernel_rfl, by decide, by kernel_rfl, by kernel_rfl⟩
theorem tl_AssignReplicasToDirsRequestDirectory : TellP Go.Proofs.Tryz.prog 117 0 rAssignReplicasToDirsRequestDirectory := tellP baseS fnsS implT tellN (tf := tf) (Tt := 151) (idx0 := 0) ft_AssignReplicasToDirsRequestDirectory (fun _ => fc_AssignReplicasToDirsRequestDirectory) ⟨(show NS.zbi ≠ 0 by decide), ⟨⟨zhi (by kernel_rfl), el_ti (fx := true) baseS fnsS _ (by kernel_rfl) ⟨df_AssignReplicasToDirsRequestDirectoryTopic, ⟨trivial, ⟨⟨df_AssignReplicasToDirsRequestDirectoryTopicPartition, ⟨trivial, trivial⟩⟩, trivial⟩⟩⟩, tl_AssignReplicasToDirsRequestDirectoryTopic⟩, trivial⟩⟩ (Fds.ok_of (fx := true) (Tt := 151) (idx := 0) (off := 0) baseS fnsS rAssignReplicasToDirsRequestDirectory (by kernel_rfl) ⟨trivial, ⟨⟨df_AssignReplicasToDirsRequestDirectoryTopic, ⟨trivial, ⟨⟨df_AssignReplicasToDirsRequestDirectoryTopicPartition, ⟨trivial, trivial⟩⟩, trivial⟩⟩⟩, trivial⟩⟩).2.1 (by decide)

def mS : Msg := ⟨146, 79, 74, 0, false, .cons .all (.pr .i32 none) (.cons .all (.pr .i64 (some (.int .i64 (-1)))) (.cons .all (.arr 144 none (.row 151 148 164 (.cons .all (.pr .uuid none) (.cons .all (.arr 149 none (.row 192 189 165 (.cons .all (.pr .uuid none) (.cons .all (.arr 190 none (.row 195 193 166 (.cons .all (.pr .i32 none) (.tags)))) (.tags))))) (.tags))))) (.tags)))⟩
def dS : zwj where
  newP := 69
  setV := 72
  maxV := 70
  readF := 73
  readf := 116
  tell := 75
  maxI := 27
  tellI := 29
theorem rd_m : FOk Go.Proofs.Tryz.prog 116 3 (mS.gen NS true) [.var 3] := ⟨Go.Proofs.Tryz.f116, _, [0, 1, 2, 6, 7, 8, 9, 10, 11, 12, 13, 14, 15, 62, 66, 71, 16, 77, 17, 18, 19, 20, 21, 22, 96, 100, 105, 23, 111, 24, 25, 26, 27, 28, 29, 130, 134, 139, 30, 145, 31, 32, 33, 159, 169, 179, 189], Go.Proofs.Tryz.func116, rfl, by kernel_rfl, by kernel_rfl, by decide, by kernel_rfl, by kernel_rfl⟩
theorem df_m : FOk Go.Proofs.Tryz.prog 74 1 (seqs (mS.fs.dfl NS mS.tT 1)) [] := ⟨Go.Proofs.Tryz.f74, _, [0], Go.Proofs.Tryz.func74, rfl, by kernel_rfl, by kernel_rfl, by decide, by kernel_rfl, by kernel_rfl⟩
theorem mt : MsgT Go.Proofs.Tryz.prog NS mS true := msgT_of baseS fnsS (by kernel_rfl) (by kernel_rfl) (by kernel_rfl) ⟨trivial, ⟨trivial, ⟨⟨df_AssignReplicasToDirsRequestDirectory, ⟨trivial, ⟨⟨df_AssignReplicasToDirsRequestDirectoryTopic, ⟨trivial, ⟨⟨df_AssignReplicasToDirsRequestDirectoryTopicPartition, ⟨trivial, trivial⟩⟩, trivial⟩⟩⟩, trivial⟩⟩⟩, trivial⟩⟩⟩ df_m
theorem ft_AssignReplicasToDirsRequest : FOk Go.Proofs.Tryz.prog 75 1 (tellC NS tf 146 1 118 mS.fs) [.cell 1 NS.zz] := ⟨Go.Proofs.Tryz.f75, _, [0, 2, 3, 37, 38, 39, 4, 42, 54, 55, 57], Go.Proofs.Tryz.func75, rfl, by kernel_rfl, by kernel_rfl, by decide, by kernel_rfl, by kernel_rfl⟩
theorem fc_AssignReplicasToDirsRequest : FOk Go.Proofs.Tryz.prog 118 3 (cTagFn NS) [] := ⟨Go.Proofs.Tryz.f118, _, [0, 1, 2], Go.Proofs.Tryz.func118, rfl, by kernel_rfl, by kernel_rfl, by decide, by kernel_rfl, by kernel_rfl⟩
theorem tl_AssignReplicasToDirsRequest : TellP Go.Proofs.Tryz.prog 75 1 mS.fs := tellP baseS fnsS implT tellN (tf := tf) (Tt := 146) (idx0 := 1) ft_AssignReplicasToDirsRequest (fun _ => fc_AssignReplicasToDirsRequest) ⟨trivial, ⟨trivial, ⟨⟨zhi (by kernel_rfl), el_ti (fx := true) baseS fnsS _ (by kernel_rfl) ⟨df_AssignReplicasToDirsRequestDirectory, ⟨trivial, ⟨⟨df_AssignReplicasToDirsRequestDirectoryTopic, ⟨trivial, ⟨⟨df_AssignReplicasToDirsRequestDirectoryTopicPartition, ⟨trivial, trivial⟩⟩, trivial⟩⟩⟩, trivial⟩⟩⟩, tl_AssignReplicasToDirsRequestDirectory⟩, trivial⟩⟩⟩ mt.hf (by decide)
theorem fd_new : FOk Go.Proofs.Tryz.prog 69 0 (c_new NS mS.tT mS.dflt) [.var 0] := ⟨Go.Proofs.Tryz.f69, _, [0, 1], Go.Proofs.Tryz.func69, rfl, by kernel_rfl, by kernel_rfl, by decide, by kernel_rfl, by kernel_rfl⟩
theorem fd_set : FOk Go.Proofs.Tryz.prog 72 2 (c_set NS mS.tT) [] := ⟨Go.Proofs.Tryz.f72, _, [0, 1], Go.Proofs.Tryz.func72, rfl, by kernel_rfl, by kernel_rfl, by decide, by kernel_rfl, by kernel_rfl⟩
theorem door : DoorT Go.Proofs.Tryz.prog NS mS true dS where
  msg := mt
  vin := rfl
  ti := (tsB_ok (by' := bytesOf Go.Proofs.Tryz.prog 146) (by kernel_rfl)).imp fun _ h => ⟨_, h⟩
  newP := fd_new
  setV := fd_set
  readf := rd_m
  tell := tl_AssignReplicasToDirsRequest
  dok := ⟨⟨_, rfl, by decide⟩, ⟨⟨_, rfl, by decide⟩, ⟨⟨⟨List.replicate 16 0, rfl, rfl⟩, ⟨⟨⟨List.replicate 16 0, rfl, rfl⟩, ⟨⟨⟨_, rfl, by decide⟩, trivial⟩, trivial⟩⟩, trivial⟩⟩, trivial⟩⟩⟩
  shB := by kernel_rfl
  cnt := by decide
theorem fd_rf : FOk Go.Proofs.Tryz.prog 73 2 (c_rf NS mS.pT 116 false) [.var 2] := ⟨Go.Proofs.Tryz.f73, _, [0, 1, 4], Go.Proofs.Tryz.func73, rfl, by kernel_rfl, by kernel_rfl, by decide, by kernel_rfl, by kernel_rfl⟩
theorem fd_mv : FOk Go.Proofs.Tryz.prog 70 1 (c_max 0) [.var 1] := ⟨Go.Proofs.Tryz.f70, _, [0, 2], Go.Proofs.Tryz.func70, rfl, by kernel_rfl, by kernel_rfl, by decide, by kernel_rfl, by kernel_rfl⟩
theorem fd_mi : FOk Go.Proofs.Tryz.prog 27 0 (c_maxI NS mS.pT 69 70) [.var 0] := ⟨Go.Proofs.Tryz.f27, _, [0], Go.Proofs.Tryz.func27, rfl, by kernel_rfl, by kernel_rfl, by decide, by kernel_rfl, by kernel_rfl⟩
theorem fd_tellI : FOk Go.Proofs.Tryz.prog 29 2 (zxl NS mS.pT 69 72 73 75 74) [.cell 2 NS.zz, .var 3] := ⟨Go.Proofs.Tryz.f29, _, [0, 1, 4, 5, 6, 16], Go.Proofs.Tryz.func29, rfl, by kernel_rfl, by kernel_rfl, by decide, by kernel_rfl, by kernel_rfl⟩

def sc_sAssignReplicasToDirsRequestDirectoryTopicPartition : List SC := [.mk [(0, 3), (2, -1), (3, -1), (4, -1)] none []]
theorem fsc_sAssignReplicasToDirsRequestDirectoryTopicPartition : FOk Go.Proofs.Tryz.prog 163 0 (c_flds MS sc_sAssignReplicasToDirsRequestDirectoryTopicPartition) [.var 0] := ⟨Go.Proofs.Tryz.f163, _, [0], Go.Proofs.Tryz.func163, rfl, by kernel_rfl, by kernel_rfl, by decide, by kernel_rfl, by kernel_rfl⟩
theorem mk_sAssignReplicasToDirsRequestDirectoryTopicPartition : MkOk Go.Proofs.Tryz.prog 163 (SC.flds sc_sAssignReplicasToDirsRequestDirectoryTopicPartition) := mk_flds (l := sc_sAssignReplicasToDirsRequestDirectoryTopicPartition) spT (by kernel_rfl) ⟨rfl, trivial⟩ fsc_sAssignReplicasToDirsRequestDirectoryTopicPartition

def sc_sAssignReplicasToDirsRequestDirectoryTopic : List SC := [.mk [(0, 7), (2, -1), (3, -1), (4, -1)] none [], .mk [(0, 11), (2, -1), (3, -1), (4, -1), (6, 10)] (some 163) sc_sAssignReplicasToDirsRequestDirectoryTopicPartition]
theorem fsc_sAssignReplicasToDirsRequestDirectoryTopic : FOk Go.Proofs.Tryz.prog 115 0 (c_flds MS sc_sAssignReplicasToDirsRequestDirectoryTopic) [.var 0] := ⟨Go.Proofs.Tryz.f115, _, [0], Go.Proofs.Tryz.func115, rfl, by kernel_rfl, by kernel_rfl, by decide, by kernel_rfl, by kernel_rfl⟩
theorem mk_sAssignReplicasToDirsRequestDirectoryTopic : MkOk Go.Proofs.Tryz.prog 115 (SC.flds sc_sAssignReplicasToDirsRequestDirectoryTopic) := mk_flds (l := sc_sAssignReplicasToDirsRequestDirectoryTopic) spT (by kernel_rfl) ⟨rfl, ⟨⟨mk_sAssignReplicasToDirsRequestDirectoryTopicPartition, fsc_sAssignReplicasToDirsRequestDirectoryTopicPartition.has⟩, trivial⟩⟩ fsc_sAssignReplicasToDirsRequestDirectoryTopic

def sc_sAssignReplicasToDirsRequestDirectory : List SC := [.mk [(0, 7), (2, -1), (3, -1), (4, -1)] none [], .mk [(0, 11), (2, -1), (3, -1), (4, -1), (6, 10)] (some 115) sc_sAssignReplicasToDirsRequestDirectoryTopic]
theorem fsc_sAssignReplicasToDirsRequestDirectory : FOk Go.Proofs.Tryz.prog 71 0 (c_flds MS sc_sAssignReplicasToDirsRequestDirectory) [.var 0] := ⟨Go.Proofs.Tryz.f71, _, [0], Go.Proofs.Tryz.func71, rfl, by kernel_rfl, by kernel_rfl, by decide, by kernel_rfl, by kernel_rfl⟩
theorem mk_sAssignReplicasToDirsRequestDirectory : MkOk Go.Proofs.Tryz.prog 71 (SC.flds sc_sAssignReplicasToDirsRequestDirectory) := mk_flds (l := sc_sAssignReplicasToDirsRequestDirectory) spT (by kernel_rfl) ⟨rfl, ⟨⟨mk_sAssignReplicasToDirsRequestDirectoryTopic, fsc_sAssignReplicasToDirsRequestDirectoryTopic.has⟩, trivial⟩⟩ fsc_sAssignReplicasToDirsRequestDirectory

def sc_AssignReplicasToDirsRequest : List SC := [.mk [(0, 3), (2, -1), (3, -1), (4, -1)] none [], .mk [(0, 4), (2, -1), (3, -1), (4, -1), (5, -1)] none [], .mk [(0, 11), (2, -1), (3, -1), (4, -1), (6, 10)] (some 71) sc_sAssignReplicasToDirsRequestDirectory]
theorem fsc_AssignReplicasToDirsRequest : FOk Go.Proofs.Tryz.prog 28 0 (c_msg MS sc_AssignReplicasToDirsRequest (0)) [.cell 0 MS.zas] := ⟨Go.Proofs.Tryz.f28, _, [0], Go.Proofs.Tryz.func28, rfl, by kernel_rfl, by kernel_rfl, by decide, by kernel_rfl, by kernel_rfl⟩
theorem lawT : LawDD Go.Proofs.Tryz.prog NS MS mS true dS 0 28 30 sc_AssignReplicasToDirsRequest (0) := ⟨door, fd_rf, fd_mv, fd_mi, fd_tellI, by decide, by decide, by decide, fsc_AssignReplicasToDirsRequest, by kernel_rfl, ⟨rfl, ⟨rfl, ⟨⟨mk_sAssignReplicasToDirsRequestDirectory, fsc_sAssignReplicasToDirsRequestDirectory.has⟩, trivial⟩⟩⟩, by kernel_rfl, by kernel_rfl, sp_df, fpT, sp_spec_number, by kernel_rfl⟩
theorem fd_law : FOk Go.Proofs.Tryz.prog 7 2 (c_lawD NS MS 38 dS.maxI dS.tellI 28 30) [.var 3] := ⟨Go.Proofs.Tryz.f7, _, [0, 1, 3, 4, 12, 5, 15, 6, 7, 8, 9], Go.Proofs.Tryz.func7, rfl, by kernel_rfl, by kernel_rfl, by decide, by kernel_rfl, by kernel_rfl⟩
end Go.Kf

namespace Go.Proofs.YtccgofjnacenhaaGreatDoor.fnDefaultAssignReplicasToDirsRequest
open Go.ChangeShapes Go.WideShapes Go.ChangeAt Go.RowKit Go.Kf

theorem reads (os : Os) {H : Type} (enc : TypeId × Value → H) : ∃ places, DataW.whole enc Go.Proofs.Tryz.prog ((World.doorLaid Go.Proofs.Tryz.prog 400 os).forCall (fun _ _ => 0) ⟨#[], #[.int .u8 0, .agg #[.int .i64 0, .slice none 0 0, .bool false, .slice none 0 0, .slice none 0 0]], []⟩).memory Go.Proofs.Tryz.f7.params.toList Rows.fnDefaultAssignReplicasToDirsRequestSpec.vars false #[Value.int .u8 0, .agg #[.int .i64 0, .slice none 0 0, .bool false, .slice none 0 0, .slice none 0 0]].toList 8 = some ([.lit (.int .u8 0), .agg [.lit (.int .i64 0), .nil, .lit (.bool false), .nil, .nil]], [], places) :=
  ⟨[], by kernel_rfl⟩
set_option maxHeartbeats 4000000 in
theorem lifted (os : Os) (started : os.Started) (H : Type) (enc : TypeId × Value → H) (F : Stop.Interp) :
    ReturnsInHanded {} Go.Proofs.Tryz.checked os 7 .any ((Rows.OpenSpec.upto Rows.fnDefaultAssignReplicasToDirsRequestSpec).preRow enc Go.Proofs.Tryz.prog Go.Proofs.Tryz.f7 Rows.fnDefaultAssignReplicasToDirsRequestUptoRow.domain false Rows.fnDefaultAssignReplicasToDirsRequestUptoRow.laid) (((Rows.OpenSpec.upto Rows.fnDefaultAssignReplicasToDirsRequestSpec).at F).post enc Go.Proofs.Tryz.prog Go.Proofs.Tryz.f7 false true false false) := by
  obtain ⟨places, hx⟩ := reads os enc
  refine returnsInHanded_of_row (C := Go.Proofs.Tryz.checked) (s := Rows.OpenSpec.upto Rows.fnDefaultAssignReplicasToDirsRequestSpec) own started (by kernel_rfl) Go.Proofs.Tryz.func7
    ⟨World.doorLaid Go.Proofs.Tryz.prog 400 os, fun _ _ => 0, ⟨#[], #[.int .u8 0, .agg #[.int .i64 0, .slice none 0 0, .bool false, .slice none 0 0, .slice none 0 0]], []⟩, rfl, shaped os _, rfl, (Input.okWide_of_okWideB (by kernel_rfl)).2,
      OpenSpec.preRow_of_cond 8 hx (by kernel_rfl) (fun k hk => by cases hk; kernel_rfl) (by kernel_rfl) (door_met os _), by
        simp only [Assume.holds]
        exact ⟨by simp, by simp, fun _ => Modest.zero, by simp, by simp⟩⟩ ?_
  intro W base args ds gs before hval0 hW _ hcond _ hL _ _
  have hval : ∀ (j : Nat) t v, Go.Proofs.Tryz.f7.params[j]? = some t → args[j]? = some v → Value.okWide Go.Proofs.Tryz.prog W .any base t v := hval0
  have hW' := hW
  obtain ⟨p, q, hA0, hV, rfl, hfz, hnd⟩ := hW
  have hA : DataW.TrodAll enc Go.Proofs.Tryz.prog W 0 (fun _ => true) true Go.Proofs.Tryz.f7.params.toList args.toList ds p := hA0
  rw [Go.Proofs.Tryz.params7] at hA hval
  obtain ⟨v0, vs0, d0, ds0, p0, q0, hargs, rfl, rfl, h0, r0⟩ := trodAll_cons hA
  obtain ⟨v1, vs1, d1, ds1, p1, q1, rfl, rfl, rfl, h1, r1⟩ := trodAll_cons r0
  obtain ⟨rfl, rfl, rfl⟩ := trodAll_nil r1
  obtain rfl : args = #[v0, v1] := by cases args; simp_all
  obtain ⟨rfl, rfl⟩ := trodVars_none hV
  obtain ⟨n0, rfl, rfl, rfl, w0⟩ := open_int Go.Proofs.Tryz.underlying5 (hval 0 5 v0 rfl rfl) h0
  obtain ⟨t, ct, rfl, ht, hwf, hsz⟩ := treeArg_of treeO baseS specT (bulkF H) (hval 1 26 v1 rfl rfl) h1
  have hc := hcond _ rfl
  have hsz2 : szT t ≤ 1048576 := by
    have hc2 : Rows.uptoBulkAll ([.lit (.int .u8 n0), d1] ++ []) ≤ 1048576 := of_decide_eq_true hc
    simp only [List.cons_append, List.nil_append, Rows.uptoBulkAll] at hc2
    omega
  have lt1 : ∀ x ∈ p1, x.block < W.heap.size := by obtain ⟨m, hm⟩ := h1; exact DataW.trod_lt m _ _ _ hm
  rw [MakeChecks.laidMetH_plain _ _ _ (by kernel_rfl)] at hL
  obtain ⟨a1, s1, hv1, _⟩ := laid_sentinel hL gO gT Go.Proofs.Tryz.underlying56 rowP Go.Proofs.Tryz.underlying247 Go.Proofs.Tryz.underlying265 rfl rfl Go.Proofs.Tryz.underlying9 cS cStr
  have hg : W.cell? ⟨1, 0, none⟩ = some (.iface 247 (.pointer (some a1))) := by simpa using World.var?_cell gO hv1 0
  have hn0 : 0 ≤ n0 ∧ n0 ≤ 255 := by
    simp [Lit.wf, IntKind.min, IntKind.max, IntKind.signed, IntKind.bits] at w0
    omega
  clear hA0 hval0
  refine Calls.mono (call_lawD baseS fnsS implT spT thSZ thSW (by decide) (by decide) lawT fd_law (n := n0) hn0 ht hwf hsz2 hg) fun e W' ⟨v', he, hv', hm⟩ => ?_
  subst he hv'
  have bel := hm.below
  exact ⟨_, rfl, _, _, _, [], _, [], hW', trodAll_mk1 (shut_bool Go.Proofs.Tryz.underlying4 _), trodAll_cons_mk (shut_int Go.Proofs.Tryz.underlying5 w0) (trodAll_cons_mk (Below.trod laidOut (by kernel_rfl) (of_decide_eq_true (by kernel_rfl)) h1 bel lt1) trodAll_mk0), rfl, bel.frame _, fun h => by cases h⟩

set_option maxHeartbeats 4000000 in
theorem joined : joinedFacts Go.Proofs.Tryz.prog 7 Go.Proofs.Tryz.f7 (Rows.OpenSpec.upto Rows.fnDefaultAssignReplicasToDirsRequestSpec).bare Rows.fnDefaultAssignReplicasToDirsRequestUptoRow = true := by
  unfold joinedFacts
  exact bandT (bandT (bandT (bandT (bandT (bandT (bandT (bandT (bandT (bandT (bandT (bandT (bandT (bandT (bandT (bandT (bandT (bandT (bandT (bandT (bandT (bandT (bandT (bandT (bandT (bandT (bandT (bandT (bandT (bandT (bandT (by as_aux_lemma => kernel_rfl) laidOut) mapsRowedS) (by as_aux_lemma => kernel_rfl)) (by as_aux_lemma => kernel_rfl)) (by as_aux_lemma => kernel_rfl)) (by as_aux_lemma => kernel_rfl)) (by as_aux_lemma => kernel_rfl)) (by as_aux_lemma => kernel_rfl)) (by as_aux_lemma => kernel_rfl)) (by as_aux_lemma => kernel_rfl)) (by as_aux_lemma => kernel_rfl)) (by as_aux_lemma => kernel_rfl)) (by as_aux_lemma => kernel_rfl)) (by as_aux_lemma => kernel_rfl)) (by as_aux_lemma => kernel_rfl)) (by as_aux_lemma => kernel_rfl)) (by as_aux_lemma => kernel_rfl)) (by as_aux_lemma => kernel_rfl)) (by as_aux_lemma => kernel_rfl)) (by as_aux_lemma => kernel_rfl)) (by as_aux_lemma => kernel_rfl)) plainKeysS) (by as_aux_lemma => kernel_rfl)) stopsHeardS) bigEnter) bigLifts) bigMake) (by as_aux_lemma => kernel_rfl)) (by as_aux_lemma => kernel_rfl)) (by as_aux_lemma => kernel_rfl)) (by as_aux_lemma => kernel_rfl)
theorem named : Go.Proofs.Tryz.prog.funcNamed Rows.fnDefaultAssignReplicasToDirsRequestUptoRow.func = some 7 := by kernel_rfl
theorem isInst : Go.Proofs.Tryz.f7.isInstance Go.Proofs.Tryz.prog Rows.fnDefaultAssignReplicasToDirsRequestUptoRow.origin Rows.fnDefaultAssignReplicasToDirsRequestUptoRow.targs := of_decide_eq_true (by kernel_rfl)
theorem isWrap : Go.Proofs.Tryz.f7.isWrapper Go.Proofs.Tryz.prog Rows.fnDefaultAssignReplicasToDirsRequestUptoRow.wrapper Rows.fnDefaultAssignReplicasToDirsRequestUptoRow.mainSum := by unfold Func.isWrapper; first | (rw [if_pos (by decide +kernel)]; kernel_rfl) | (rw [if_neg (by decide +kernel)]; exact ⟨rfl, rfl⟩)
theorem row : Rows.FnDefaultAssignReplicasToDirsRequestUptoSaid :=
  OpenClaim.holds_of_cond 7 Go.Proofs.Tryz.f7 rfl rfl rfl rfl rfl rfl rfl ⟨rfl, rfl, rfl, rfl, rfl⟩ rfl rfl rfl rfl rfl named Go.Proofs.Tryz.func7 joined
    isInst isWrap
    (fun os started H enc _ F => by rw [OpenClaim.pre_eq_preRow]; exact lifted os started H enc F)
end Go.Proofs.YtccgofjnacenhaaGreatDoor.fnDefaultAssignReplicasToDirsRequest

namespace Go.Proofs.YtccgofjnacenhaaGreatDoor
open Go.Kf
set_option maxHeartbeats 4000000 in
theorem fnDefaultAssignReplicasToDirsRequest_card : Rows.FnDefaultAssignReplicasToDirsRequestUptoCardSaid :=
  Claim7.holds_tied_plain_at .later [] [.sentinel] true Rows.fnDefaultAssignReplicasToDirsRequestUptoCard.stood.harness false
    fnDefaultAssignReplicasToDirsRequest.row (fun _ h => by cases h) (by as_aux_lemma => kernel_rfl) (fun _ h => by cases h) fnDefaultAssignReplicasToDirsRequestUpto_row_tie rfl ⟨rfl, rfl⟩ mainS rfl
    (fun f fn hf hfn => by
      obtain rfl : f = 7 := Option.some.inj (fnDefaultAssignReplicasToDirsRequest.named.symm.trans hf) |>.symm
      obtain rfl : fn = Go.Proofs.Tryz.f7 := (Option.some.inj (Go.Proofs.Tryz.func7.symm.trans hfn)).symm
      refine ⟨looksS, fun j t ht => ?_⟩
      rw [Go.Proofs.Tryz.params7] at ht
      rcases j with _ | _ | j
      · obtain rfl : 5 = t := by simpa using ht
        exact (show Go.Proofs.Tryz.prog.wantsStandIn 5 = false by kernel_rfl)
      · obtain rfl : 26 = t := by simpa using ht
        exact (show Go.Proofs.Tryz.prog.wantsStandIn 26 = false by kernel_rfl)
      · simp at ht)
    (by as_aux_lemma => kernel_rfl)
#print axioms fnDefaultAssignReplicasToDirsRequest_card
end Go.Proofs.YtccgofjnacenhaaGreatDoor
