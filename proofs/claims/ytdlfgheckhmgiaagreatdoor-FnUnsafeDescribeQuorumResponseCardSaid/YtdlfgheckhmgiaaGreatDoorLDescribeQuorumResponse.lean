/- Both ways of reading tell the same of any octets as a DescribeQuorumResponse (laws.FnUnsafeDescribeQuorumResponse): the tied card is proved, at every version number and all octets; no other condition. -/
import Derived.Test.YtdlfgheckhmgiaaGreatDoorKs
set_option linter.unusedSimpArgs false
set_option linter.unusedVariables false
set_option maxRecDepth 100000
namespace Go.Kf
open Go

def tf : TypeId → FuncId × FuncId := fun | 125 => (95, 121) | 122 => (75, 96) | 86 => (37, 76) | 129 => (77, 97) | 91 => (38, 78) | _ => (0, 0)

def rDescribeQuorumResponseTopicPartitionReplicaState : Fds := .cons .all (.pr .i32 none) (.cons (.ge 2) (.pr .uuid none) (.cons .all (.pr .i64 none) (.cons (.ge 1) (.pr .i64 (some (.int .i64 (-1)))) (.cons (.ge 1) (.pr .i64 (some (.int .i64 (-1)))) (.tags)))))
theorem df_DescribeQuorumResponseTopicPartitionReplicaState : FOk Go.Proofs.Tryz.prog 71 1 (seqs (rDescribeQuorumResponseTopicPartitionReplicaState.dfl NS 125 0)) [] := ⟨Go.Proofs.Tryz.f71, _, [0], Go.Proofs.Tryz.func71, rfl, by kernel_rfl, by kernel_rfl, by decide, by kernel_rfl, by kernel_rfl⟩
theorem ft_DescribeQuorumResponseTopicPartitionReplicaState : FOk Go.Proofs.Tryz.prog 95 1 (tellC NS tf 125 0 121 rDescribeQuorumResponseTopicPartitionReplicaState) [.cell 1 NS.zj] := ⟨Go.Proofs.Tryz.f95, _, [0, 2, 3], Go.Proofs.Tryz.func95, rfl, by kernel_rfl, by kernel_rfl, by decide, by kernel_rfl, by kernel_rfl⟩
theorem fc_DescribeQuorumResponseTopicPartitionReplicaState : FOk Go.Proofs.Tryz.prog 121 3 (cTagFn NS) [] := ⟨Go.Proofs.Tryz.f121, _, [0, 1, 2], Go.Proofs.Tryz.func121, rfl, by kernel_rfl, by kernel_rfl, by decide, by kernel_rfl, by kernel_rfl⟩
theorem tl_DescribeQuorumResponseTopicPartitionReplicaState : TellP Go.Proofs.Tryz.prog 95 0 rDescribeQuorumResponseTopicPartitionReplicaState := tellP baseS fnsS implT tellN (tf := tf) (Tt := 125) (idx0 := 0) ft_DescribeQuorumResponseTopicPartitionReplicaState (fun _ => fc_DescribeQuorumResponseTopicPartitionReplicaState) ⟨trivial, ⟨(show NS.zaz ≠ 0 by decide), ⟨trivial, ⟨trivial, ⟨trivial, trivial⟩⟩⟩⟩⟩ (Fds.ok_of (fx := true) (Tt := 125) (idx := 0) (off := 0) baseS fnsS rDescribeQuorumResponseTopicPartitionReplicaState (by kernel_rfl) ⟨trivial, ⟨trivial, ⟨trivial, ⟨trivial, ⟨trivial, trivial⟩⟩⟩⟩⟩).2.1 (by decide)

def rDescribeQuorumResponseTopicPartition : Fds := .cons .all (.pr .i32 none) (.cons .all (.pr .i16 none) (.cons (.ge 2) (.txt .nstr) (.cons .all (.pr .i32 none) (.cons .all (.pr .i32 none) (.cons .all (.pr .i64 none) (.cons .all (.arr 120 none (.row 125 123 71 (.cons .all (.pr .i32 none) (.cons (.ge 2) (.pr .uuid none) (.cons .all (.pr .i64 none) (.cons (.ge 1) (.pr .i64 (some (.int .i64 (-1)))) (.cons (.ge 1) (.pr .i64 (some (.int .i64 (-1)))) (.tags)))))))) (.cons .all (.arr 120 none (.row 125 123 71 (.cons .all (.pr .i32 none) (.cons (.ge 2) (.pr .uuid none) (.cons .all (.pr .i64 none) (.cons (.ge 1) (.pr .i64 (some (.int .i64 (-1)))) (.cons (.ge 1) (.pr .i64 (some (.int .i64 (-1)))) (.tags)))))))) (.tags))))))))
theorem df_DescribeQuorumResponseTopicPartition : FOk Go.Proofs.Tryz.prog 70 1 (seqs (rDescribeQuorumResponseTopicPartition.dfl NS 122 0)) [] := ⟨Go.Proofs.Tryz.f70, _, [0], Go.Proofs.Tryz.func70, rfl, by kernel_rfl, by kernel_rfl, by decide, by kernel_rfl, by kernel_rfl⟩
theorem ft_DescribeQuorumResponseTopicPartition : FOk Go.Proofs.Tryz.prog 75 1 (tellC NS tf 122 0 96 rDescribeQuorumResponseTopicPartition) [.cell 1 NS.zj] := ⟨Go.Proofs.Tryz.f75, _, [0, 2, 3, 73, 74, 75, 4, 78, 90, 91, 93, 129, 130, 131, 5, 134, 146, 147, 149], Go.Proofs.Tryz.func75, rfl, by kernel_rfl, by kernel_rfl, by decide, by kernel_rfl, by kernel_rfl⟩
theorem fc_DescribeQuorumResponseTopicPartition : FOk Go.Proofs.Tryz.prog 96 3 (cTagFn NS) [] := ⟨Go.Proofs.Tryz.f96, _, [0, 1, 2], Go.Proofs.Tryz.func96, rfl, by kernel_rfl, by kernel_rfl, by decide, by kernel_rfl, by kernel_rfl⟩
theorem tl_DescribeQuorumResponseTopicPartition : TellP Go.Proofs.Tryz.prog 75 0 rDescribeQuorumResponseTopicPartition := tellP baseS fnsS implT tellN (tf := tf) (Tt := 122) (idx0 := 0) ft_DescribeQuorumResponseTopicPartition (fun _ => fc_DescribeQuorumResponseTopicPartition) ⟨trivial, ⟨trivial, ⟨⟨by decide, by decide⟩, ⟨trivial, ⟨trivial, ⟨trivial, ⟨⟨zfx (by kernel_rfl), el_ti (fx := true) baseS fnsS _ (by kernel_rfl) ⟨df_DescribeQuorumResponseTopicPartitionReplicaState, ⟨trivial, ⟨trivial, ⟨trivial, ⟨trivial, ⟨trivial, trivial⟩⟩⟩⟩⟩⟩, tl_DescribeQuorumResponseTopicPartitionReplicaState⟩, ⟨⟨zfx (by kernel_rfl), el_ti (fx := true) baseS fnsS _ (by kernel_rfl) ⟨df_DescribeQuorumResponseTopicPartitionReplicaState, ⟨trivial, ⟨trivial, ⟨trivial, ⟨trivial, ⟨trivial, trivial⟩⟩⟩⟩⟩⟩, tl_DescribeQuorumResponseTopicPartitionReplicaState⟩, trivial⟩⟩⟩⟩⟩⟩⟩⟩ (Fds.ok_of (fx := true) (Tt := 122) (idx := 0) (off := 0) baseS fnsS rDescribeQuorumResponseTopicPartition (by kernel_rfl) ⟨trivial, ⟨trivial, ⟨trivial, ⟨trivial, ⟨trivial, ⟨trivial, ⟨⟨df_DescribeQuorumResponseTopicPartitionReplicaState, ⟨trivial, ⟨trivial, ⟨trivial, ⟨trivial, ⟨trivial, trivial⟩⟩⟩⟩⟩⟩, ⟨⟨df_DescribeQuorumResponseTopicPartitionReplicaState, ⟨trivial, ⟨trivial, ⟨trivial, ⟨trivial, ⟨trivial, trivial⟩⟩⟩⟩⟩⟩, trivial⟩⟩⟩⟩⟩⟩⟩⟩).2.1 (by decide)

def rDescribeQuorumResponseTopic : Fds := .cons .all (.txt .str) (.cons .all (.arr 84 none (.row 122 119 70 (.cons .all (.pr .i32 none) (.cons .all (.pr .i16 none) (.cons (.ge 2) (.txt .nstr) (.cons .all (.pr .i32 none) (.cons .all (.pr .i32 none) (.cons .all (.pr .i64 none) (.cons .all (.arr 120 none (.row 125 123 71 (.cons .all (.pr .i32 none) (.cons (.ge 2) (.pr .uuid none) (.cons .all (.pr .i64 none) (.cons (.ge 1) (.pr .i64 (some (.int .i64 (-1)))) (.cons (.ge 1) (.pr .i64 (some (.int .i64 (-1)))) (.tags)))))))) (.cons .all (.arr 120 none (.row 125 123 71 (.cons .all (.pr .i32 none) (.cons (.ge 2) (.pr .uuid none) (.cons .all (.pr .i64 none) (.cons (.ge 1) (.pr .i64 (some (.int .i64 (-1)))) (.cons (.ge 1) (.pr .i64 (some (.int .i64 (-1)))) (.tags)))))))) (.tags))))))))))) (.tags))
theorem df_DescribeQuorumResponseTopic : FOk Go.Proofs.Tryz.prog 69 1 (seqs (rDescribeQuorumResponseTopic.dfl NS 86 0)) [] := ⟨Go.Proofs.Tryz.f69, _, [0], Go.Proofs.Tryz.func69, rfl, by kernel_rfl, by kernel_rfl, by decide, by kernel_rfl, by kernel_rfl⟩
theorem ft_DescribeQuorumResponseTopic : FOk Go.Proofs.Tryz.prog 37 1 (tellC NS tf 86 0 76 rDescribeQuorumResponseTopic) [.cell 1 NS.zj] := ⟨Go.Proofs.Tryz.f37, _, [0, 2, 3, 29, 30, 31, 4, 34, 46, 47, 49], Go.Proofs.Tryz.func37, rfl, by kernel_rfl, by kernel_rfl, by decide, by kernel_rfl, by kernel_rfl⟩
theorem fc_DescribeQuorumResponseTopic : FOk Go.Proofs.Tryz.prog 76 3 (cTagFn NS) [] := ⟨Go.Proofs.Tryz.f76, _, [0, 1, 2], Go.Proofs.Tryz.func76, rfl, by kernel_rfl, by kernel_rfl, by decide, by kernel_rfl, by kernel_rfl⟩
theorem tl_DescribeQuorumResponseTopic : TellP Go.Proofs.Tryz.prog 37 0 rDescribeQuorumResponseTopic := tellP baseS fnsS implT tellN (tf := tf) (Tt := 86) (idx0 := 0) ft_DescribeQuorumResponseTopic (fun _ => fc_DescribeQuorumResponseTopic) ⟨trivial, ⟨⟨zfx (by kernel_rfl), el_ti (fx := true) baseS fnsS _ (by kernel_rfl) ⟨df_DescribeQuorumResponseTopicPartition, ⟨trivial, ⟨trivial, ⟨trivial, ⟨trivial, ⟨trivial, ⟨trivial, ⟨⟨df_DescribeQuorumResponseTopicPartitionReplicaState, ⟨trivial, ⟨trivial, ⟨trivial, ⟨trivial, ⟨trivial, trivial⟩⟩⟩⟩⟩⟩, ⟨⟨df_DescribeQuorumResponseTopicPartitionReplicaState, ⟨trivial, ⟨trivial, ⟨trivial, ⟨trivial, ⟨trivial, trivial⟩⟩⟩⟩⟩⟩, trivial⟩⟩⟩⟩⟩⟩⟩⟩⟩, tl_DescribeQuorumResponseTopicPartition⟩, trivial⟩⟩ (Fds.ok_of (fx := true) (Tt := 86) (idx := 0) (off := 0) baseS fnsS rDescribeQuorumResponseTopic (by kernel_rfl) ⟨trivial, ⟨⟨df_DescribeQuorumResponseTopicPartition, ⟨trivial, ⟨trivial, ⟨trivial, ⟨trivial, ⟨trivial, ⟨trivial, ⟨⟨df_DescribeQuorumResponseTopicPartitionReplicaState, ⟨trivial, ⟨trivial, ⟨trivial, ⟨trivial, ⟨trivial, trivial⟩⟩⟩⟩⟩⟩, ⟨⟨df_DescribeQuorumResponseTopicPartitionReplicaState, ⟨trivial, ⟨trivial, ⟨trivial, ⟨trivial, ⟨trivial, trivial⟩⟩⟩⟩⟩⟩, trivial⟩⟩⟩⟩⟩⟩⟩⟩⟩, trivial⟩⟩).2.1 (by decide)

def rDescribeQuorumResponseNodeListener : Fds := .cons .all (.txt .str) (.cons .all (.txt .str) (.cons .all (.pr .u16 none) (.tags)))
theorem df_DescribeQuorumResponseNodeListener : FOk Go.Proofs.Tryz.prog 73 1 (seqs (rDescribeQuorumResponseNodeListener.dfl NS 129 0)) [] := ⟨Go.Proofs.Tryz.f73, _, [0], Go.Proofs.Tryz.func73, rfl, by kernel_rfl, by kernel_rfl, by decide, by kernel_rfl, by kernel_rfl⟩
theorem ft_DescribeQuorumResponseNodeListener : FOk Go.Proofs.Tryz.prog 77 1 (tellC NS tf 129 0 97 rDescribeQuorumResponseNodeListener) [.cell 1 NS.zj] := ⟨Go.Proofs.Tryz.f77, _, [0, 2, 3], Go.Proofs.Tryz.func77, rfl, by kernel_rfl, by kernel_rfl, by decide, by kernel_rfl, by kernel_rfl⟩
theorem fc_DescribeQuorumResponseNodeListener : FOk Go.Proofs.Tryz.prog 97 3 (cTagFn NS) [] := ⟨Go.Proofs.Tryz.f97, _, [0, 1, 2], Go.Proofs.Tryz.func97, rfl, by kernel_rfl, by kernel_rfl, by decide, by kernel_rfl, by kernel_rfl⟩
theorem tl_DescribeQuorumResponseNodeListener : TellP Go.Proofs.Tryz.prog 77 0 rDescribeQuorumResponseNodeListener := tellP baseS fnsS implT tellN (tf := tf) (Tt := 129) (idx0 := 0) ft_DescribeQuorumResponseNodeListener (fun _ => fc_DescribeQuorumResponseNodeListener) ⟨trivial, ⟨trivial, ⟨trivial, trivial⟩⟩⟩ (Fds.ok_of (fx := true) (Tt := 129) (idx := 0) (off := 0) baseS fnsS rDescribeQuorumResponseNodeListener (by kernel_rfl) ⟨trivial, ⟨trivial, ⟨trivial, trivial⟩⟩⟩).2.1 (by decide)

def rDescribeQuorumResponseNode : Fds := .cons .all (.pr .i32 none) (.cons .all (.arr 89 none (.row 129 126 73 (.cons .all (.txt .str) (.cons .all (.txt .str) (.cons .all (.pr .u16 none) (.tags)))))) (.tags))
theorem df_DescribeQuorumResponseNode : FOk Go.Proofs.Tryz.prog 72 1 (seqs (rDescribeQuorumResponseNode.dfl NS 91 0)) [] := ⟨Go.Proofs.Tryz.f72, _, [0], Go.Proofs.Tryz.func72, rfl, by kernel_rfl, by kernel_rfl, by decide, by kernel_rfl, by kernel_rfl⟩
theorem ft_DescribeQuorumResponseNode : FOk Go.Proofs.Tryz.prog 38 1 (tellC NS tf 91 0 78 rDescribeQuorumResponseNode) [.cell 1 NS.zj] := ⟨Go.Proofs.Tryz.f38, _, [0, 2, 3, 29, 30, 31, 4, 34, 46, 47, 49], Go.Proofs.Tryz.func38, rfl, by kernel_rfl, by kernel_rfl, by decide, by kernel_rfl, by kernel_rfl⟩
theorem fc_DescribeQuorumResponseNode : FOk Go.Proofs.Tryz.prog 78 3 (cTagFn NS) [] := ⟨Go.Proofs.Tryz.f78, _, [0, 1, 2], Go.Proofs.Tryz.func78, rfl, by kernel_rfl, by kernel_rfl, by decide, by kernel_rfl, by kernel_rfl⟩
theorem tl_DescribeQuorumResponseNode : TellP Go.Proofs.Tryz.prog 38 0 rDescribeQuorumResponseNode := tellP baseS fnsS implT tellN (tf := tf) (Tt := 91) (idx0 := 0) ft_DescribeQuorumResponseNode (fun _ => fc_DescribeQuorumResponseNode) ⟨trivial, ⟨⟨zfx (by kernel_rfl), el_ti (fx := true) baseS fnsS _ (by kernel_rfl) ⟨df_DescribeQuorumResponseNodeListener, ⟨trivial, ⟨trivial, ⟨trivial, trivial⟩⟩⟩⟩, tl_DescribeQuorumResponseNodeListener⟩, trivial⟩⟩ (Fds.ok_of (fx := true) (Tt := 91) (idx := 0) (off := 0) baseS fnsS rDescribeQuorumResponseNode (by kernel_rfl) ⟨trivial, ⟨⟨df_DescribeQuorumResponseNodeListener, ⟨trivial, ⟨trivial, ⟨trivial, trivial⟩⟩⟩⟩, trivial⟩⟩).2.1 (by decide)

def mS : Msg := ⟨81, 52, 35, 0, false, .cons .all (.pr .i16 none) (.cons (.ge 2) (.txt .nstr) (.cons .all (.arr 78 none (.row 86 83 69 (.cons .all (.txt .str) (.cons .all (.arr 84 none (.row 122 119 70 (.cons .all (.pr .i32 none) (.cons .all (.pr .i16 none) (.cons (.ge 2) (.txt .nstr) (.cons .all (.pr .i32 none) (.cons .all (.pr .i32 none) (.cons .all (.pr .i64 none) (.cons .all (.arr 120 none (.row 125 123 71 (.cons .all (.pr .i32 none) (.cons (.ge 2) (.pr .uuid none) (.cons .all (.pr .i64 none) (.cons (.ge 1) (.pr .i64 (some (.int .i64 (-1)))) (.cons (.ge 1) (.pr .i64 (some (.int .i64 (-1)))) (.tags)))))))) (.cons .all (.arr 120 none (.row 125 123 71 (.cons .all (.pr .i32 none) (.cons (.ge 2) (.pr .uuid none) (.cons .all (.pr .i64 none) (.cons (.ge 1) (.pr .i64 (some (.int .i64 (-1)))) (.cons (.ge 1) (.pr .i64 (some (.int .i64 (-1)))) (.tags)))))))) (.tags))))))))))) (.tags))))) (.cons (.ge 2) (.arr 79 none (.row 91 88 72 (.cons .all (.pr .i32 none) (.cons .all (.arr 89 none (.row 129 126 73 (.cons .all (.txt .str) (.cons .all (.txt .str) (.cons .all (.pr .u16 none) (.tags)))))) (.tags))))) (.tags))))⟩
def dS : zph where
  newP := 21
  setV := 23
  maxV := 22
  readF := 24
  unsF := 26
  readf := 36
  tell := 25
  maxI := 11
  tellI := 12
  unsI := 13
theorem rd_m : FOk Go.Proofs.Tryz.prog 36 3 (mS.gen NS true) [.var 3] := ⟨Go.Proofs.Tryz.f36, _, [0, 1, 2, 6, 7, 8, 9, 10, 11, 89, 12, 90, 91, 94, 13, 14, 15, 106, 110, 115, 16, 121, 17, 18, 19, 130, 131, 134, 20, 21, 22, 146, 150, 155, 23, 161, 24, 25, 26, 27, 181, 28, 182, 183, 186, 29, 30, 31, 32, 33, 34, 213, 217, 222, 35, 228, 36, 37, 38, 243, 39, 40, 255, 41, 262, 42, 268, 43, 44, 45, 283, 287, 292, 46, 298, 47, 48, 49, 313, 50, 51, 325, 52, 332, 53, 338, 348, 358, 369, 54, 55, 56, 375, 379, 384, 57, 390, 58, 59, 60, 61, 62, 63, 409, 413, 418, 64, 424, 65, 66, 67, 433, 434, 437, 68, 444, 445, 448, 69, 460, 470, 480], Go.Proofs.Tryz.func36, rfl, by kernel_rfl, by kernel_rfl, by decide, by kernel_rfl, by kernel_rfl⟩
theorem df_m : FOk Go.Proofs.Tryz.prog 35 1 (seqs (mS.fs.dfl NS mS.tT 1)) [] := ⟨Go.Proofs.Tryz.f35, _, [0], Go.Proofs.Tryz.func35, rfl, by kernel_rfl, by kernel_rfl, by decide, by kernel_rfl, by kernel_rfl⟩
theorem mt : MsgT Go.Proofs.Tryz.prog NS mS true := msgT_of baseS fnsS (by kernel_rfl) (by kernel_rfl) (by kernel_rfl) ⟨trivial, ⟨trivial, ⟨⟨df_DescribeQuorumResponseTopic, ⟨trivial, ⟨⟨df_DescribeQuorumResponseTopicPartition, ⟨trivial, ⟨trivial, ⟨trivial, ⟨trivial, ⟨trivial, ⟨trivial, ⟨⟨df_DescribeQuorumResponseTopicPartitionReplicaState, ⟨trivial, ⟨trivial, ⟨trivial, ⟨trivial, ⟨trivial, trivial⟩⟩⟩⟩⟩⟩, ⟨⟨df_DescribeQuorumResponseTopicPartitionReplicaState, ⟨trivial, ⟨trivial, ⟨trivial, ⟨trivial, ⟨trivial, trivial⟩⟩⟩⟩⟩⟩, trivial⟩⟩⟩⟩⟩⟩⟩⟩⟩, trivial⟩⟩⟩, ⟨⟨df_DescribeQuorumResponseNode, ⟨trivial, ⟨⟨df_DescribeQuorumResponseNodeListener, ⟨trivial, ⟨trivial, ⟨trivial, trivial⟩⟩⟩⟩, trivial⟩⟩⟩, trivial⟩⟩⟩⟩ df_m
theorem ft_DescribeQuorumResponse : FOk Go.Proofs.Tryz.prog 25 1 (tellC NS tf 81 1 39 mS.fs) [.cell 1 NS.zj] := ⟨Go.Proofs.Tryz.f25, _, [0, 2, 3, 38, 39, 40, 4, 43, 55, 56, 58, 94, 95, 96, 5, 99, 111, 112, 114], Go.Proofs.Tryz.func25, rfl, by kernel_rfl, by kernel_rfl, by decide, by kernel_rfl, by kernel_rfl⟩
theorem fc_DescribeQuorumResponse : FOk Go.Proofs.Tryz.prog 39 3 (cTagFn NS) [] := ⟨Go.Proofs.Tryz.f39, _, [0, 1, 2], Go.Proofs.Tryz.func39, rfl, by kernel_rfl, by kernel_rfl, by decide, by kernel_rfl, by kernel_rfl⟩
theorem tl_DescribeQuorumResponse : TellP Go.Proofs.Tryz.prog 25 1 mS.fs := tellP baseS fnsS implT tellN (tf := tf) (Tt := 81) (idx0 := 1) ft_DescribeQuorumResponse (fun _ => fc_DescribeQuorumResponse) ⟨trivial, ⟨⟨by decide, by decide⟩, ⟨⟨zfx (by kernel_rfl), el_ti (fx := true) baseS fnsS _ (by kernel_rfl) ⟨df_DescribeQuorumResponseTopic, ⟨trivial, ⟨⟨df_DescribeQuorumResponseTopicPartition, ⟨trivial, ⟨trivial, ⟨trivial, ⟨trivial, ⟨trivial, ⟨trivial, ⟨⟨df_DescribeQuorumResponseTopicPartitionReplicaState, ⟨trivial, ⟨trivial, ⟨trivial, ⟨trivial, ⟨trivial, trivial⟩⟩⟩⟩⟩⟩, ⟨⟨df_DescribeQuorumResponseTopicPartitionReplicaState, ⟨trivial, ⟨trivial, ⟨trivial, ⟨trivial, ⟨trivial, trivial⟩⟩⟩⟩⟩⟩, trivial⟩⟩⟩⟩⟩⟩⟩⟩⟩, trivial⟩⟩⟩, tl_DescribeQuorumResponseTopic⟩, ⟨⟨zfx (by kernel_rfl), el_ti (fx := true) baseS fnsS _ (by kernel_rfl) ⟨df_DescribeQuorumResponseNode, ⟨trivial, ⟨⟨df_DescribeQuorumResponseNodeListener, ⟨trivial, ⟨trivial, ⟨trivial, trivial⟩⟩⟩⟩, trivial⟩⟩⟩, tl_DescribeQuorumResponseNode⟩, trivial⟩⟩⟩⟩ mt.hf (by decide)
theorem fd_new : FOk Go.Proofs.Tryz.prog 21 0 (c_new NS mS.tT mS.dflt) [.var 0] := ⟨Go.Proofs.Tryz.f21, _, [0, 1], Go.Proofs.Tryz.func21, rfl, by kernel_rfl, by kernel_rfl, by decide, by kernel_rfl, by kernel_rfl⟩
theorem fd_set : FOk Go.Proofs.Tryz.prog 23 2 (c_set NS mS.tT) [] := ⟨Go.Proofs.Tryz.f23, _, [0, 1], Go.Proofs.Tryz.func23, rfl, by kernel_rfl, by kernel_rfl, by decide, by kernel_rfl, by kernel_rfl⟩
theorem door : zrx Go.Proofs.Tryz.prog NS mS true dS where
  msg := mt
  vin := rfl
  ti := (tsB_ok (by' := bytesOf Go.Proofs.Tryz.prog 81) (by kernel_rfl)).imp fun _ h => ⟨_, h⟩
  newP := fd_new
  setV := fd_set
  readf := rd_m
  tell := fun _ => tl_DescribeQuorumResponse
  dok := ⟨⟨_, rfl, by decide⟩, ⟨⟨⟨⟨_, rfl, by decide⟩, ⟨⟨_, rfl, by decide⟩, ⟨⟨_, rfl, by decide⟩, ⟨⟨_, rfl, by decide⟩, ⟨⟨_, rfl, by decide⟩, ⟨⟨⟨_, rfl, by decide⟩, ⟨⟨List.replicate 16 0, rfl, rfl⟩, ⟨⟨_, rfl, by decide⟩, ⟨⟨_, rfl, by decide⟩, ⟨⟨_, rfl, by decide⟩, trivial⟩⟩⟩⟩⟩, ⟨⟨⟨_, rfl, by decide⟩, ⟨⟨List.replicate 16 0, rfl, rfl⟩, ⟨⟨_, rfl, by decide⟩, ⟨⟨_, rfl, by decide⟩, ⟨⟨_, rfl, by decide⟩, trivial⟩⟩⟩⟩⟩, trivial⟩⟩⟩⟩⟩⟩⟩, trivial⟩, ⟨⟨⟨_, rfl, by decide⟩, ⟨⟨⟨_, rfl, by decide⟩, trivial⟩, trivial⟩⟩, trivial⟩⟩⟩
  shB := by kernel_rfl
  cnt := by decide
theorem fd_rf : FOk Go.Proofs.Tryz.prog 24 2 (c_rf NS mS.pT 36 false) [.var 2] := ⟨Go.Proofs.Tryz.f24, _, [0, 1, 4], Go.Proofs.Tryz.func24, rfl, by kernel_rfl, by kernel_rfl, by decide, by kernel_rfl, by kernel_rfl⟩
theorem fd_uf : FOk Go.Proofs.Tryz.prog 26 2 (c_rf NS mS.pT 36 true) [.var 2] := ⟨Go.Proofs.Tryz.f26, _, [0, 1, 4], Go.Proofs.Tryz.func26, rfl, by kernel_rfl, by kernel_rfl, by decide, by kernel_rfl, by kernel_rfl⟩
theorem fd_mv : FOk Go.Proofs.Tryz.prog 22 1 (c_max 2) [.var 1] := ⟨Go.Proofs.Tryz.f22, _, [0, 2], Go.Proofs.Tryz.func22, rfl, by kernel_rfl, by kernel_rfl, by decide, by kernel_rfl, by kernel_rfl⟩
theorem fd_mi : FOk Go.Proofs.Tryz.prog 11 0 (c_maxI NS mS.pT 21 22) [.var 0] := ⟨Go.Proofs.Tryz.f11, _, [0], Go.Proofs.Tryz.func11, rfl, by kernel_rfl, by kernel_rfl, by decide, by kernel_rfl, by kernel_rfl⟩
theorem fd_tellI : FOk Go.Proofs.Tryz.prog 12 2 (c_door NS mS.pT 21 23 24 25) [.cell 2 NS.zj, .var 3] := ⟨Go.Proofs.Tryz.f12, _, [0, 1, 4, 5, 6, 16], Go.Proofs.Tryz.func12, rfl, by kernel_rfl, by kernel_rfl, by decide, by kernel_rfl, by kernel_rfl⟩
theorem fd_unsI : FOk Go.Proofs.Tryz.prog 13 2 (c_door NS mS.pT 21 23 26 25) [.cell 2 NS.zj, .var 3] := ⟨Go.Proofs.Tryz.f13, _, [0, 1, 4, 5, 6, 16], Go.Proofs.Tryz.func13, rfl, by kernel_rfl, by kernel_rfl, by decide, by kernel_rfl, by kernel_rfl⟩
theorem lawT : LawT Go.Proofs.Tryz.prog NS mS true dS 2 := ⟨door, fd_rf, fd_uf, fd_mv, fd_mi, fd_tellI, fd_unsI, by decide, by decide, by decide⟩
theorem fd_law : FOk Go.Proofs.Tryz.prog 4 2 (c_lawU NS 28 dS.maxI dS.tellI dS.unsI 1000) [.var 2] := ⟨Go.Proofs.Tryz.f4, _, [0, 1, 4, 12, 5, 15, 18, 6, 7, 8, 9], Go.Proofs.Tryz.func4, rfl, by kernel_rfl, by kernel_rfl, by decide, by kernel_rfl, by kernel_rfl⟩
end Go.Kf

namespace Go.Proofs.YtdlfgheckhmgiaaGreatDoor.fnUnsafeDescribeQuorumResponse
open Go.ChangeShapes Go.WideShapes Go.ChangeAt Go.RowKit Go.Kf

set_option maxHeartbeats 4000000 in
theorem lifted (os : Os) (started : os.Started) (H : Type) (enc : TypeId × Value → H) :
    ReturnsInHanded {} Go.Proofs.Tryz.checked os 4 .any (fun w args => (Rows.fnUnsafeDescribeQuorumResponseSpec.pre enc Go.Proofs.Tryz.prog Go.Proofs.Tryz.f4 [] false w args ∧ laidMetH Go.Proofs.Tryz.prog Rows.fnUnsafeDescribeQuorumResponseRow.laid w) ∧ sizedMet enc Go.Proofs.Tryz.prog Go.Proofs.Tryz.f4 (OpenSpec.ofChange Rows.fnUnsafeDescribeQuorumResponseSpec) false w args)
      (Rows.fnUnsafeDescribeQuorumResponseSpec.post enc Go.Proofs.Tryz.prog Go.Proofs.Tryz.f4 false true false false) := by
  refine returnsInHanded_of_change_and (C := Go.Proofs.Tryz.checked) (X := fun w _ => laidMetH Go.Proofs.Tryz.prog Rows.fnUnsafeDescribeQuorumResponseRow.laid w) (fun _ _ _ hh h => h.of_heap hh) own started (by kernel_rfl) Go.Proofs.Tryz.func4
    (ChangeSpec.witness_shaped (enc := enc) (C := Go.Proofs.Tryz.checked) (os := os) (X := fun w _ => laidMetH Go.Proofs.Tryz.prog Rows.fnUnsafeDescribeQuorumResponseRow.laid w) false (World.doorLaid Go.Proofs.Tryz.prog 400 os) #[.int .u8 0, .slice none 0 0] 8 rfl (shaped os _) (by kernel_rfl) (by kernel_rfl) (by kernel_rfl) (door_met os _)) ?_
  intro W base args ds gs before hval0 hW _ _ hL _
  have hval : ∀ (j : Nat) t v, Go.Proofs.Tryz.f4.params[j]? = some t → args[j]? = some v → Value.okWide Go.Proofs.Tryz.prog W .any base t v := hval0
  have hW' := hW
  obtain ⟨p, q, hA0, hV, rfl, hfz, hnd⟩ := hW
  have hA : DataW.TrodAll enc Go.Proofs.Tryz.prog W 0 (fun _ => true) true Go.Proofs.Tryz.f4.params.toList args.toList ds p := hA0
  rw [Go.Proofs.Tryz.params4] at hA hval
  obtain ⟨v0, vs0, d0, ds0, p0, q0, hargs, rfl, rfl, h0, r0⟩ := trodAll_cons hA
  obtain ⟨v1, vs1, d1, ds1, p1, q1, rfl, rfl, rfl, h1, r1⟩ := trodAll_cons r0
  obtain ⟨rfl, rfl, rfl⟩ := trodAll_nil r1
  obtain rfl : args = #[v0, v1] := by cases args; simp_all
  obtain ⟨rfl, rfl⟩ := trodVars_none hV
  obtain ⟨n0, rfl, rfl, rfl, w0⟩ := open_int Go.Proofs.Tryz.underlying5 (hval 0 5 v0 rfl rfl) h0
  obtain ⟨l, ha⟩ := argOct_of Go.Proofs.Tryz.underlying22 Go.Proofs.Tryz.underlying5 (by kernel_rfl) (hval 1 22 v1 rfl rfl) h1
  have lt1 : ∀ x ∈ p1, x.block < W.heap.size := by obtain ⟨m, hm⟩ := h1; exact DataW.trod_lt m _ _ _ hm
  rw [MakeChecks.laidMetH_plain _ _ _ (by kernel_rfl)] at hL
  obtain ⟨a1, s1, hv1, _⟩ := laid_sentinel hL gO gT Go.Proofs.Tryz.underlying44 rowP Go.Proofs.Tryz.underlying182 Go.Proofs.Tryz.underlying200 rfl rfl Go.Proofs.Tryz.underlying9 cS cStr
  have hg : W.cell? ⟨1, 0, none⟩ = some (.iface 182 (.pointer (some a1))) := by simpa using World.var?_cell gO hv1 0
  clear hA0 hval0
  refine Calls.mono (call_lawU baseS fnsS implT specT (by decide) (by decide) (by decide) lawT fd_law (n := n0) ha hg) fun e W' ⟨v', he, hv', hm⟩ => ?_
  subst he hv'
  have bel := hm.below
  exact ⟨_, rfl, _, _, _, [], _, [], hW', trodAll_mk1 (shut_bool Go.Proofs.Tryz.underlying4 _), trodAll_cons_mk (shut_int Go.Proofs.Tryz.underlying5 w0) (trodAll_cons_mk (Below.trod laidOut (by kernel_rfl) (of_decide_eq_true (by kernel_rfl)) h1 bel lt1) trodAll_mk0), rfl, bel.frame _, fun h => by cases h⟩

set_option maxHeartbeats 4000000 in
theorem joined : joinedFacts Go.Proofs.Tryz.prog 4 Go.Proofs.Tryz.f4 Rows.fnUnsafeDescribeQuorumResponseSpec Rows.fnUnsafeDescribeQuorumResponseRow = true := by
  unfold joinedFacts
  exact bandT (bandT (bandT (bandT (bandT (bandT (bandT (bandT (bandT (bandT (bandT (bandT (bandT (bandT (bandT (bandT (bandT (bandT (bandT (bandT (bandT (bandT (bandT (bandT (bandT (bandT (bandT (bandT (bandT (bandT (bandT (by as_aux_lemma => kernel_rfl) laidOut) mapsRowedS) (by as_aux_lemma => kernel_rfl)) (by as_aux_lemma => kernel_rfl)) (by as_aux_lemma => kernel_rfl)) (by as_aux_lemma => kernel_rfl)) (by as_aux_lemma => kernel_rfl)) (by as_aux_lemma => kernel_rfl)) (by as_aux_lemma => kernel_rfl)) (by as_aux_lemma => kernel_rfl)) (by as_aux_lemma => kernel_rfl)) (by as_aux_lemma => kernel_rfl)) (by as_aux_lemma => kernel_rfl)) (by as_aux_lemma => kernel_rfl)) (by as_aux_lemma => kernel_rfl)) (by as_aux_lemma => kernel_rfl)) (by as_aux_lemma => kernel_rfl)) (by as_aux_lemma => kernel_rfl)) (by as_aux_lemma => kernel_rfl)) (by as_aux_lemma => kernel_rfl)) (by as_aux_lemma => kernel_rfl)) plainKeysS) (by as_aux_lemma => kernel_rfl)) stopsHeardS) bigEnter) bigLifts) bigMake) (by as_aux_lemma => kernel_rfl)) (by as_aux_lemma => kernel_rfl)) (by as_aux_lemma => kernel_rfl)) (by as_aux_lemma => kernel_rfl)
theorem named : Go.Proofs.Tryz.prog.funcNamed Rows.fnUnsafeDescribeQuorumResponseRow.func = some 4 := by kernel_rfl
theorem isInst : Go.Proofs.Tryz.f4.isInstance Go.Proofs.Tryz.prog Rows.fnUnsafeDescribeQuorumResponseRow.origin Rows.fnUnsafeDescribeQuorumResponseRow.targs := of_decide_eq_true (by kernel_rfl)
theorem isWrap : Go.Proofs.Tryz.f4.isWrapper Go.Proofs.Tryz.prog Rows.fnUnsafeDescribeQuorumResponseRow.wrapper Rows.fnUnsafeDescribeQuorumResponseRow.mainSum := by unfold Func.isWrapper; first | (rw [if_pos (by decide +kernel)]; kernel_rfl) | (rw [if_neg (by decide +kernel)]; exact ⟨rfl, rfl⟩)
theorem row : Rows.FnUnsafeDescribeQuorumResponseSaid :=
  OpenClaim.holds_of_wide 4 Go.Proofs.Tryz.f4 rfl rfl rfl rfl rfl rfl rfl ⟨rfl, rfl, rfl, rfl, rfl⟩ rfl rfl rfl rfl rfl named Go.Proofs.Tryz.func4 joined
    isInst isWrap
    (fun os started H enc _ => lifted os started H enc)
end Go.Proofs.YtdlfgheckhmgiaaGreatDoor.fnUnsafeDescribeQuorumResponse

namespace Go.Proofs.YtdlfgheckhmgiaaGreatDoor
open Go.Kf
set_option maxHeartbeats 4000000 in
theorem fnUnsafeDescribeQuorumResponse_card : Rows.FnUnsafeDescribeQuorumResponseCardSaid :=
  Claim7.holds_tied_plain_at .later [] [.sentinel] true Rows.fnUnsafeDescribeQuorumResponseCard.stood.harness false
    fnUnsafeDescribeQuorumResponse.row (fun _ h => by cases h) (by as_aux_lemma => kernel_rfl) (fun _ h => by cases h) fnUnsafeDescribeQuorumResponse_row_tie rfl ⟨rfl, rfl⟩ mainS rfl
    (fun f fn hf hfn => by
      obtain rfl : f = 4 := Option.some.inj (fnUnsafeDescribeQuorumResponse.named.symm.trans hf) |>.symm
      obtain rfl : fn = Go.Proofs.Tryz.f4 := (Option.some.inj (Go.Proofs.Tryz.func4.symm.trans hfn)).symm
      refine ⟨looksS, fun j t ht => ?_⟩
      rw [Go.Proofs.Tryz.params4] at ht
      rcases j with _ | _ | j
      · obtain rfl : 5 = t := by simpa using ht
        exact (show Go.Proofs.Tryz.prog.wantsStandIn 5 = false by kernel_rfl)
      · obtain rfl : 22 = t := by simpa using ht
        exact (show Go.Proofs.Tryz.prog.wantsStandIn 22 = false by kernel_rfl)
      · simp at ht)
    (by as_aux_lemma => kernel_rfl)
#print axioms fnUnsafeDescribeQuorumResponse_card
end Go.Proofs.YtdlfgheckhmgiaaGreatDoor
