/- Both ways of reading tell the same of any octets as a ShareFetchResponse (laws.FnUnsafeShareFetchResponse): the tied card is proved, at every version number and all octets; no other condition. -/
import Derived.Test.YtdlfgheckhmgiaaGreatDoorKs
set_option linter.unusedSimpArgs false
set_option linter.unusedVariables false
set_option maxRecDepth 100000
namespace Go.Kf
open Go

def tf : TypeId → FuncId × FuncId := fun | 101 => (86, 100) | 111 => (88, 101) | 104 => (64, 89) | 70 => (30, 65) | 74 => (31, 66) | _ => (0, 0)

def rShareFetchResponseTopicPartitionCurrentLeader : Fds := .cons .all (.pr .i32 none) (.cons .all (.pr .i32 none) (.tags))
theorem df_ShareFetchResponseTopicPartitionCurrentLeader : FOk Go.Proofs.Tryz.prog 53 1 (seqs (rShareFetchResponseTopicPartitionCurrentLeader.dfl NS 101 0)) [] := ⟨Go.Proofs.Tryz.f53, _, [0], Go.Proofs.Tryz.func53, rfl, by kernel_rfl, by kernel_rfl, by decide, by kernel_rfl, by kernel_rfl⟩
theorem ft_ShareFetchResponseTopicPartitionCurrentLeader : FOk Go.Proofs.Tryz.prog 86 1 (tellC NS tf 101 0 100 rShareFetchResponseTopicPartitionCurrentLeader) [.cell 1 NS.zj] := ⟨Go.Proofs.Tryz.f86, _, [0, 2, 3], Go.Proofs.Tryz.func86, rfl, by kernel_rfl, by kernel_rfl, by decide, by kernel_rfl, by kernel_rfl⟩
theorem fc_ShareFetchResponseTopicPartitionCurrentLeader : FOk Go.Proofs.Tryz.prog 100 3 (cTagFn NS) [] := ⟨Go.Proofs.Tryz.f100, _, [0, 1, 2], Go.Proofs.Tryz.func100, rfl, by kernel_rfl, by kernel_rfl, by decide, by kernel_rfl, by kernel_rfl⟩
theorem tl_ShareFetchResponseTopicPartitionCurrentLeader : TellP Go.Proofs.Tryz.prog 86 0 rShareFetchResponseTopicPartitionCurrentLeader := tellP baseS fnsS implT tellN (tf := tf) (Tt := 101) (idx0 := 0) ft_ShareFetchResponseTopicPartitionCurrentLeader (fun _ => fc_ShareFetchResponseTopicPartitionCurrentLeader) ⟨trivial, ⟨trivial, trivial⟩⟩ (Fds.ok_of (fx := true) (Tt := 101) (idx := 0) (off := 0) baseS fnsS rShareFetchResponseTopicPartitionCurrentLeader (by kernel_rfl) ⟨trivial, ⟨trivial, trivial⟩⟩).2.1 (by decide)

def rShareFetchResponseTopicPartitionAcquiredRecord : Fds := .cons .all (.pr .i64 none) (.cons .all (.pr .i64 none) (.cons .all (.pr .i16 none) (.tags)))
theorem df_ShareFetchResponseTopicPartitionAcquiredRecord : FOk Go.Proofs.Tryz.prog 57 1 (seqs (rShareFetchResponseTopicPartitionAcquiredRecord.dfl NS 111 0)) [] := ⟨Go.Proofs.Tryz.f57, _, [0], Go.Proofs.Tryz.func57, rfl, by kernel_rfl, by kernel_rfl, by decide, by kernel_rfl, by kernel_rfl⟩
theorem ft_ShareFetchResponseTopicPartitionAcquiredRecord : FOk Go.Proofs.Tryz.prog 88 1 (tellC NS tf 111 0 101 rShareFetchResponseTopicPartitionAcquiredRecord) [.cell 1 NS.zj] := ⟨Go.Proofs.Tryz.f88, _, [0, 2, 3], Go.Proofs.Tryz.func88, rfl, by kernel_rfl, by kernel_rfl, by decide, by kernel_rfl, by kernel_rfl⟩
theorem fc_ShareFetchResponseTopicPartitionAcquiredRecord : FOk Go.Proofs.Tryz.prog 101 3 (cTagFn NS) [] := ⟨Go.Proofs.Tryz.f101, _, [0, 1, 2], Go.Proofs.Tryz.func101, rfl, by kernel_rfl, by kernel_rfl, by decide, by kernel_rfl, by kernel_rfl⟩
theorem tl_ShareFetchResponseTopicPartitionAcquiredRecord : TellP Go.Proofs.Tryz.prog 88 0 rShareFetchResponseTopicPartitionAcquiredRecord := tellP baseS fnsS implT tellN (tf := tf) (Tt := 111) (idx0 := 0) ft_ShareFetchResponseTopicPartitionAcquiredRecord (fun _ => fc_ShareFetchResponseTopicPartitionAcquiredRecord) ⟨trivial, ⟨trivial, ⟨trivial, trivial⟩⟩⟩ (Fds.ok_of (fx := true) (Tt := 111) (idx := 0) (off := 0) baseS fnsS rShareFetchResponseTopicPartitionAcquiredRecord (by kernel_rfl) ⟨trivial, ⟨trivial, ⟨trivial, trivial⟩⟩⟩).2.1 (by decide)

def rShareFetchResponseTopicPartition : Fds := .cons .all (.pr .i32 none) (.cons .all (.pr .i16 none) (.cons .all (.txt .nstr) (.cons .all (.pr .i16 none) (.cons .all (.txt .nstr) (.cons .all (.row 101 105 53 (.cons .all (.pr .i32 none) (.cons .all (.pr .i32 none) (.tags)))) (.cons .all (.txt .nbyt) (.cons .all (.arr 102 none (.row 111 109 57 (.cons .all (.pr .i64 none) (.cons .all (.pr .i64 none) (.cons .all (.pr .i16 none) (.tags)))))) (.tags))))))))
theorem df_ShareFetchResponseTopicPartition : FOk Go.Proofs.Tryz.prog 52 1 (seqs (rShareFetchResponseTopicPartition.dfl NS 104 0)) [] := ⟨Go.Proofs.Tryz.f52, _, [0, 2], Go.Proofs.Tryz.func52, rfl, by kernel_rfl, by kernel_rfl, by decide, by kernel_rfl, by kernel_rfl⟩
theorem ft_ShareFetchResponseTopicPartition : FOk Go.Proofs.Tryz.prog 64 1 (tellC NS tf 104 0 89 rShareFetchResponseTopicPartition) [.cell 1 NS.zj] := ⟨Go.Proofs.Tryz.f64, _, [0, 2, 3, 78, 79, 80, 4, 83, 95, 96, 98], Go.Proofs.Tryz.func64, rfl, by kernel_rfl, by kernel_rfl, by decide, by kernel_rfl, by kernel_rfl⟩
theorem fc_ShareFetchResponseTopicPartition : FOk Go.Proofs.Tryz.prog 89 3 (cTagFn NS) [] := ⟨Go.Proofs.Tryz.f89, _, [0, 1, 2], Go.Proofs.Tryz.func89, rfl, by kernel_rfl, by kernel_rfl, by decide, by kernel_rfl, by kernel_rfl⟩
theorem tl_ShareFetchResponseTopicPartition : TellP Go.Proofs.Tryz.prog 64 0 rShareFetchResponseTopicPartition := tellP baseS fnsS implT tellN (tf := tf) (Tt := 104) (idx0 := 0) ft_ShareFetchResponseTopicPartition (fun _ => fc_ShareFetchResponseTopicPartition) ⟨trivial, ⟨trivial, ⟨⟨by decide, by decide⟩, ⟨trivial, ⟨⟨by decide, by decide⟩, ⟨tl_ShareFetchResponseTopicPartitionCurrentLeader, ⟨(show NS.zee ≠ 0 by decide), ⟨⟨zfx (by kernel_rfl), el_ti (fx := true) baseS fnsS _ (by kernel_rfl) ⟨df_ShareFetchResponseTopicPartitionAcquiredRecord, ⟨trivial, ⟨trivial, ⟨trivial, trivial⟩⟩⟩⟩, tl_ShareFetchResponseTopicPartitionAcquiredRecord⟩, trivial⟩⟩⟩⟩⟩⟩⟩⟩ (Fds.ok_of (fx := true) (Tt := 104) (idx := 0) (off := 0) baseS fnsS rShareFetchResponseTopicPartition (by kernel_rfl) ⟨trivial, ⟨trivial, ⟨trivial, ⟨trivial, ⟨trivial, ⟨⟨df_ShareFetchResponseTopicPartitionCurrentLeader, ⟨trivial, ⟨trivial, trivial⟩⟩⟩, ⟨trivial, ⟨⟨df_ShareFetchResponseTopicPartitionAcquiredRecord, ⟨trivial, ⟨trivial, ⟨trivial, trivial⟩⟩⟩⟩, trivial⟩⟩⟩⟩⟩⟩⟩⟩).2.1 (by decide)

def rShareFetchResponseTopic : Fds := .cons .all (.pr .uuid none) (.cons .all (.arr 68 none (.row 104 99 52 (.cons .all (.pr .i32 none) (.cons .all (.pr .i16 none) (.cons .all (.txt .nstr) (.cons .all (.pr .i16 none) (.cons .all (.txt .nstr) (.cons .all (.row 101 105 53 (.cons .all (.pr .i32 none) (.cons .all (.pr .i32 none) (.tags)))) (.cons .all (.txt .nbyt) (.cons .all (.arr 102 none (.row 111 109 57 (.cons .all (.pr .i64 none) (.cons .all (.pr .i64 none) (.cons .all (.pr .i16 none) (.tags)))))) (.tags))))))))))) (.tags))
theorem df_ShareFetchResponseTopic : FOk Go.Proofs.Tryz.prog 50 1 (seqs (rShareFetchResponseTopic.dfl NS 70 0)) [] := ⟨Go.Proofs.Tryz.f50, _, [0], Go.Proofs.Tryz.func50, rfl, by kernel_rfl, by kernel_rfl, by decide, by kernel_rfl, by kernel_rfl⟩
theorem ft_ShareFetchResponseTopic : FOk Go.Proofs.Tryz.prog 30 1 (tellC NS tf 70 0 65 rShareFetchResponseTopic) [.cell 1 NS.zj] := ⟨Go.Proofs.Tryz.f30, _, [0, 2, 3, 29, 30, 31, 4, 34, 46, 47, 49], Go.Proofs.Tryz.func30, rfl, by kernel_rfl, by kernel_rfl, by decide, by kernel_rfl, by kernel_rfl⟩
theorem fc_ShareFetchResponseTopic : FOk Go.Proofs.Tryz.prog 65 3 (cTagFn NS) [] := ⟨Go.Proofs.Tryz.f65, _, [0, 1, 2], Go.Proofs.Tryz.func65, rfl, by kernel_rfl, by kernel_rfl, by decide, by kernel_rfl, by kernel_rfl⟩
theorem tl_ShareFetchResponseTopic : TellP Go.Proofs.Tryz.prog 30 0 rShareFetchResponseTopic := tellP baseS fnsS implT tellN (tf := tf) (Tt := 70) (idx0 := 0) ft_ShareFetchResponseTopic (fun _ => fc_ShareFetchResponseTopic) ⟨(show NS.zaz ≠ 0 by decide), ⟨⟨zfx (by kernel_rfl), el_ti (fx := true) baseS fnsS _ (by kernel_rfl) ⟨df_ShareFetchResponseTopicPartition, ⟨trivial, ⟨trivial, ⟨trivial, ⟨trivial, ⟨trivial, ⟨⟨df_ShareFetchResponseTopicPartitionCurrentLeader, ⟨trivial, ⟨trivial, trivial⟩⟩⟩, ⟨trivial, ⟨⟨df_ShareFetchResponseTopicPartitionAcquiredRecord, ⟨trivial, ⟨trivial, ⟨trivial, trivial⟩⟩⟩⟩, trivial⟩⟩⟩⟩⟩⟩⟩⟩⟩, tl_ShareFetchResponseTopicPartition⟩, trivial⟩⟩ (Fds.ok_of (fx := true) (Tt := 70) (idx := 0) (off := 0) baseS fnsS rShareFetchResponseTopic (by kernel_rfl) ⟨trivial, ⟨⟨df_ShareFetchResponseTopicPartition, ⟨trivial, ⟨trivial, ⟨trivial, ⟨trivial, ⟨trivial, ⟨⟨df_ShareFetchResponseTopicPartitionCurrentLeader, ⟨trivial, ⟨trivial, trivial⟩⟩⟩, ⟨trivial, ⟨⟨df_ShareFetchResponseTopicPartitionAcquiredRecord, ⟨trivial, ⟨trivial, ⟨trivial, trivial⟩⟩⟩⟩, trivial⟩⟩⟩⟩⟩⟩⟩⟩⟩, trivial⟩⟩).2.1 (by decide)

def rShareFetchResponseNodeEndpoint : Fds := .cons .all (.pr .i32 none) (.cons .all (.txt .str) (.cons .all (.pr .i32 none) (.cons .all (.txt .nstr) (.tags))))
theorem df_ShareFetchResponseNodeEndpoint : FOk Go.Proofs.Tryz.prog 59 1 (seqs (rShareFetchResponseNodeEndpoint.dfl NS 74 0)) [] := ⟨Go.Proofs.Tryz.f59, _, [0], Go.Proofs.Tryz.func59, rfl, by kernel_rfl, by kernel_rfl, by decide, by kernel_rfl, by kernel_rfl⟩
theorem ft_ShareFetchResponseNodeEndpoint : FOk Go.Proofs.Tryz.prog 31 1 (tellC NS tf 74 0 66 rShareFetchResponseNodeEndpoint) [.cell 1 NS.zj] := ⟨Go.Proofs.Tryz.f31, _, [0, 2, 3], Go.Proofs.Tryz.func31, rfl, by kernel_rfl, by kernel_rfl, by decide, by kernel_rfl, by kernel_rfl⟩
theorem fc_ShareFetchResponseNodeEndpoint : FOk Go.Proofs.Tryz.prog 66 3 (cTagFn NS) [] := ⟨Go.Proofs.Tryz.f66, _, [0, 1, 2], Go.Proofs.Tryz.func66, rfl, by kernel_rfl, by kernel_rfl, by decide, by kernel_rfl, by kernel_rfl⟩
theorem tl_ShareFetchResponseNodeEndpoint : TellP Go.Proofs.Tryz.prog 31 0 rShareFetchResponseNodeEndpoint := tellP baseS fnsS implT tellN (tf := tf) (Tt := 74) (idx0 := 0) ft_ShareFetchResponseNodeEndpoint (fun _ => fc_ShareFetchResponseNodeEndpoint) ⟨trivial, ⟨trivial, ⟨trivial, ⟨⟨by decide, by decide⟩, trivial⟩⟩⟩⟩ (Fds.ok_of (fx := true) (Tt := 74) (idx := 0) (off := 0) baseS fnsS rShareFetchResponseNodeEndpoint (by kernel_rfl) ⟨trivial, ⟨trivial, ⟨trivial, ⟨trivial, trivial⟩⟩⟩⟩).2.1 (by decide)

def mS : Msg := ⟨62, 39, 27, 0, false, .cons .all (.pr .i32 none) (.cons .all (.pr .i16 none) (.cons .all (.txt .nstr) (.cons (.ge 1) (.pr .i32 none) (.cons .all (.arr 56 none (.row 70 66 50 (.cons .all (.pr .uuid none) (.cons .all (.arr 68 none (.row 104 99 52 (.cons .all (.pr .i32 none) (.cons .all (.pr .i16 none) (.cons .all (.txt .nstr) (.cons .all (.pr .i16 none) (.cons .all (.txt .nstr) (.cons .all (.row 101 105 53 (.cons .all (.pr .i32 none) (.cons .all (.pr .i32 none) (.tags)))) (.cons .all (.txt .nbyt) (.cons .all (.arr 102 none (.row 111 109 57 (.cons .all (.pr .i64 none) (.cons .all (.pr .i64 none) (.cons .all (.pr .i16 none) (.tags)))))) (.tags))))))))))) (.tags))))) (.cons .all (.arr 57 none (.row 74 72 59 (.cons .all (.pr .i32 none) (.cons .all (.txt .str) (.cons .all (.pr .i32 none) (.cons .all (.txt .nstr) (.tags))))))) (.tags))))))⟩
def dS : zph where
  newP := 14
  setV := 16
  maxV := 15
  readF := 17
  unsF := 19
  readf := 28
  tell := 18
  maxI := 5
  tellI := 6
  unsI := 8
theorem rd_m : FOk Go.Proofs.Tryz.prog 28 3 (mS.gen NS true) [.var 3] := ⟨Go.Proofs.Tryz.f28, _, [0, 1, 2, 6, 7, 8, 9, 10, 11, 12, 13, 80, 81, 84, 92, 14, 15, 16, 17, 103, 107, 112, 18, 118, 19, 20, 21, 22, 23, 24, 137, 141, 146, 25, 152, 26, 27, 28, 29, 30, 171, 172, 175, 31, 32, 187, 188, 191, 33, 34, 35, 36, 214, 37, 219, 38, 39, 40, 231, 235, 240, 41, 246, 42, 43, 44, 45, 46, 270, 280, 290, 47, 48, 49, 305, 309, 314, 50, 320, 51, 52, 53, 54, 334, 335, 338, 55, 56, 350, 351, 354, 361, 371], Go.Proofs.Tryz.func28, rfl, by kernel_rfl, by kernel_rfl, by decide, by kernel_rfl, by kernel_rfl⟩
theorem df_m : FOk Go.Proofs.Tryz.prog 27 1 (seqs (mS.fs.dfl NS mS.tT 1)) [] := ⟨Go.Proofs.Tryz.f27, _, [0], Go.Proofs.Tryz.func27, rfl, by kernel_rfl, by kernel_rfl, by decide, by kernel_rfl, by kernel_rfl⟩
theorem mt : MsgT Go.Proofs.Tryz.prog NS mS true := msgT_of baseS fnsS (by kernel_rfl) (by kernel_rfl) (by kernel_rfl) ⟨trivial, ⟨trivial, ⟨trivial, ⟨trivial, ⟨⟨df_ShareFetchResponseTopic, ⟨trivial, ⟨⟨df_ShareFetchResponseTopicPartition, ⟨trivial, ⟨trivial, ⟨trivial, ⟨trivial, ⟨trivial, ⟨⟨df_ShareFetchResponseTopicPartitionCurrentLeader, ⟨trivial, ⟨trivial, trivial⟩⟩⟩, ⟨trivial, ⟨⟨df_ShareFetchResponseTopicPartitionAcquiredRecord, ⟨trivial, ⟨trivial, ⟨trivial, trivial⟩⟩⟩⟩, trivial⟩⟩⟩⟩⟩⟩⟩⟩⟩, trivial⟩⟩⟩, ⟨⟨df_ShareFetchResponseNodeEndpoint, ⟨trivial, ⟨trivial, ⟨trivial, ⟨trivial, trivial⟩⟩⟩⟩⟩, trivial⟩⟩⟩⟩⟩⟩ df_m
theorem ft_ShareFetchResponse : FOk Go.Proofs.Tryz.prog 18 1 (tellC NS tf 62 1 33 mS.fs) [.cell 1 NS.zj] := ⟨Go.Proofs.Tryz.f18, _, [0, 2, 3, 56, 57, 58, 4, 61, 73, 74, 76, 112, 113, 114, 5, 117, 129, 130, 132], Go.Proofs.Tryz.func18, rfl, by kernel_rfl, by kernel_rfl, by decide, by kernel_rfl, by kernel_rfl⟩
theorem fc_ShareFetchResponse : FOk Go.Proofs.Tryz.prog 33 3 (cTagFn NS) [] := ⟨Go.Proofs.Tryz.f33, _, [0, 1, 2], Go.Proofs.Tryz.func33, rfl, by kernel_rfl, by kernel_rfl, by decide, by kernel_rfl, by kernel_rfl⟩
theorem tl_ShareFetchResponse : TellP Go.Proofs.Tryz.prog 18 1 mS.fs := tellP baseS fnsS implT tellN (tf := tf) (Tt := 62) (idx0 := 1) ft_ShareFetchResponse (fun _ => fc_ShareFetchResponse) ⟨trivial, ⟨trivial, ⟨⟨by decide, by decide⟩, ⟨trivial, ⟨⟨zfx (by kernel_rfl), el_ti (fx := true) baseS fnsS _ (by kernel_rfl) ⟨df_ShareFetchResponseTopic, ⟨trivial, ⟨⟨df_ShareFetchResponseTopicPartition, ⟨trivial, ⟨trivial, ⟨trivial, ⟨trivial, ⟨trivial, ⟨⟨df_ShareFetchResponseTopicPartitionCurrentLeader, ⟨trivial, ⟨trivial, trivial⟩⟩⟩, ⟨trivial, ⟨⟨df_ShareFetchResponseTopicPartitionAcquiredRecord, ⟨trivial, ⟨trivial, ⟨trivial, trivial⟩⟩⟩⟩, trivial⟩⟩⟩⟩⟩⟩⟩⟩⟩, trivial⟩⟩⟩, tl_ShareFetchResponseTopic⟩, ⟨⟨zfx (by kernel_rfl), el_ti (fx := true) baseS fnsS _ (by kernel_rfl) ⟨df_ShareFetchResponseNodeEndpoint, ⟨trivial, ⟨trivial, ⟨trivial, ⟨trivial, trivial⟩⟩⟩⟩⟩, tl_ShareFetchResponseNodeEndpoint⟩, trivial⟩⟩⟩⟩⟩⟩ mt.hf (by decide)
theorem fd_new : FOk Go.Proofs.Tryz.prog 14 0 (c_new NS mS.tT mS.dflt) [.var 0] := ⟨Go.Proofs.Tryz.f14, _, [0, 1], Go.Proofs.Tryz.func14, rfl, by kernel_rfl, by kernel_rfl, by decide, by kernel_rfl, by kernel_rfl⟩
theorem fd_set : FOk Go.Proofs.Tryz.prog 16 2 (c_set NS mS.tT) [] := ⟨Go.Proofs.Tryz.f16, _, [0, 1], Go.Proofs.Tryz.func16, rfl, by kernel_rfl, by kernel_rfl, by decide, by kernel_rfl, by kernel_rfl⟩
theorem door : zrx Go.Proofs.Tryz.prog NS mS true dS where
  msg := mt
  vin := rfl
  ti := (tsB_ok (by' := bytesOf Go.Proofs.Tryz.prog 62) (by kernel_rfl)).imp fun _ h => ⟨_, h⟩
  newP := fd_new
  setV := fd_set
  readf := rd_m
  tell := fun _ => tl_ShareFetchResponse
  dok := ⟨⟨_, rfl, by decide⟩, ⟨⟨_, rfl, by decide⟩, ⟨⟨_, rfl, by decide⟩, ⟨⟨⟨List.replicate 16 0, rfl, rfl⟩, ⟨⟨⟨_, rfl, by decide⟩, ⟨⟨_, rfl, by decide⟩, ⟨⟨_, rfl, by decide⟩, ⟨⟨⟨_, rfl, by decide⟩, ⟨⟨_, rfl, by decide⟩, trivial⟩⟩, ⟨⟨⟨_, rfl, by decide⟩, ⟨⟨_, rfl, by decide⟩, ⟨⟨_, rfl, by decide⟩, trivial⟩⟩⟩, trivial⟩⟩⟩⟩⟩, trivial⟩⟩, ⟨⟨⟨_, rfl, by decide⟩, ⟨⟨_, rfl, by decide⟩, trivial⟩⟩, trivial⟩⟩⟩⟩⟩
  shB := by kernel_rfl
  cnt := by decide
theorem fd_rf : FOk Go.Proofs.Tryz.prog 17 2 (c_rf NS mS.pT 28 false) [.var 2] := ⟨Go.Proofs.Tryz.f17, _, [0, 1, 4], Go.Proofs.Tryz.func17, rfl, by kernel_rfl, by kernel_rfl, by decide, by kernel_rfl, by kernel_rfl⟩
theorem fd_uf : FOk Go.Proofs.Tryz.prog 19 2 (c_rf NS mS.pT 28 true) [.var 2] := ⟨Go.Proofs.Tryz.f19, _, [0, 1, 4], Go.Proofs.Tryz.func19, rfl, by kernel_rfl, by kernel_rfl, by decide, by kernel_rfl, by kernel_rfl⟩
theorem fd_mv : FOk Go.Proofs.Tryz.prog 15 1 (c_max 2) [.var 1] := ⟨Go.Proofs.Tryz.f15, _, [0, 2], Go.Proofs.Tryz.func15, rfl, by kernel_rfl, by kernel_rfl, by decide, by kernel_rfl, by kernel_rfl⟩
theorem fd_mi : FOk Go.Proofs.Tryz.prog 5 0 (c_maxI NS mS.pT 14 15) [.var 0] := ⟨Go.Proofs.Tryz.f5, _, [0], Go.Proofs.Tryz.func5, rfl, by kernel_rfl, by kernel_rfl, by decide, by kernel_rfl, by kernel_rfl⟩
theorem fd_tellI : FOk Go.Proofs.Tryz.prog 6 2 (c_door NS mS.pT 14 16 17 18) [.cell 2 NS.zj, .var 3] := ⟨Go.Proofs.Tryz.f6, _, [0, 1, 4, 5, 6, 16], Go.Proofs.Tryz.func6, rfl, by kernel_rfl, by kernel_rfl, by decide, by kernel_rfl, by kernel_rfl⟩
theorem fd_unsI : FOk Go.Proofs.Tryz.prog 8 2 (c_door NS mS.pT 14 16 19 18) [.cell 2 NS.zj, .var 3] := ⟨Go.Proofs.Tryz.f8, _, [0, 1, 4, 5, 6, 16], Go.Proofs.Tryz.func8, rfl, by kernel_rfl, by kernel_rfl, by decide, by kernel_rfl, by kernel_rfl⟩
theorem lawT : LawT Go.Proofs.Tryz.prog NS mS true dS 2 := ⟨door, fd_rf, fd_uf, fd_mv, fd_mi, fd_tellI, fd_unsI, by decide, by decide, by decide⟩
theorem fd_law : FOk Go.Proofs.Tryz.prog 3 2 (c_lawU NS 28 dS.maxI dS.tellI dS.unsI 1000) [.var 2] := ⟨Go.Proofs.Tryz.f3, _, [0, 1, 4, 12, 5, 15, 18, 6, 7, 8, 9], Go.Proofs.Tryz.func3, rfl, by kernel_rfl, by kernel_rfl, by decide, by kernel_rfl, by kernel_rfl⟩
end Go.Kf

namespace Go.Proofs.YtdlfgheckhmgiaaGreatDoor.fnUnsafeShareFetchResponse
open Go.ChangeShapes Go.WideShapes Go.ChangeAt Go.RowKit Go.Kf

set_option maxHeartbeats 4000000 in
theorem lifted (os : Os) (started : os.Started) (H : Type) (enc : TypeId × Value → H) :
    ReturnsInHanded {} Go.Proofs.Tryz.checked os 3 .any (fun w args => (Rows.fnUnsafeShareFetchResponseSpec.pre enc Go.Proofs.Tryz.prog Go.Proofs.Tryz.f3 [] false w args ∧ laidMetH Go.Proofs.Tryz.prog Rows.fnUnsafeShareFetchResponseRow.laid w) ∧ sizedMet enc Go.Proofs.Tryz.prog Go.Proofs.Tryz.f3 (OpenSpec.ofChange Rows.fnUnsafeShareFetchResponseSpec) false w args)
      (Rows.fnUnsafeShareFetchResponseSpec.post enc Go.Proofs.Tryz.prog Go.Proofs.Tryz.f3 false true false false) := by
  refine returnsInHanded_of_change_and (C := Go.Proofs.Tryz.checked) (X := fun w _ => laidMetH Go.Proofs.Tryz.prog Rows.fnUnsafeShareFetchResponseRow.laid w) (fun _ _ _ hh h => h.of_heap hh) own started (by kernel_rfl) Go.Proofs.Tryz.func3
    (ChangeSpec.witness_shaped (enc := enc) (C := Go.Proofs.Tryz.checked) (os := os) (X := fun w _ => laidMetH Go.Proofs.Tryz.prog Rows.fnUnsafeShareFetchResponseRow.laid w) false (World.doorLaid Go.Proofs.Tryz.prog 400 os) #[.int .u8 0, .slice none 0 0] 8 rfl (shaped os _) (by kernel_rfl) (by kernel_rfl) (by kernel_rfl) (door_met os _)) ?_
  intro W base args ds gs before hval0 hW _ _ hL _
  have hval : ∀ (j : Nat) t v, Go.Proofs.Tryz.f3.params[j]? = some t → args[j]? = some v → Value.okWide Go.Proofs.Tryz.prog W .any base t v := hval0
  have hW' := hW
  obtain ⟨p, q, hA0, hV, rfl, hfz, hnd⟩ := hW
  have hA : DataW.TrodAll enc Go.Proofs.Tryz.prog W 0 (fun _ => true) true Go.Proofs.Tryz.f3.params.toList args.toList ds p := hA0
  rw [Go.Proofs.Tryz.params3] at hA hval
  obtain ⟨v0, vs0, d0, ds0, p0, q0, hargs, rfl, rfl, h0, r0⟩ := trodAll_cons hA
  obtain ⟨v1, vs1, d1, ds1, p1, q1, rfl, rfl, rfl, h1, r1⟩ := trodAll_cons r0
  obtain ⟨rfl, rfl, rfl⟩ := trodAll_nil r1
  obtain rfl : args = #[v0, v1] := by cases args; simp_all
  obtain ⟨rfl, rfl⟩ := trodVars_none hV
  obtain ⟨n0, rfl, rfl, rfl, w0⟩ := open_int Go.Proofs.Tryz.underlying5 (hval 0 5 v0 rfl rfl) h0
  obtain ⟨l, ha⟩ := argOct_of Go.Proofs.Tryz.underlying22 Go.Proofs.Tryz.underlying5 (by kernel_rfl) (hval 1 22 v1 rfl rfl) h1
  have lt1 : ∀ x ∈ p1, x.block < W.heap.size := by obtain ⟨m, hm⟩ := h1; exact DataW.trod_lt m _ _ _ hm
  rw [MakeChecks.laidMetH_plain _ _ _ (by kernel_rfl)] at hL
  obtain ⟨a1, s1, hv1, _⟩ := laid_sentinel hL gO gT Go.Proofs.Tryz.underlying44 rowP Go.Proofs.Tryz.underlying182 Go.Proofs.Tryz.underlying200 rfl rfl Go.Proofs.Tryz.underlying9 cS cStr
  have hg : W.cell? ⟨1, 0, none⟩ = some (.iface 182 (.pointer (some a1))) := by simpa using World.var?_cell gO hv1 0
  clear hA0 hval0
  refine Calls.mono (call_lawU baseS fnsS implT specT (by decide) (by decide) (by decide) lawT fd_law (n := n0) ha hg) fun e W' ⟨v', he, hv', hm⟩ => ?_
  subst he hv'
  have bel := hm.below
  exact ⟨_, rfl, _, _, _, [], _, [], hW', trodAll_mk1 (shut_bool Go.Proofs.Tryz.underlying4 _), trodAll_cons_mk (shut_int Go.Proofs.Tryz.underlying5 w0) (trodAll_cons_mk (Below.trod laidOut (by kernel_rfl) (of_decide_eq_true (by kernel_rfl)) h1 bel lt1) trodAll_mk0), rfl, bel.frame _, fun h => by cases h⟩

set_option maxHeartbeats 4000000 in
theorem joined : joinedFacts Go.Proofs.Tryz.prog 3 Go.Proofs.Tryz.f3 Rows.fnUnsafeShareFetchResponseSpec Rows.fnUnsafeShareFetchResponseRow = true := by
  unfold joinedFacts
  exact bandT (bandT (bandT (bandT (bandT (bandT (bandT (bandT (bandT (bandT (bandT (bandT (bandT (bandT (bandT (bandT (bandT (bandT (bandT (bandT (bandT (bandT (bandT (bandT (bandT (bandT (bandT (bandT (bandT (bandT (bandT (by as_aux_lemma => kernel_rfl) laidOut) mapsRowedS) (by as_aux_lemma => kernel_rfl)) (by as_aux_lemma => kernel_rfl)) (by as_aux_lemma => kernel_rfl)) (by as_aux_lemma => kernel_rfl)) (by as_aux_lemma => kernel_rfl)) (by as_aux_lemma => kernel_rfl)) (by as_aux_lemma => kernel_rfl)) (by as_aux_lemma => kernel_rfl)) (by as_aux_lemma => kernel_rfl)) (by as_aux_lemma => kernel_rfl)) (by as_aux_lemma => kernel_rfl)) (by as_aux_lemma => kernel_rfl)) (by as_aux_lemma => kernel_rfl)) (by as_aux_lemma => kernel_rfl)) (by as_aux_lemma => kernel_rfl)) (by as_aux_lemma => kernel_rfl)) (by as_aux_lemma => kernel_rfl)) (by as_aux_lemma => kernel_rfl)) (by as_aux_lemma => kernel_rfl)) plainKeysS) (by as_aux_lemma => kernel_rfl)) stopsHeardS) bigEnter) bigLifts) bigMake) (by as_aux_lemma => kernel_rfl)) (by as_aux_lemma => kernel_rfl)) (by as_aux_lemma => kernel_rfl)) (by as_aux_lemma => kernel_rfl)
theorem named : Go.Proofs.Tryz.prog.funcNamed Rows.fnUnsafeShareFetchResponseRow.func = some 3 := by kernel_rfl
theorem isInst : Go.Proofs.Tryz.f3.isInstance Go.Proofs.Tryz.prog Rows.fnUnsafeShareFetchResponseRow.origin Rows.fnUnsafeShareFetchResponseRow.targs := of_decide_eq_true (by kernel_rfl)
theorem isWrap : Go.Proofs.Tryz.f3.isWrapper Go.Proofs.Tryz.prog Rows.fnUnsafeShareFetchResponseRow.wrapper Rows.fnUnsafeShareFetchResponseRow.mainSum := by unfold Func.isWrapper; first | (rw [if_pos (by decide +kernel)]; kernel_rfl) | (rw [if_neg (by decide +kernel)]; exact ⟨rfl, rfl⟩)
theorem row : Rows.FnUnsafeShareFetchResponseSaid :=
  OpenClaim.holds_of_wide 3 Go.Proofs.Tryz.f3 rfl rfl rfl rfl rfl rfl rfl ⟨rfl, rfl, rfl, rfl, rfl⟩ rfl rfl rfl rfl rfl named Go.Proofs.Tryz.func3 joined
    isInst isWrap
    (fun os started H enc _ => lifted os started H enc)
end Go.Proofs.YtdlfgheckhmgiaaGreatDoor.fnUnsafeShareFetchResponse

namespace Go.Proofs.YtdlfgheckhmgiaaGreatDoor
open Go.Kf
set_option maxHeartbeats 4000000 in
theorem fnUnsafeShareFetchResponse_card : Rows.FnUnsafeShareFetchResponseCardSaid :=
  Claim7.holds_tied_plain_at .later [] [.sentinel] true Rows.fnUnsafeShareFetchResponseCard.stood.harness false
    fnUnsafeShareFetchResponse.row (fun _ h => by cases h) (by as_aux_lemma => kernel_rfl) (fun _ h => by cases h) fnUnsafeShareFetchResponse_row_tie rfl ⟨rfl, rfl⟩ mainS rfl
    (fun f fn hf hfn => by
      obtain rfl : f = 3 := Option.some.inj (fnUnsafeShareFetchResponse.named.symm.trans hf) |>.symm
      obtain rfl : fn = Go.Proofs.Tryz.f3 := (Option.some.inj (Go.Proofs.Tryz.func3.symm.trans hfn)).symm
      refine ⟨looksS, fun j t ht => ?_⟩
      rw [Go.Proofs.Tryz.params3] at ht
      rcases j with _ | _ | j
      · obtain rfl : 5 = t := by simpa using ht
        exact (show Go.Proofs.Tryz.prog.wantsStandIn 5 = false by kernel_rfl)
      · obtain rfl : 22 = t := by simpa using ht
        exact (show Go.Proofs.Tryz.prog.wantsStandIn 22 = false by kernel_rfl)
      · simp at ht)
    (by as_aux_lemma => kernel_rfl)
#print axioms fnUnsafeShareFetchResponse_card
end Go.Proofs.YtdlfgheckhmgiaaGreatDoor
