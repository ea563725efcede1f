/- Both ways of reading tell the same of any octets as a FetchSnapshotRequest (laws.FnUnsafeFetchSnapshotRequest): the tied card is proved, at every version number and all octets; no other condition. -/
import Derived.Test.YtlmaknaknlbnmaaDoorKs
set_option linter.unusedSimpArgs false
set_option linter.unusedVariables false
set_option maxRecDepth 100000
namespace Go.Kf
open Go

def tf : TypeId → FuncId × FuncId := fun | 137 => (126, 150) | 139 => (106, 127) | 103 => (62, 107) | _ => (0, 0)

def rFetchSnapshotRequestTopicPartitionSnapshotID : Fds := .cons .all (.pr .i64 none) (.cons .all (.pr .i32 none) (.tags none))
theorem df_FetchSnapshotRequestTopicPartitionSnapshotID : FOk Go.Proofs.Tryd.prog 99 1 (seqs (rFetchSnapshotRequestTopicPartitionSnapshotID.dfl NS 137 0)) [] := ⟨Go.Proofs.Tryd.f99, _, [0], Go.Proofs.Tryd.func99, rfl, by kernel_rfl, by kernel_rfl, by decide, by kernel_rfl, by kernel_rfl⟩
theorem ft_FetchSnapshotRequestTopicPartitionSnapshotID : FOk Go.Proofs.Tryd.prog 126 1 (tellC NS tf 137 0 150 rFetchSnapshotRequestTopicPartitionSnapshotID) [.cell 1 NS.zp] := ⟨Go.Proofs.Tryd.f126, _, [0, 2, 3], Go.Proofs.Tryd.func126, rfl, by kernel_rfl, by kernel_rfl, by decide, by kernel_rfl, by kernel_rfl⟩
theorem fc_FetchSnapshotRequestTopicPartitionSnapshotID : FOk Go.Proofs.Tryd.prog 150 3 (cTagFn NS) [] := ⟨Go.Proofs.Tryd.f150, _, [0, 1, 2], Go.Proofs.Tryd.func150, rfl, by kernel_rfl, by kernel_rfl, by decide, by kernel_rfl, by kernel_rfl⟩
theorem tl_FetchSnapshotRequestTopicPartitionSnapshotID : TellP Go.Proofs.Tryd.prog 126 0 rFetchSnapshotRequestTopicPartitionSnapshotID := tellP baseS fnsS implT tellN (tf := tf) (Tt := 137) (idx0 := 0) ft_FetchSnapshotRequestTopicPartitionSnapshotID (fun _ => fc_FetchSnapshotRequestTopicPartitionSnapshotID) ⟨trivial, ⟨trivial, trivial⟩⟩ (Fds.ok_of (fx := true) (Tt := 137) (idx := 0) (off := 0) baseS fnsS rFetchSnapshotRequestTopicPartitionSnapshotID (by kernel_rfl) ⟨trivial, ⟨trivial, trivial⟩⟩).2.1 (by decide)

def rFetchSnapshotRequestTopicPartition : Fds := .cons .all (.pr .i32 none) (.cons .all (.pr .i32 none) (.cons .all (.row 137 140 99 (.cons .all (.pr .i64 none) (.cons .all (.pr .i32 none) (.tags none)))) (.cons .all (.pr .i64 none) (.cons .never (.pr .uuid none) ((.tags (some 4)))))))
theorem df_FetchSnapshotRequestTopicPartition : FOk Go.Proofs.Tryd.prog 98 1 (seqs (rFetchSnapshotRequestTopicPartition.dfl NS 139 0)) [] := ⟨Go.Proofs.Tryd.f98, _, [0, 2], Go.Proofs.Tryd.func98, rfl, by kernel_rfl, by kernel_rfl, by decide, by kernel_rfl, by kernel_rfl⟩
theorem ft_FetchSnapshotRequestTopicPartition : FOk Go.Proofs.Tryd.prog 106 1 (tellC NS tf 139 0 127 rFetchSnapshotRequestTopicPartition) [.cell 1 NS.zp] := ⟨Go.Proofs.Tryd.f106, _, [0, 2, 3], Go.Proofs.Tryd.func106, rfl, by kernel_rfl, by kernel_rfl, by decide, by kernel_rfl, by kernel_rfl⟩
theorem fc_FetchSnapshotRequestTopicPartition : FOk Go.Proofs.Tryd.prog 127 3 (cTagFn NS) [] := ⟨Go.Proofs.Tryd.f127, _, [0, 1, 2], Go.Proofs.Tryd.func127, rfl, by kernel_rfl, by kernel_rfl, by decide, by kernel_rfl, by kernel_rfl⟩
theorem tl_FetchSnapshotRequestTopicPartition : TellP Go.Proofs.Tryd.prog 106 0 rFetchSnapshotRequestTopicPartition := tellP baseS fnsS implT tellN (tf := tf) (Tt := 139) (idx0 := 0) ft_FetchSnapshotRequestTopicPartition (fun _ => fc_FetchSnapshotRequestTopicPartition) ⟨trivial, ⟨trivial, ⟨tl_FetchSnapshotRequestTopicPartitionSnapshotID, ⟨trivial, ⟨(show NS.zba ≠ 0 by decide), trivial⟩⟩⟩⟩⟩ (Fds.ok_of (fx := true) (Tt := 139) (idx := 0) (off := 0) baseS fnsS rFetchSnapshotRequestTopicPartition (by kernel_rfl) ⟨trivial, ⟨trivial, ⟨⟨df_FetchSnapshotRequestTopicPartitionSnapshotID, ⟨trivial, ⟨trivial, trivial⟩⟩⟩, ⟨trivial, ⟨trivial, trivial⟩⟩⟩⟩⟩).2.1 (by decide)

def rFetchSnapshotRequestTopic : Fds := .cons .all (.txt .str) (.cons .all (.arr 101 none (.row 139 135 98 (.cons .all (.pr .i32 none) (.cons .all (.pr .i32 none) (.cons .all (.row 137 140 99 (.cons .all (.pr .i64 none) (.cons .all (.pr .i32 none) (.tags none)))) (.cons .all (.pr .i64 none) (.cons .never (.pr .uuid none) ((.tags (some 4)))))))))) (.tags none))
theorem df_FetchSnapshotRequestTopic : FOk Go.Proofs.Tryd.prog 97 1 (seqs (rFetchSnapshotRequestTopic.dfl NS 103 0)) [] := ⟨Go.Proofs.Tryd.f97, _, [0], Go.Proofs.Tryd.func97, rfl, by kernel_rfl, by kernel_rfl, by decide, by kernel_rfl, by kernel_rfl⟩
theorem ft_FetchSnapshotRequestTopic : FOk Go.Proofs.Tryd.prog 62 1 (tellC NS tf 103 0 107 rFetchSnapshotRequestTopic) [.cell 1 NS.zp] := ⟨Go.Proofs.Tryd.f62, _, [0, 2, 3, 29, 30, 31, 4, 34, 46, 47, 49], Go.Proofs.Tryd.func62, rfl, by kernel_rfl, by kernel_rfl, by decide, by kernel_rfl, by kernel_rfl⟩
theorem fc_FetchSnapshotRequestTopic : FOk Go.Proofs.Tryd.prog 107 3 (cTagFn NS) [] := ⟨Go.Proofs.Tryd.f107, _, [0, 1, 2], Go.Proofs.Tryd.func107, rfl, by kernel_rfl, by kernel_rfl, by decide, by kernel_rfl, by kernel_rfl⟩
theorem tl_FetchSnapshotRequestTopic : TellP Go.Proofs.Tryd.prog 62 0 rFetchSnapshotRequestTopic := tellP baseS fnsS implT tellN (tf := tf) (Tt := 103) (idx0 := 0) ft_FetchSnapshotRequestTopic (fun _ => fc_FetchSnapshotRequestTopic) ⟨trivial, ⟨⟨zfw (by kernel_rfl), el_ti (fx := true) baseS fnsS _ (by kernel_rfl) ⟨df_FetchSnapshotRequestTopicPartition, ⟨trivial, ⟨trivial, ⟨⟨df_FetchSnapshotRequestTopicPartitionSnapshotID, ⟨trivial, ⟨trivial, trivial⟩⟩⟩, ⟨trivial, ⟨trivial, trivial⟩⟩⟩⟩⟩⟩, tl_FetchSnapshotRequestTopicPartition⟩, trivial⟩⟩ (Fds.ok_of (fx := true) (Tt := 103) (idx := 0) (off := 0) baseS fnsS rFetchSnapshotRequestTopic (by kernel_rfl) ⟨trivial, ⟨⟨df_FetchSnapshotRequestTopicPartition, ⟨trivial, ⟨trivial, ⟨⟨df_FetchSnapshotRequestTopicPartitionSnapshotID, ⟨trivial, ⟨trivial, trivial⟩⟩⟩, ⟨trivial, ⟨trivial, trivial⟩⟩⟩⟩⟩⟩, trivial⟩⟩).2.1 (by decide)

def mS : Msg := ⟨97, 55, 59, 0, false, .cons .never (.txt .nstr) (.cons .all (.pr .i32 (some (.int .i32 (-1)))) (.cons .all (.pr .i32 (some (.int .i32 (2147483647)))) (.cons .all (.arr 95 none (.row 103 100 97 (.cons .all (.txt .str) (.cons .all (.arr 101 none (.row 139 135 98 (.cons .all (.pr .i32 none) (.cons .all (.pr .i32 none) (.cons .all (.row 137 140 99 (.cons .all (.pr .i64 none) (.cons .all (.pr .i32 none) (.tags none)))) (.cons .all (.pr .i64 none) (.cons .never (.pr .uuid none) ((.tags (some 4)))))))))) (.tags none))))) ((.tags (some 0))))))⟩
def dS : zqe where
  newP := 35
  setV := 37
  maxV := 36
  readF := 38
  unsF := 40
  readf := 60
  tell := 39
  maxI := 16
  tellI := 17
  unsI := 18
theorem rd_m : FOk Go.Proofs.Tryd.prog 60 3 (mS.gen NS true) [.var 3] := ⟨Go.Proofs.Tryd.f60, _, [0, 1, 2, 6, 7, 8, 9, 10, 11, 12, 13, 14, 15, 71, 75, 80, 16, 86, 17, 18, 19, 95, 96, 99, 20, 21, 22, 111, 115, 120, 23, 126, 24, 25, 26, 27, 28, 29, 30, 31, 161, 32, 171, 33, 174, 34, 178, 187, 35, 36, 37, 200, 207, 217, 38, 220, 39, 224, 233, 40, 41, 239, 240, 243, 42, 252], Go.Proofs.Tryd.func60, rfl, by kernel_rfl, by kernel_rfl, by decide, by kernel_rfl, by kernel_rfl⟩
theorem df_m : FOk Go.Proofs.Tryd.prog 59 1 (seqs (mS.fs.dfl NS mS.tT 1)) [] := ⟨Go.Proofs.Tryd.f59, _, [0], Go.Proofs.Tryd.func59, rfl, by kernel_rfl, by kernel_rfl, by decide, by kernel_rfl, by kernel_rfl⟩
theorem mt : MsgT Go.Proofs.Tryd.prog NS mS true := msgT_of baseS fnsS (by kernel_rfl) (by kernel_rfl) (by kernel_rfl) (by kernel_rfl) ⟨trivial, ⟨trivial, ⟨trivial, ⟨⟨df_FetchSnapshotRequestTopic, ⟨trivial, ⟨⟨df_FetchSnapshotRequestTopicPartition, ⟨trivial, ⟨trivial, ⟨⟨df_FetchSnapshotRequestTopicPartitionSnapshotID, ⟨trivial, ⟨trivial, trivial⟩⟩⟩, ⟨trivial, ⟨trivial, trivial⟩⟩⟩⟩⟩⟩, trivial⟩⟩⟩, trivial⟩⟩⟩⟩ df_m
theorem ft_FetchSnapshotRequest : FOk Go.Proofs.Tryd.prog 39 1 (tellC NS tf 97 1 63 mS.fs) [.cell 1 NS.zp] := ⟨Go.Proofs.Tryd.f39, _, [0, 2, 3, 46, 47, 48, 4, 51, 63, 64, 66], Go.Proofs.Tryd.func39, rfl, by kernel_rfl, by kernel_rfl, by decide, by kernel_rfl, by kernel_rfl⟩
theorem fc_FetchSnapshotRequest : FOk Go.Proofs.Tryd.prog 63 3 (cTagFn NS) [] := ⟨Go.Proofs.Tryd.f63, _, [0, 1, 2], Go.Proofs.Tryd.func63, rfl, by kernel_rfl, by kernel_rfl, by decide, by kernel_rfl, by kernel_rfl⟩
theorem tl_FetchSnapshotRequest : TellP Go.Proofs.Tryd.prog 39 1 mS.fs := tellP baseS fnsS implT tellN (tf := tf) (Tt := 97) (idx0 := 1) ft_FetchSnapshotRequest (fun _ => fc_FetchSnapshotRequest) ⟨⟨by decide, by decide⟩, ⟨trivial, ⟨trivial, ⟨⟨zfw (by kernel_rfl), el_ti (fx := true) baseS fnsS _ (by kernel_rfl) ⟨df_FetchSnapshotRequestTopic, ⟨trivial, ⟨⟨df_FetchSnapshotRequestTopicPartition, ⟨trivial, ⟨trivial, ⟨⟨df_FetchSnapshotRequestTopicPartitionSnapshotID, ⟨trivial, ⟨trivial, trivial⟩⟩⟩, ⟨trivial, ⟨trivial, trivial⟩⟩⟩⟩⟩⟩, trivial⟩⟩⟩, tl_FetchSnapshotRequestTopic⟩, trivial⟩⟩⟩⟩ mt.hf (by decide)
theorem fd_new : FOk Go.Proofs.Tryd.prog 35 0 (c_new NS mS.tT mS.dflt) [.var 0] := ⟨Go.Proofs.Tryd.f35, _, [0, 1], Go.Proofs.Tryd.func35, rfl, by kernel_rfl, by kernel_rfl, by decide, by kernel_rfl, by kernel_rfl⟩
theorem fd_set : FOk Go.Proofs.Tryd.prog 37 2 (c_set NS mS.tT) [] := ⟨Go.Proofs.Tryd.f37, _, [0, 1], Go.Proofs.Tryd.func37, rfl, by kernel_rfl, by kernel_rfl, by decide, by kernel_rfl, by kernel_rfl⟩
theorem door : zti Go.Proofs.Tryd.prog NS mS true dS where
  msg := mt
  vin := rfl
  ti := (tsB_ok (by' := zta Go.Proofs.Tryd.prog 97) (by kernel_rfl)).imp fun _ h => ⟨_, h⟩
  newP := fd_new
  setV := fd_set
  readf := rd_m
  tell := fun _ => tl_FetchSnapshotRequest
  dok := ⟨⟨_, rfl, by decide⟩, ⟨⟨_, rfl, by decide⟩, ⟨⟨⟨⟨_, rfl, by decide⟩, ⟨⟨_, rfl, by decide⟩, ⟨⟨rfl, ⟨⟨_, rfl, by decide⟩, ⟨⟨_, rfl, by decide⟩, trivial⟩⟩⟩, ⟨⟨_, rfl, by decide⟩, ⟨⟨List.replicate 16 0, rfl, rfl⟩, trivial⟩⟩⟩⟩⟩, trivial⟩, trivial⟩⟩⟩
  shB := by kernel_rfl
  cnt := by decide
theorem fd_rf : FOk Go.Proofs.Tryd.prog 38 2 (c_rf NS mS.pT 60 false) [.var 2] := ⟨Go.Proofs.Tryd.f38, _, [0, 1, 4], Go.Proofs.Tryd.func38, rfl, by kernel_rfl, by kernel_rfl, by decide, by kernel_rfl, by kernel_rfl⟩
theorem fd_uf : FOk Go.Proofs.Tryd.prog 40 2 (c_rf NS mS.pT 60 true) [.var 2] := ⟨Go.Proofs.Tryd.f40, _, [0, 1, 4], Go.Proofs.Tryd.func40, rfl, by kernel_rfl, by kernel_rfl, by decide, by kernel_rfl, by kernel_rfl⟩
theorem fd_mv : FOk Go.Proofs.Tryd.prog 36 1 (c_max 1) [.var 1] := ⟨Go.Proofs.Tryd.f36, _, [0, 2], Go.Proofs.Tryd.func36, rfl, by kernel_rfl, by kernel_rfl, by decide, by kernel_rfl, by kernel_rfl⟩
theorem fd_mi : FOk Go.Proofs.Tryd.prog 16 0 (c_maxI NS mS.pT 35 36) [.var 0] := ⟨Go.Proofs.Tryd.f16, _, [0], Go.Proofs.Tryd.func16, rfl, by kernel_rfl, by kernel_rfl, by decide, by kernel_rfl, by kernel_rfl⟩
theorem fd_tellI : FOk Go.Proofs.Tryd.prog 17 2 (c_door NS mS.pT 35 37 38 39) [.cell 2 NS.zp, .var 3] := ⟨Go.Proofs.Tryd.f17, _, [0, 1, 4, 5, 6, 16], Go.Proofs.Tryd.func17, rfl, by kernel_rfl, by kernel_rfl, by decide, by kernel_rfl, by kernel_rfl⟩
theorem fd_unsI : FOk Go.Proofs.Tryd.prog 18 2 (c_door NS mS.pT 35 37 40 39) [.cell 2 NS.zp, .var 3] := ⟨Go.Proofs.Tryd.f18, _, [0, 1, 4, 5, 6, 16], Go.Proofs.Tryd.func18, rfl, by kernel_rfl, by kernel_rfl, by decide, by kernel_rfl, by kernel_rfl⟩
theorem lawT : LawT Go.Proofs.Tryd.prog NS mS true dS 1 := ⟨door, fd_rf, fd_uf, fd_mv, fd_mi, fd_tellI, fd_unsI, by decide, by decide, by decide⟩
theorem fd_law : FOk Go.Proofs.Tryd.prog 5 2 (c_lawU NS 28 dS.maxI dS.tellI dS.unsI 1000) [.var 2] := ⟨Go.Proofs.Tryd.f5, _, [0, 1, 4, 12, 5, 15, 18, 6, 7, 8, 9], Go.Proofs.Tryd.func5, rfl, by kernel_rfl, by kernel_rfl, by decide, by kernel_rfl, by kernel_rfl⟩
end Go.Kf

namespace Go.Proofs.YtlmaknaknlbnmaaDoor.fnUnsafeFetchSnapshotRequest
open Go.ChangeShapes Go.WideShapes Go.ChangeAt Go.RowKit Go.Kf

set_option maxHeartbeats 4000000 in
theorem lifted (os : Os) (started : os.Started) (H : Type) (enc : TypeId × Value → H) :
    ReturnsInHanded {} Go.Proofs.Tryd.checked os 5 .any (fun w args => (Rows.fnUnsafeFetchSnapshotRequestSpec.pre enc Go.Proofs.Tryd.prog Go.Proofs.Tryd.f5 [] false w args ∧ laidMetH Go.Proofs.Tryd.prog Rows.fnUnsafeFetchSnapshotRequestRow.laid w) ∧ sizedMet enc Go.Proofs.Tryd.prog Go.Proofs.Tryd.f5 (OpenSpec.ofChange Rows.fnUnsafeFetchSnapshotRequestSpec) false w args)
      (Rows.fnUnsafeFetchSnapshotRequestSpec.post enc Go.Proofs.Tryd.prog Go.Proofs.Tryd.f5 false true false false) := by
  refine returnsInHanded_of_change_and (C := Go.Proofs.Tryd.checked) (X := fun w _ => laidMetH Go.Proofs.Tryd.prog Rows.fnUnsafeFetchSnapshotRequestRow.laid w) (fun _ _ _ hh h => h.of_heap hh) own started (by kernel_rfl) Go.Proofs.Tryd.func5
    (ChangeSpec.witness_shaped (enc := enc) (C := Go.Proofs.Tryd.checked) (os := os) (X := fun w _ => laidMetH Go.Proofs.Tryd.prog Rows.fnUnsafeFetchSnapshotRequestRow.laid w) false (World.doorLaid Go.Proofs.Tryd.prog 400 os) #[.int .u8 0, .slice none 0 0] 8 rfl (shaped os _) (by kernel_rfl) (by kernel_rfl) (by kernel_rfl) (door_met os _)) ?_
  intro W base args ds gs before hval0 hW _ _ hL _
  have hval : ∀ (j : Nat) t v, Go.Proofs.Tryd.f5.params[j]? = some t → args[j]? = some v → Value.okWide Go.Proofs.Tryd.prog W .any base t v := hval0
  have hW' := hW
  obtain ⟨p, q, hA0, hV, rfl, hfz, hnd⟩ := hW
  have hA : DataW.TrodAll enc Go.Proofs.Tryd.prog W 0 (fun _ => true) true Go.Proofs.Tryd.f5.params.toList args.toList ds p := hA0
  rw [Go.Proofs.Tryd.params5] at hA hval
  obtain ⟨v0, vs0, d0, ds0, p0, q0, hargs, rfl, rfl, h0, r0⟩ := trodAll_cons hA
  obtain ⟨v1, vs1, d1, ds1, p1, q1, rfl, rfl, rfl, h1, r1⟩ := trodAll_cons r0
  obtain ⟨rfl, rfl, rfl⟩ := trodAll_nil r1
  obtain rfl : args = #[v0, v1] := by cases args; simp_all
  obtain ⟨rfl, rfl⟩ := trodVars_none hV
  obtain ⟨n0, rfl, rfl, rfl, w0⟩ := open_int Go.Proofs.Tryd.underlying5 (hval 0 5 v0 rfl rfl) h0
  obtain ⟨l, ha⟩ := argOct_of Go.Proofs.Tryd.underlying22 Go.Proofs.Tryd.underlying5 (by kernel_rfl) (hval 1 22 v1 rfl rfl) h1
  have lt1 : ∀ x ∈ p1, x.block < W.heap.size := by obtain ⟨m, hm⟩ := h1; exact DataW.trod_lt m _ _ _ hm
  rw [MakeChecks.laidMetH_plain _ _ _ (by kernel_rfl)] at hL
  obtain ⟨a1, s1, hv1, _⟩ := laid_sentinel hL gO gT Go.Proofs.Tryd.underlying44 rowP Go.Proofs.Tryd.underlying196 Go.Proofs.Tryd.underlying214 rfl rfl Go.Proofs.Tryd.underlying9 cS cStr
  have hg : W.cell? ⟨1, 0, none⟩ = some (.iface 196 (.pointer (some a1))) := by simpa using World.var?_cell gO hv1 0
  clear hA0 hval0
  refine Calls.mono (call_lawU baseS fnsS implT specT (by decide) (by decide) (by decide) lawT fd_law (n := n0) ha hg) fun e W' ⟨v', he, hv', hm⟩ => ?_
  subst he hv'
  have bel := hm.below
  exact ⟨_, rfl, _, _, _, [], _, [], hW', trodAll_mk1 (shut_bool Go.Proofs.Tryd.underlying4 _), trodAll_cons_mk (shut_int Go.Proofs.Tryd.underlying5 w0) (trodAll_cons_mk (Below.trod laidOut (by kernel_rfl) (of_decide_eq_true (by kernel_rfl)) h1 bel lt1) trodAll_mk0), rfl, bel.frame _, fun h => by cases h⟩

set_option maxHeartbeats 4000000 in
theorem joined : joinedFacts Go.Proofs.Tryd.prog 5 Go.Proofs.Tryd.f5 Rows.fnUnsafeFetchSnapshotRequestSpec Rows.fnUnsafeFetchSnapshotRequestRow = true := by
  unfold joinedFacts
  exact bandT (bandT (bandT (bandT (bandT (bandT (bandT (bandT (bandT (bandT (bandT (bandT (bandT (bandT (bandT (bandT (bandT (bandT (bandT (bandT (bandT (bandT (bandT (bandT (bandT (bandT (bandT (bandT (bandT (bandT (bandT (by as_aux_lemma => kernel_rfl) laidOut) mapsRowedS) (by as_aux_lemma => kernel_rfl)) (by as_aux_lemma => kernel_rfl)) (by as_aux_lemma => kernel_rfl)) (by as_aux_lemma => kernel_rfl)) (by as_aux_lemma => kernel_rfl)) (by as_aux_lemma => kernel_rfl)) (by as_aux_lemma => kernel_rfl)) (by as_aux_lemma => kernel_rfl)) (by as_aux_lemma => kernel_rfl)) (by as_aux_lemma => kernel_rfl)) (by as_aux_lemma => kernel_rfl)) (by as_aux_lemma => kernel_rfl)) (by as_aux_lemma => kernel_rfl)) (by as_aux_lemma => kernel_rfl)) (by as_aux_lemma => kernel_rfl)) (by as_aux_lemma => kernel_rfl)) (by as_aux_lemma => kernel_rfl)) (by as_aux_lemma => kernel_rfl)) (by as_aux_lemma => kernel_rfl)) plainKeysS) (by as_aux_lemma => kernel_rfl)) stopsHeardS) bigEnter) bigLifts) bigMake) (by as_aux_lemma => kernel_rfl)) (by as_aux_lemma => kernel_rfl)) (by as_aux_lemma => kernel_rfl)) (by as_aux_lemma => kernel_rfl)
theorem named : Go.Proofs.Tryd.prog.funcNamed Rows.fnUnsafeFetchSnapshotRequestRow.func = some 5 := by kernel_rfl
theorem isInst : Go.Proofs.Tryd.f5.isInstance Go.Proofs.Tryd.prog Rows.fnUnsafeFetchSnapshotRequestRow.origin Rows.fnUnsafeFetchSnapshotRequestRow.targs := of_decide_eq_true (by kernel_rfl)
theorem isWrap : Go.Proofs.Tryd.f5.isWrapper Go.Proofs.Tryd.prog Rows.fnUnsafeFetchSnapshotRequestRow.wrapper Rows.fnUnsafeFetchSnapshotRequestRow.mainSum := by unfold Func.isWrapper; first | (rw [if_pos (by decide +kernel)]; kernel_rfl) | (rw [if_neg (by decide +kernel)]; exact ⟨rfl, rfl⟩)
theorem row : Rows.FnUnsafeFetchSnapshotRequestSaid :=
  OpenClaim.holds_of_wide 5 Go.Proofs.Tryd.f5 rfl rfl rfl rfl rfl rfl rfl ⟨rfl, rfl, rfl, rfl, rfl⟩ rfl rfl rfl rfl rfl named Go.Proofs.Tryd.func5 joined
    isInst isWrap
    (fun os started H enc _ => lifted os started H enc)
end Go.Proofs.YtlmaknaknlbnmaaDoor.fnUnsafeFetchSnapshotRequest

namespace Go.Proofs.YtlmaknaknlbnmaaDoor
open Go.Kf
set_option maxHeartbeats 4000000 in
theorem fnUnsafeFetchSnapshotRequest_card : Rows.FnUnsafeFetchSnapshotRequestCardSaid :=
  Claim7.holds_tied_plain_at .later [] [.sentinel] true Rows.fnUnsafeFetchSnapshotRequestCard.stood.harness false
    fnUnsafeFetchSnapshotRequest.row (fun _ h => by cases h) (by as_aux_lemma => kernel_rfl) (fun _ h => by cases h) fnUnsafeFetchSnapshotRequest_row_tie rfl ⟨rfl, rfl⟩ mainS rfl
    (fun f fn hf hfn => by
      obtain rfl : f = 5 := Option.some.inj (fnUnsafeFetchSnapshotRequest.named.symm.trans hf) |>.symm
      obtain rfl : fn = Go.Proofs.Tryd.f5 := (Option.some.inj (Go.Proofs.Tryd.func5.symm.trans hfn)).symm
      refine ⟨looksS, fun j t ht => ?_⟩
      rw [Go.Proofs.Tryd.params5] at ht
      rcases j with _ | _ | j
      · obtain rfl : 5 = t := by simpa using ht
        exact (show Go.Proofs.Tryd.prog.wantsStandIn 5 = false by kernel_rfl)
      · obtain rfl : 22 = t := by simpa using ht
        exact (show Go.Proofs.Tryd.prog.wantsStandIn 22 = false by kernel_rfl)
      · simp at ht)
    (by as_aux_lemma => kernel_rfl)
#print axioms fnUnsafeFetchSnapshotRequest_card
end Go.Proofs.YtlmaknaknlbnmaaDoor
