/- Both ways of reading tell the same of any octets as a BeginQuorumEpochResponse (laws.FnUnsafeBeginQuorumEpochResponse): the tied card is proved, at every version number and all octets; no other condition. -/
import Derived.Test.YtlmaknaknlbnmaaDoorKs
set_option linter.unusedSimpArgs false
set_option linter.unusedVariables false
set_option maxRecDepth 100000
namespace Go.Kf
open Go

def tf : TypeId → FuncId × FuncId := fun | 121 => (86, 118) | 73 => (49, 87) | 78 => (50, 88) | _ => (0, 0)

def rBeginQuorumEpochResponseTopicPartition : Fds := .cons .all (.pr .i32 none) (.cons .all (.pr .i16 none) (.cons .all (.pr .i32 none) (.cons .all (.pr .i32 none) (.tags none))))
theorem df_BeginQuorumEpochResponseTopicPartition : FOk Go.Proofs.Tryd.prog 78 1 (seqs (rBeginQuorumEpochResponseTopicPartition.dfl NS 121 0)) [] := ⟨Go.Proofs.Tryd.f78, _, [0], Go.Proofs.Tryd.func78, rfl, by kernel_rfl, by kernel_rfl, by decide, by kernel_rfl, by kernel_rfl⟩
theorem ft_BeginQuorumEpochResponseTopicPartition : FOk Go.Proofs.Tryd.prog 86 1 (tellC NS tf 121 0 118 rBeginQuorumEpochResponseTopicPartition) [.cell 1 NS.zp] := ⟨Go.Proofs.Tryd.f86, _, [0, 2, 3], Go.Proofs.Tryd.func86, rfl, by kernel_rfl, by kernel_rfl, by decide, by kernel_rfl, by kernel_rfl⟩
theorem fc_BeginQuorumEpochResponseTopicPartition : FOk Go.Proofs.Tryd.prog 118 3 (cTagFn NS) [] := ⟨Go.Proofs.Tryd.f118, _, [0, 1, 2], Go.Proofs.Tryd.func118, rfl, by kernel_rfl, by kernel_rfl, by decide, by kernel_rfl, by kernel_rfl⟩
theorem tl_BeginQuorumEpochResponseTopicPartition : TellP Go.Proofs.Tryd.prog 86 0 rBeginQuorumEpochResponseTopicPartition := tellP baseS fnsS implT tellN (tf := tf) (Tt := 121) (idx0 := 0) ft_BeginQuorumEpochResponseTopicPartition (fun _ => fc_BeginQuorumEpochResponseTopicPartition) ⟨trivial, ⟨trivial, ⟨trivial, ⟨trivial, trivial⟩⟩⟩⟩ (Fds.ok_of (fx := true) (Tt := 121) (idx := 0) (off := 0) baseS fnsS rBeginQuorumEpochResponseTopicPartition (by kernel_rfl) ⟨trivial, ⟨trivial, ⟨trivial, ⟨trivial, trivial⟩⟩⟩⟩).2.1 (by decide)

def rBeginQuorumEpochResponseTopic : Fds := .cons .all (.txt .str) (.cons .all (.arr 71 none (.row 121 119 78 (.cons .all (.pr .i32 none) (.cons .all (.pr .i16 none) (.cons .all (.pr .i32 none) (.cons .all (.pr .i32 none) (.tags none))))))) (.tags none))
theorem df_BeginQuorumEpochResponseTopic : FOk Go.Proofs.Tryd.prog 73 1 (seqs (rBeginQuorumEpochResponseTopic.dfl NS 73 0)) [] := ⟨Go.Proofs.Tryd.f73, _, [0], Go.Proofs.Tryd.func73, rfl, by kernel_rfl, by kernel_rfl, by decide, by kernel_rfl, by kernel_rfl⟩
theorem ft_BeginQuorumEpochResponseTopic : FOk Go.Proofs.Tryd.prog 49 1 (tellC NS tf 73 0 87 rBeginQuorumEpochResponseTopic) [.cell 1 NS.zp] := ⟨Go.Proofs.Tryd.f49, _, [0, 2, 3, 29, 30, 31, 4, 34, 46, 47, 49], Go.Proofs.Tryd.func49, rfl, by kernel_rfl, by kernel_rfl, by decide, by kernel_rfl, by kernel_rfl⟩
theorem fc_BeginQuorumEpochResponseTopic : FOk Go.Proofs.Tryd.prog 87 3 (cTagFn NS) [] := ⟨Go.Proofs.Tryd.f87, _, [0, 1, 2], Go.Proofs.Tryd.func87, rfl, by kernel_rfl, by kernel_rfl, by decide, by kernel_rfl, by kernel_rfl⟩
theorem tl_BeginQuorumEpochResponseTopic : TellP Go.Proofs.Tryd.prog 49 0 rBeginQuorumEpochResponseTopic := tellP baseS fnsS implT tellN (tf := tf) (Tt := 73) (idx0 := 0) ft_BeginQuorumEpochResponseTopic (fun _ => fc_BeginQuorumEpochResponseTopic) ⟨trivial, ⟨⟨zfw (by kernel_rfl), el_ti (fx := true) baseS fnsS _ (by kernel_rfl) ⟨df_BeginQuorumEpochResponseTopicPartition, ⟨trivial, ⟨trivial, ⟨trivial, ⟨trivial, trivial⟩⟩⟩⟩⟩, tl_BeginQuorumEpochResponseTopicPartition⟩, trivial⟩⟩ (Fds.ok_of (fx := true) (Tt := 73) (idx := 0) (off := 0) baseS fnsS rBeginQuorumEpochResponseTopic (by kernel_rfl) ⟨trivial, ⟨⟨df_BeginQuorumEpochResponseTopicPartition, ⟨trivial, ⟨trivial, ⟨trivial, ⟨trivial, trivial⟩⟩⟩⟩⟩, trivial⟩⟩).2.1 (by decide)

def rBeginQuorumEpochResponseNodeEndpoint : Fds := .cons (.ge 1) (.pr .i32 none) (.cons (.ge 1) (.txt .str) (.cons (.ge 1) (.pr .u16 none) (.tags none)))
theorem df_BeginQuorumEpochResponseNodeEndpoint : FOk Go.Proofs.Tryd.prog 84 1 (seqs (rBeginQuorumEpochResponseNodeEndpoint.dfl NS 78 0)) [] := ⟨Go.Proofs.Tryd.f84, _, [0], Go.Proofs.Tryd.func84, rfl, by kernel_rfl, by kernel_rfl, by decide, by kernel_rfl, by kernel_rfl⟩
theorem ft_BeginQuorumEpochResponseNodeEndpoint : FOk Go.Proofs.Tryd.prog 50 1 (tellC NS tf 78 0 88 rBeginQuorumEpochResponseNodeEndpoint) [.cell 1 NS.zp] := ⟨Go.Proofs.Tryd.f50, _, [0, 2, 3], Go.Proofs.Tryd.func50, rfl, by kernel_rfl, by kernel_rfl, by decide, by kernel_rfl, by kernel_rfl⟩
theorem fc_BeginQuorumEpochResponseNodeEndpoint : FOk Go.Proofs.Tryd.prog 88 3 (cTagFn NS) [] := ⟨Go.Proofs.Tryd.f88, _, [0, 1, 2], Go.Proofs.Tryd.func88, rfl, by kernel_rfl, by kernel_rfl, by decide, by kernel_rfl, by kernel_rfl⟩
theorem tl_BeginQuorumEpochResponseNodeEndpoint : TellP Go.Proofs.Tryd.prog 50 0 rBeginQuorumEpochResponseNodeEndpoint := tellP baseS fnsS implT tellN (tf := tf) (Tt := 78) (idx0 := 0) ft_BeginQuorumEpochResponseNodeEndpoint (fun _ => fc_BeginQuorumEpochResponseNodeEndpoint) ⟨trivial, ⟨trivial, ⟨trivial, trivial⟩⟩⟩ (Fds.ok_of (fx := true) (Tt := 78) (idx := 0) (off := 0) baseS fnsS rBeginQuorumEpochResponseNodeEndpoint (by kernel_rfl) ⟨trivial, ⟨trivial, ⟨trivial, trivial⟩⟩⟩).2.1 (by decide)

def mS : Msg := ⟨67, 39, 47, 1, false, .cons .all (.pr .i16 none) (.cons .all (.arr 61 none (.row 73 70 73 (.cons .all (.txt .str) (.cons .all (.arr 71 none (.row 121 119 78 (.cons .all (.pr .i32 none) (.cons .all (.pr .i16 none) (.cons .all (.pr .i32 none) (.cons .all (.pr .i32 none) (.tags none))))))) (.tags none))))) (.cons .never (.arr 62 none (.row 78 75 84 (.cons (.ge 1) (.pr .i32 none) (.cons (.ge 1) (.txt .str) (.cons (.ge 1) (.pr .u16 none) (.tags none)))))) ((.tags (some 2)))))⟩
def dS : zqe where
  newP := 22
  setV := 24
  maxV := 23
  readF := 25
  unsF := 27
  readf := 48
  tell := 26
  maxI := 7
  tellI := 8
  unsI := 10
theorem rd_m : FOk Go.Proofs.Tryd.prog 48 3 (mS.gen NS true) [.var 3] := ⟨Go.Proofs.Tryd.f48, _, [0, 1, 2, 6, 7, 8, 9, 10, 11, 12, 13, 14, 65, 69, 74, 15, 80, 16, 17, 18, 89, 90, 93, 19, 20, 21, 105, 109, 114, 22, 120, 23, 24, 25, 26, 27, 28, 149, 159, 169, 29, 172, 30, 176, 185, 31, 32, 33, 34, 196, 200, 205, 35, 211, 36, 37, 221, 38, 228, 39, 229, 230, 233, 241, 40, 247, 41, 259], Go.Proofs.Tryd.func48, rfl, by kernel_rfl, by kernel_rfl, by decide, by kernel_rfl, by kernel_rfl⟩
theorem df_m : FOk Go.Proofs.Tryd.prog 47 1 (seqs (mS.fs.dfl NS mS.tT 1)) [] := ⟨Go.Proofs.Tryd.f47, _, [0], Go.Proofs.Tryd.func47, rfl, by kernel_rfl, by kernel_rfl, by decide, by kernel_rfl, by kernel_rfl⟩
theorem mt : MsgT Go.Proofs.Tryd.prog NS mS true := msgT_of baseS fnsS (by kernel_rfl) (by kernel_rfl) (by kernel_rfl) (by kernel_rfl) ⟨trivial, ⟨⟨df_BeginQuorumEpochResponseTopic, ⟨trivial, ⟨⟨df_BeginQuorumEpochResponseTopicPartition, ⟨trivial, ⟨trivial, ⟨trivial, ⟨trivial, trivial⟩⟩⟩⟩⟩, trivial⟩⟩⟩, ⟨⟨df_BeginQuorumEpochResponseNodeEndpoint, ⟨trivial, ⟨trivial, ⟨trivial, trivial⟩⟩⟩⟩, trivial⟩⟩⟩ df_m
theorem ft_BeginQuorumEpochResponse : FOk Go.Proofs.Tryd.prog 26 1 (tellC NS tf 67 1 52 mS.fs) [.cell 1 NS.zp] := ⟨Go.Proofs.Tryd.f26, _, [0, 2, 3, 30, 31, 32, 4, 35, 47, 48, 50, 86, 87, 88, 5, 91, 103, 104, 106], Go.Proofs.Tryd.func26, rfl, by kernel_rfl, by kernel_rfl, by decide, by kernel_rfl, by kernel_rfl⟩
theorem fc_BeginQuorumEpochResponse : FOk Go.Proofs.Tryd.prog 52 3 (cTagFn NS) [] := ⟨Go.Proofs.Tryd.f52, _, [0, 1, 2], Go.Proofs.Tryd.func52, rfl, by kernel_rfl, by kernel_rfl, by decide, by kernel_rfl, by kernel_rfl⟩
theorem tl_BeginQuorumEpochResponse : TellP Go.Proofs.Tryd.prog 26 1 mS.fs := tellP baseS fnsS implT tellN (tf := tf) (Tt := 67) (idx0 := 1) ft_BeginQuorumEpochResponse (fun _ => fc_BeginQuorumEpochResponse) ⟨trivial, ⟨⟨zfw (by kernel_rfl), el_ti (fx := true) baseS fnsS _ (by kernel_rfl) ⟨df_BeginQuorumEpochResponseTopic, ⟨trivial, ⟨⟨df_BeginQuorumEpochResponseTopicPartition, ⟨trivial, ⟨trivial, ⟨trivial, ⟨trivial, trivial⟩⟩⟩⟩⟩, trivial⟩⟩⟩, tl_BeginQuorumEpochResponseTopic⟩, ⟨⟨zfw (by kernel_rfl), el_ti (fx := true) baseS fnsS _ (by kernel_rfl) ⟨df_BeginQuorumEpochResponseNodeEndpoint, ⟨trivial, ⟨trivial, ⟨trivial, trivial⟩⟩⟩⟩, tl_BeginQuorumEpochResponseNodeEndpoint⟩, trivial⟩⟩⟩ mt.hf (by decide)
theorem fd_new : FOk Go.Proofs.Tryd.prog 22 0 (c_new NS mS.tT mS.dflt) [.var 0] := ⟨Go.Proofs.Tryd.f22, _, [0, 1], Go.Proofs.Tryd.func22, rfl, by kernel_rfl, by kernel_rfl, by decide, by kernel_rfl, by kernel_rfl⟩
theorem fd_set : FOk Go.Proofs.Tryd.prog 24 2 (c_set NS mS.tT) [] := ⟨Go.Proofs.Tryd.f24, _, [0, 1], Go.Proofs.Tryd.func24, rfl, by kernel_rfl, by kernel_rfl, by decide, by kernel_rfl, by kernel_rfl⟩
theorem door : zti Go.Proofs.Tryd.prog NS mS true dS where
  msg := mt
  vin := rfl
  ti := (tsB_ok (by' := zta Go.Proofs.Tryd.prog 67) (by kernel_rfl)).imp fun _ h => ⟨_, h⟩
  newP := fd_new
  setV := fd_set
  readf := rd_m
  tell := fun _ => tl_BeginQuorumEpochResponse
  dok := ⟨⟨_, rfl, by decide⟩, ⟨⟨⟨⟨_, rfl, by decide⟩, ⟨⟨_, rfl, by decide⟩, ⟨⟨_, rfl, by decide⟩, ⟨⟨_, rfl, by decide⟩, trivial⟩⟩⟩⟩, trivial⟩, ⟨⟨⟨_, rfl, by decide⟩, ⟨⟨_, rfl, by decide⟩, trivial⟩⟩, trivial⟩⟩⟩
  shB := by kernel_rfl
  cnt := by decide
theorem fd_rf : FOk Go.Proofs.Tryd.prog 25 2 (c_rf NS mS.pT 48 false) [.var 2] := ⟨Go.Proofs.Tryd.f25, _, [0, 1, 4], Go.Proofs.Tryd.func25, rfl, by kernel_rfl, by kernel_rfl, by decide, by kernel_rfl, by kernel_rfl⟩
theorem fd_uf : FOk Go.Proofs.Tryd.prog 27 2 (c_rf NS mS.pT 48 true) [.var 2] := ⟨Go.Proofs.Tryd.f27, _, [0, 1, 4], Go.Proofs.Tryd.func27, rfl, by kernel_rfl, by kernel_rfl, by decide, by kernel_rfl, by kernel_rfl⟩
theorem fd_mv : FOk Go.Proofs.Tryd.prog 23 1 (c_max 1) [.var 1] := ⟨Go.Proofs.Tryd.f23, _, [0, 2], Go.Proofs.Tryd.func23, rfl, by kernel_rfl, by kernel_rfl, by decide, by kernel_rfl, by kernel_rfl⟩
theorem fd_mi : FOk Go.Proofs.Tryd.prog 7 0 (c_maxI NS mS.pT 22 23) [.var 0] := ⟨Go.Proofs.Tryd.f7, _, [0], Go.Proofs.Tryd.func7, rfl, by kernel_rfl, by kernel_rfl, by decide, by kernel_rfl, by kernel_rfl⟩
theorem fd_tellI : FOk Go.Proofs.Tryd.prog 8 2 (c_door NS mS.pT 22 24 25 26) [.cell 2 NS.zp, .var 3] := ⟨Go.Proofs.Tryd.f8, _, [0, 1, 4, 5, 6, 16], Go.Proofs.Tryd.func8, rfl, by kernel_rfl, by kernel_rfl, by decide, by kernel_rfl, by kernel_rfl⟩
theorem fd_unsI : FOk Go.Proofs.Tryd.prog 10 2 (c_door NS mS.pT 22 24 27 26) [.cell 2 NS.zp, .var 3] := ⟨Go.Proofs.Tryd.f10, _, [0, 1, 4, 5, 6, 16], Go.Proofs.Tryd.func10, rfl, by kernel_rfl, by kernel_rfl, by decide, by kernel_rfl, by kernel_rfl⟩
theorem lawT : LawT Go.Proofs.Tryd.prog NS mS true dS 1 := ⟨door, fd_rf, fd_uf, fd_mv, fd_mi, fd_tellI, fd_unsI, by decide, by decide, by decide⟩
theorem fd_law : FOk Go.Proofs.Tryd.prog 3 2 (c_lawU NS 28 dS.maxI dS.tellI dS.unsI 1000) [.var 2] := ⟨Go.Proofs.Tryd.f3, _, [0, 1, 4, 12, 5, 15, 18, 6, 7, 8, 9], Go.Proofs.Tryd.func3, rfl, by kernel_rfl, by kernel_rfl, by decide, by kernel_rfl, by kernel_rfl⟩
end Go.Kf

namespace Go.Proofs.YtlmaknaknlbnmaaDoor.fnUnsafeBeginQuorumEpochResponse
open Go.ChangeShapes Go.WideShapes Go.ChangeAt Go.RowKit Go.Kf

set_option maxHeartbeats 4000000 in
theorem lifted (os : Os) (started : os.Started) (H : Type) (enc : TypeId × Value → H) :
    ReturnsInHanded {} Go.Proofs.Tryd.checked os 3 .any (fun w args => (Rows.fnUnsafeBeginQuorumEpochResponseSpec.pre enc Go.Proofs.Tryd.prog Go.Proofs.Tryd.f3 [] false w args ∧ laidMetH Go.Proofs.Tryd.prog Rows.fnUnsafeBeginQuorumEpochResponseRow.laid w) ∧ sizedMet enc Go.Proofs.Tryd.prog Go.Proofs.Tryd.f3 (OpenSpec.ofChange Rows.fnUnsafeBeginQuorumEpochResponseSpec) false w args)
      (Rows.fnUnsafeBeginQuorumEpochResponseSpec.post enc Go.Proofs.Tryd.prog Go.Proofs.Tryd.f3 false true false false) := by
  refine returnsInHanded_of_change_and (C := Go.Proofs.Tryd.checked) (X := fun w _ => laidMetH Go.Proofs.Tryd.prog Rows.fnUnsafeBeginQuorumEpochResponseRow.laid w) (fun _ _ _ hh h => h.of_heap hh) own started (by kernel_rfl) Go.Proofs.Tryd.func3
    (ChangeSpec.witness_shaped (enc := enc) (C := Go.Proofs.Tryd.checked) (os := os) (X := fun w _ => laidMetH Go.Proofs.Tryd.prog Rows.fnUnsafeBeginQuorumEpochResponseRow.laid w) false (World.doorLaid Go.Proofs.Tryd.prog 400 os) #[.int .u8 0, .slice none 0 0] 8 rfl (shaped os _) (by kernel_rfl) (by kernel_rfl) (by kernel_rfl) (door_met os _)) ?_
  intro W base args ds gs before hval0 hW _ _ hL _
  have hval : ∀ (j : Nat) t v, Go.Proofs.Tryd.f3.params[j]? = some t → args[j]? = some v → Value.okWide Go.Proofs.Tryd.prog W .any base t v := hval0
  have hW' := hW
  obtain ⟨p, q, hA0, hV, rfl, hfz, hnd⟩ := hW
  have hA : DataW.TrodAll enc Go.Proofs.Tryd.prog W 0 (fun _ => true) true Go.Proofs.Tryd.f3.params.toList args.toList ds p := hA0
  rw [Go.Proofs.Tryd.params3] at hA hval
  obtain ⟨v0, vs0, d0, ds0, p0, q0, hargs, rfl, rfl, h0, r0⟩ := trodAll_cons hA
  obtain ⟨v1, vs1, d1, ds1, p1, q1, rfl, rfl, rfl, h1, r1⟩ := trodAll_cons r0
  obtain ⟨rfl, rfl, rfl⟩ := trodAll_nil r1
  obtain rfl : args = #[v0, v1] := by cases args; simp_all
  obtain ⟨rfl, rfl⟩ := trodVars_none hV
  obtain ⟨n0, rfl, rfl, rfl, w0⟩ := open_int Go.Proofs.Tryd.underlying5 (hval 0 5 v0 rfl rfl) h0
  obtain ⟨l, ha⟩ := argOct_of Go.Proofs.Tryd.underlying22 Go.Proofs.Tryd.underlying5 (by kernel_rfl) (hval 1 22 v1 rfl rfl) h1
  have lt1 : ∀ x ∈ p1, x.block < W.heap.size := by obtain ⟨m, hm⟩ := h1; exact DataW.trod_lt m _ _ _ hm
  rw [MakeChecks.laidMetH_plain _ _ _ (by kernel_rfl)] at hL
  obtain ⟨a1, s1, hv1, _⟩ := laid_sentinel hL gO gT Go.Proofs.Tryd.underlying44 rowP Go.Proofs.Tryd.underlying196 Go.Proofs.Tryd.underlying214 rfl rfl Go.Proofs.Tryd.underlying9 cS cStr
  have hg : W.cell? ⟨1, 0, none⟩ = some (.iface 196 (.pointer (some a1))) := by simpa using World.var?_cell gO hv1 0
  clear hA0 hval0
  refine Calls.mono (call_lawU baseS fnsS implT specT (by decide) (by decide) (by decide) lawT fd_law (n := n0) ha hg) fun e W' ⟨v', he, hv', hm⟩ => ?_
  subst he hv'
  have bel := hm.below
  exact ⟨_, rfl, _, _, _, [], _, [], hW', trodAll_mk1 (shut_bool Go.Proofs.Tryd.underlying4 _), trodAll_cons_mk (shut_int Go.Proofs.Tryd.underlying5 w0) (trodAll_cons_mk (Below.trod laidOut (by kernel_rfl) (of_decide_eq_true (by kernel_rfl)) h1 bel lt1) trodAll_mk0), rfl, bel.frame _, fun h => by cases h⟩

set_option maxHeartbeats 4000000 in
theorem joined : joinedFacts Go.Proofs.Tryd.prog 3 Go.Proofs.Tryd.f3 Rows.fnUnsafeBeginQuorumEpochResponseSpec Rows.fnUnsafeBeginQuorumEpochResponseRow = true := by
  unfold joinedFacts
  exact bandT (bandT (bandT (bandT (bandT (bandT (bandT (bandT (bandT (bandT (bandT (bandT (bandT (bandT (bandT (bandT (bandT (bandT (bandT (bandT (bandT (bandT (bandT (bandT (bandT (bandT (bandT (bandT (bandT (bandT (bandT (by as_aux_lemma => kernel_rfl) laidOut) mapsRowedS) (by as_aux_lemma => kernel_rfl)) (by as_aux_lemma => kernel_rfl)) (by as_aux_lemma => kernel_rfl)) (by as_aux_lemma => kernel_rfl)) (by as_aux_lemma => kernel_rfl)) (by as_aux_lemma => kernel_rfl)) (by as_aux_lemma => kernel_rfl)) (by as_aux_lemma => kernel_rfl)) (by as_aux_lemma => kernel_rfl)) (by as_aux_lemma => kernel_rfl)) (by as_aux_lemma => kernel_rfl)) (by as_aux_lemma => kernel_rfl)) (by as_aux_lemma => kernel_rfl)) (by as_aux_lemma => kernel_rfl)) (by as_aux_lemma => kernel_rfl)) (by as_aux_lemma => kernel_rfl)) (by as_aux_lemma => kernel_rfl)) (by as_aux_lemma => kernel_rfl)) (by as_aux_lemma => kernel_rfl)) plainKeysS) (by as_aux_lemma => kernel_rfl)) stopsHeardS) bigEnter) bigLifts) bigMake) (by as_aux_lemma => kernel_rfl)) (by as_aux_lemma => kernel_rfl)) (by as_aux_lemma => kernel_rfl)) (by as_aux_lemma => kernel_rfl)
theorem named : Go.Proofs.Tryd.prog.funcNamed Rows.fnUnsafeBeginQuorumEpochResponseRow.func = some 3 := by kernel_rfl
theorem isInst : Go.Proofs.Tryd.f3.isInstance Go.Proofs.Tryd.prog Rows.fnUnsafeBeginQuorumEpochResponseRow.origin Rows.fnUnsafeBeginQuorumEpochResponseRow.targs := of_decide_eq_true (by kernel_rfl)
theorem isWrap : Go.Proofs.Tryd.f3.isWrapper Go.Proofs.Tryd.prog Rows.fnUnsafeBeginQuorumEpochResponseRow.wrapper Rows.fnUnsafeBeginQuorumEpochResponseRow.mainSum := by unfold Func.isWrapper; first | (rw [if_pos (by decide +kernel)]; kernel_rfl) | (rw [if_neg (by decide +kernel)]; exact ⟨rfl, rfl⟩)
theorem row : Rows.FnUnsafeBeginQuorumEpochResponseSaid :=
  OpenClaim.holds_of_wide 3 Go.Proofs.Tryd.f3 rfl rfl rfl rfl rfl rfl rfl ⟨rfl, rfl, rfl, rfl, rfl⟩ rfl rfl rfl rfl rfl named Go.Proofs.Tryd.func3 joined
    isInst isWrap
    (fun os started H enc _ => lifted os started H enc)
end Go.Proofs.YtlmaknaknlbnmaaDoor.fnUnsafeBeginQuorumEpochResponse

namespace Go.Proofs.YtlmaknaknlbnmaaDoor
open Go.Kf
set_option maxHeartbeats 4000000 in
theorem fnUnsafeBeginQuorumEpochResponse_card : Rows.FnUnsafeBeginQuorumEpochResponseCardSaid :=
  Claim7.holds_tied_plain_at .later [] [.sentinel] true Rows.fnUnsafeBeginQuorumEpochResponseCard.stood.harness false
    fnUnsafeBeginQuorumEpochResponse.row (fun _ h => by cases h) (by as_aux_lemma => kernel_rfl) (fun _ h => by cases h) fnUnsafeBeginQuorumEpochResponse_row_tie rfl ⟨rfl, rfl⟩ mainS rfl
    (fun f fn hf hfn => by
      obtain rfl : f = 3 := Option.some.inj (fnUnsafeBeginQuorumEpochResponse.named.symm.trans hf) |>.symm
      obtain rfl : fn = Go.Proofs.Tryd.f3 := (Option.some.inj (Go.Proofs.Tryd.func3.symm.trans hfn)).symm
      refine ⟨looksS, fun j t ht => ?_⟩
      rw [Go.Proofs.Tryd.params3] at ht
      rcases j with _ | _ | j
      · obtain rfl : 5 = t := by simpa using ht
        exact (show Go.Proofs.Tryd.prog.wantsStandIn 5 = false by kernel_rfl)
      · obtain rfl : 22 = t := by simpa using ht
        exact (show Go.Proofs.Tryd.prog.wantsStandIn 22 = false by kernel_rfl)
      · simp at ht)
    (by as_aux_lemma => kernel_rfl)
#print axioms fnUnsafeBeginQuorumEpochResponse_card
end Go.Proofs.YtlmaknaknlbnmaaDoor
