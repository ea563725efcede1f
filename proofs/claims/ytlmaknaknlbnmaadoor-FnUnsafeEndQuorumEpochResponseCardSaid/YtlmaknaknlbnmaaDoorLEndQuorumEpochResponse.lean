/- Both ways of reading tell the same of any octets as a EndQuorumEpochResponse (laws.FnUnsafeEndQuorumEpochResponse): the tied card is proved, at every version number and all octets; no other condition. -/
import Derived.Test.YtlmaknaknlbnmaaDoorKs
set_option linter.unusedSimpArgs false
set_option linter.unusedVariables false
set_option maxRecDepth 100000
namespace Go.Kf
open Go

def tf : TypeId → FuncId × FuncId := fun | 133 => (94, 124) | 90 => (56, 95) | 93 => (57, 96) | _ => (0, 0)

def rEndQuorumEpochResponseTopicPartition : Fds := .cons .all (.pr .i32 none) (.cons .all (.pr .i16 none) (.cons .all (.pr .i32 none) (.cons .all (.pr .i32 none) (.tags none))))
theorem df_EndQuorumEpochResponseTopicPartition : FOk Go.Proofs.Tryd.prog 92 1 (seqs (rEndQuorumEpochResponseTopicPartition.dfl NS 133 0)) [] := ⟨Go.Proofs.Tryd.f92, _, [0], Go.Proofs.Tryd.func92, rfl, by kernel_rfl, by kernel_rfl, by decide, by kernel_rfl, by kernel_rfl⟩
theorem ft_EndQuorumEpochResponseTopicPartition : FOk Go.Proofs.Tryd.prog 94 1 (tellC NS tf 133 0 124 rEndQuorumEpochResponseTopicPartition) [.cell 1 NS.zp] := ⟨Go.Proofs.Tryd.f94, _, [0, 2, 3], Go.Proofs.Tryd.func94, rfl, by kernel_rfl, by kernel_rfl, by decide, by kernel_rfl, by kernel_rfl⟩
theorem fc_EndQuorumEpochResponseTopicPartition : FOk Go.Proofs.Tryd.prog 124 3 (cTagFn NS) [] := ⟨Go.Proofs.Tryd.f124, _, [0, 1, 2], Go.Proofs.Tryd.func124, rfl, by kernel_rfl, by kernel_rfl, by decide, by kernel_rfl, by kernel_rfl⟩
theorem tl_EndQuorumEpochResponseTopicPartition : TellP Go.Proofs.Tryd.prog 94 0 rEndQuorumEpochResponseTopicPartition := tellP baseS fnsS implT tellN (tf := tf) (Tt := 133) (idx0 := 0) ft_EndQuorumEpochResponseTopicPartition (fun _ => fc_EndQuorumEpochResponseTopicPartition) ⟨trivial, ⟨trivial, ⟨trivial, ⟨trivial, trivial⟩⟩⟩⟩ (Fds.ok_of (fx := true) (Tt := 133) (idx := 0) (off := 0) baseS fnsS rEndQuorumEpochResponseTopicPartition (by kernel_rfl) ⟨trivial, ⟨trivial, ⟨trivial, ⟨trivial, trivial⟩⟩⟩⟩).2.1 (by decide)

def rEndQuorumEpochResponseTopic : Fds := .cons .all (.txt .str) (.cons .all (.arr 88 none (.row 133 132 92 (.cons .all (.pr .i32 none) (.cons .all (.pr .i16 none) (.cons .all (.pr .i32 none) (.cons .all (.pr .i32 none) (.tags none))))))) (.tags none))
theorem df_EndQuorumEpochResponseTopic : FOk Go.Proofs.Tryd.prog 91 1 (seqs (rEndQuorumEpochResponseTopic.dfl NS 90 0)) [] := ⟨Go.Proofs.Tryd.f91, _, [0], Go.Proofs.Tryd.func91, rfl, by kernel_rfl, by kernel_rfl, by decide, by kernel_rfl, by kernel_rfl⟩
theorem ft_EndQuorumEpochResponseTopic : FOk Go.Proofs.Tryd.prog 56 1 (tellC NS tf 90 0 95 rEndQuorumEpochResponseTopic) [.cell 1 NS.zp] := ⟨Go.Proofs.Tryd.f56, _, [0, 2, 3, 29, 30, 31, 4, 34, 46, 47, 49], Go.Proofs.Tryd.func56, rfl, by kernel_rfl, by kernel_rfl, by decide, by kernel_rfl, by kernel_rfl⟩
theorem fc_EndQuorumEpochResponseTopic : FOk Go.Proofs.Tryd.prog 95 3 (cTagFn NS) [] := ⟨Go.Proofs.Tryd.f95, _, [0, 1, 2], Go.Proofs.Tryd.func95, rfl, by kernel_rfl, by kernel_rfl, by decide, by kernel_rfl, by kernel_rfl⟩
theorem tl_EndQuorumEpochResponseTopic : TellP Go.Proofs.Tryd.prog 56 0 rEndQuorumEpochResponseTopic := tellP baseS fnsS implT tellN (tf := tf) (Tt := 90) (idx0 := 0) ft_EndQuorumEpochResponseTopic (fun _ => fc_EndQuorumEpochResponseTopic) ⟨trivial, ⟨⟨zfw (by kernel_rfl), el_ti (fx := true) baseS fnsS _ (by kernel_rfl) ⟨df_EndQuorumEpochResponseTopicPartition, ⟨trivial, ⟨trivial, ⟨trivial, ⟨trivial, trivial⟩⟩⟩⟩⟩, tl_EndQuorumEpochResponseTopicPartition⟩, trivial⟩⟩ (Fds.ok_of (fx := true) (Tt := 90) (idx := 0) (off := 0) baseS fnsS rEndQuorumEpochResponseTopic (by kernel_rfl) ⟨trivial, ⟨⟨df_EndQuorumEpochResponseTopicPartition, ⟨trivial, ⟨trivial, ⟨trivial, ⟨trivial, trivial⟩⟩⟩⟩⟩, trivial⟩⟩).2.1 (by decide)

def rEndQuorumEpochResponseNodeEndpoint : Fds := .cons (.ge 1) (.pr .i32 none) (.cons (.ge 1) (.txt .str) (.cons (.ge 1) (.pr .u16 none) (.tags none)))
theorem df_EndQuorumEpochResponseNodeEndpoint : FOk Go.Proofs.Tryd.prog 93 1 (seqs (rEndQuorumEpochResponseNodeEndpoint.dfl NS 93 0)) [] := ⟨Go.Proofs.Tryd.f93, _, [0], Go.Proofs.Tryd.func93, rfl, by kernel_rfl, by kernel_rfl, by decide, by kernel_rfl, by kernel_rfl⟩
theorem ft_EndQuorumEpochResponseNodeEndpoint : FOk Go.Proofs.Tryd.prog 57 1 (tellC NS tf 93 0 96 rEndQuorumEpochResponseNodeEndpoint) [.cell 1 NS.zp] := ⟨Go.Proofs.Tryd.f57, _, [0, 2, 3], Go.Proofs.Tryd.func57, rfl, by kernel_rfl, by kernel_rfl, by decide, by kernel_rfl, by kernel_rfl⟩
theorem fc_EndQuorumEpochResponseNodeEndpoint : FOk Go.Proofs.Tryd.prog 96 3 (cTagFn NS) [] := ⟨Go.Proofs.Tryd.f96, _, [0, 1, 2], Go.Proofs.Tryd.func96, rfl, by kernel_rfl, by kernel_rfl, by decide, by kernel_rfl, by kernel_rfl⟩
theorem tl_EndQuorumEpochResponseNodeEndpoint : TellP Go.Proofs.Tryd.prog 57 0 rEndQuorumEpochResponseNodeEndpoint := tellP baseS fnsS implT tellN (tf := tf) (Tt := 93) (idx0 := 0) ft_EndQuorumEpochResponseNodeEndpoint (fun _ => fc_EndQuorumEpochResponseNodeEndpoint) ⟨trivial, ⟨trivial, ⟨trivial, trivial⟩⟩⟩ (Fds.ok_of (fx := true) (Tt := 93) (idx := 0) (off := 0) baseS fnsS rEndQuorumEpochResponseNodeEndpoint (by kernel_rfl) ⟨trivial, ⟨trivial, ⟨trivial, trivial⟩⟩⟩).2.1 (by decide)

def mS : Msg := ⟨85, 52, 54, 1, false, .cons .all (.pr .i16 none) (.cons .all (.arr 82 none (.row 90 87 91 (.cons .all (.txt .str) (.cons .all (.arr 88 none (.row 133 132 92 (.cons .all (.pr .i32 none) (.cons .all (.pr .i16 none) (.cons .all (.pr .i32 none) (.cons .all (.pr .i32 none) (.tags none))))))) (.tags none))))) (.cons .never (.arr 83 none (.row 93 92 93 (.cons (.ge 1) (.pr .i32 none) (.cons (.ge 1) (.txt .str) (.cons (.ge 1) (.pr .u16 none) (.tags none)))))) ((.tags (some 2)))))⟩
def dS : zqe where
  newP := 29
  setV := 31
  maxV := 30
  readF := 32
  unsF := 34
  readf := 55
  tell := 33
  maxI := 13
  tellI := 14
  unsI := 15
theorem rd_m : FOk Go.Proofs.Tryd.prog 55 3 (mS.gen NS true) [.var 3] := ⟨Go.Proofs.Tryd.f55, _, [0, 1, 2, 6, 7, 8, 9, 10, 11, 12, 13, 14, 65, 69, 74, 15, 80, 16, 17, 18, 89, 90, 93, 19, 20, 21, 105, 109, 114, 22, 120, 23, 24, 25, 26, 27, 28, 149, 159, 169, 29, 172, 30, 176, 185, 31, 32, 33, 34, 196, 200, 205, 35, 211, 36, 37, 221, 38, 228, 39, 229, 230, 233, 241, 40, 247, 41, 259], Go.Proofs.Tryd.func55, rfl, by kernel_rfl, by kernel_rfl, by decide, by kernel_rfl, by kernel_rfl⟩
theorem df_m : FOk Go.Proofs.Tryd.prog 54 1 (seqs (mS.fs.dfl NS mS.tT 1)) [] := ⟨Go.Proofs.Tryd.f54, _, [0], Go.Proofs.Tryd.func54, rfl, by kernel_rfl, by kernel_rfl, by decide, by kernel_rfl, by kernel_rfl⟩
theorem mt : MsgT Go.Proofs.Tryd.prog NS mS true := msgT_of baseS fnsS (by kernel_rfl) (by kernel_rfl) (by kernel_rfl) (by kernel_rfl) ⟨trivial, ⟨⟨df_EndQuorumEpochResponseTopic, ⟨trivial, ⟨⟨df_EndQuorumEpochResponseTopicPartition, ⟨trivial, ⟨trivial, ⟨trivial, ⟨trivial, trivial⟩⟩⟩⟩⟩, trivial⟩⟩⟩, ⟨⟨df_EndQuorumEpochResponseNodeEndpoint, ⟨trivial, ⟨trivial, ⟨trivial, trivial⟩⟩⟩⟩, trivial⟩⟩⟩ df_m
theorem ft_EndQuorumEpochResponse : FOk Go.Proofs.Tryd.prog 33 1 (tellC NS tf 85 1 58 mS.fs) [.cell 1 NS.zp] := ⟨Go.Proofs.Tryd.f33, _, [0, 2, 3, 30, 31, 32, 4, 35, 47, 48, 50, 86, 87, 88, 5, 91, 103, 104, 106], Go.Proofs.Tryd.func33, rfl, by kernel_rfl, by kernel_rfl, by decide, by kernel_rfl, by kernel_rfl⟩
theorem fc_EndQuorumEpochResponse : FOk Go.Proofs.Tryd.prog 58 3 (cTagFn NS) [] := ⟨Go.Proofs.Tryd.f58, _, [0, 1, 2], Go.Proofs.Tryd.func58, rfl, by kernel_rfl, by kernel_rfl, by decide, by kernel_rfl, by kernel_rfl⟩
theorem tl_EndQuorumEpochResponse : TellP Go.Proofs.Tryd.prog 33 1 mS.fs := tellP baseS fnsS implT tellN (tf := tf) (Tt := 85) (idx0 := 1) ft_EndQuorumEpochResponse (fun _ => fc_EndQuorumEpochResponse) ⟨trivial, ⟨⟨zfw (by kernel_rfl), el_ti (fx := true) baseS fnsS _ (by kernel_rfl) ⟨df_EndQuorumEpochResponseTopic, ⟨trivial, ⟨⟨df_EndQuorumEpochResponseTopicPartition, ⟨trivial, ⟨trivial, ⟨trivial, ⟨trivial, trivial⟩⟩⟩⟩⟩, trivial⟩⟩⟩, tl_EndQuorumEpochResponseTopic⟩, ⟨⟨zfw (by kernel_rfl), el_ti (fx := true) baseS fnsS _ (by kernel_rfl) ⟨df_EndQuorumEpochResponseNodeEndpoint, ⟨trivial, ⟨trivial, ⟨trivial, trivial⟩⟩⟩⟩, tl_EndQuorumEpochResponseNodeEndpoint⟩, trivial⟩⟩⟩ mt.hf (by decide)
theorem fd_new : FOk Go.Proofs.Tryd.prog 29 0 (c_new NS mS.tT mS.dflt) [.var 0] := ⟨Go.Proofs.Tryd.f29, _, [0, 1], Go.Proofs.Tryd.func29, rfl, by kernel_rfl, by kernel_rfl, by decide, by kernel_rfl, by kernel_rfl⟩
theorem fd_set : FOk Go.Proofs.Tryd.prog 31 2 (c_set NS mS.tT) [] := ⟨Go.Proofs.Tryd.f31, _, [0, 1], Go.Proofs.Tryd.func31, rfl, by kernel_rfl, by kernel_rfl, by decide, by kernel_rfl, by kernel_rfl⟩
theorem door : zti Go.Proofs.Tryd.prog NS mS true dS where
  msg := mt
  vin := rfl
  ti := (tsB_ok (by' := zta Go.Proofs.Tryd.prog 85) (by kernel_rfl)).imp fun _ h => ⟨_, h⟩
  newP := fd_new
  setV := fd_set
  readf := rd_m
  tell := fun _ => tl_EndQuorumEpochResponse
  dok := ⟨⟨_, rfl, by decide⟩, ⟨⟨⟨⟨_, rfl, by decide⟩, ⟨⟨_, rfl, by decide⟩, ⟨⟨_, rfl, by decide⟩, ⟨⟨_, rfl, by decide⟩, trivial⟩⟩⟩⟩, trivial⟩, ⟨⟨⟨_, rfl, by decide⟩, ⟨⟨_, rfl, by decide⟩, trivial⟩⟩, trivial⟩⟩⟩
  shB := by kernel_rfl
  cnt := by decide
theorem fd_rf : FOk Go.Proofs.Tryd.prog 32 2 (c_rf NS mS.pT 55 false) [.var 2] := ⟨Go.Proofs.Tryd.f32, _, [0, 1, 4], Go.Proofs.Tryd.func32, rfl, by kernel_rfl, by kernel_rfl, by decide, by kernel_rfl, by kernel_rfl⟩
theorem fd_uf : FOk Go.Proofs.Tryd.prog 34 2 (c_rf NS mS.pT 55 true) [.var 2] := ⟨Go.Proofs.Tryd.f34, _, [0, 1, 4], Go.Proofs.Tryd.func34, rfl, by kernel_rfl, by kernel_rfl, by decide, by kernel_rfl, by kernel_rfl⟩
theorem fd_mv : FOk Go.Proofs.Tryd.prog 30 1 (c_max 1) [.var 1] := ⟨Go.Proofs.Tryd.f30, _, [0, 2], Go.Proofs.Tryd.func30, rfl, by kernel_rfl, by kernel_rfl, by decide, by kernel_rfl, by kernel_rfl⟩
theorem fd_mi : FOk Go.Proofs.Tryd.prog 13 0 (c_maxI NS mS.pT 29 30) [.var 0] := ⟨Go.Proofs.Tryd.f13, _, [0], Go.Proofs.Tryd.func13, rfl, by kernel_rfl, by kernel_rfl, by decide, by kernel_rfl, by kernel_rfl⟩
theorem fd_tellI : FOk Go.Proofs.Tryd.prog 14 2 (c_door NS mS.pT 29 31 32 33) [.cell 2 NS.zp, .var 3] := ⟨Go.Proofs.Tryd.f14, _, [0, 1, 4, 5, 6, 16], Go.Proofs.Tryd.func14, rfl, by kernel_rfl, by kernel_rfl, by decide, by kernel_rfl, by kernel_rfl⟩
theorem fd_unsI : FOk Go.Proofs.Tryd.prog 15 2 (c_door NS mS.pT 29 31 34 33) [.cell 2 NS.zp, .var 3] := ⟨Go.Proofs.Tryd.f15, _, [0, 1, 4, 5, 6, 16], Go.Proofs.Tryd.func15, rfl, by kernel_rfl, by kernel_rfl, by decide, by kernel_rfl, by kernel_rfl⟩
theorem lawT : LawT Go.Proofs.Tryd.prog NS mS true dS 1 := ⟨door, fd_rf, fd_uf, fd_mv, fd_mi, fd_tellI, fd_unsI, by decide, by decide, by decide⟩
theorem fd_law : FOk Go.Proofs.Tryd.prog 4 2 (c_lawU NS 28 dS.maxI dS.tellI dS.unsI 1000) [.var 2] := ⟨Go.Proofs.Tryd.f4, _, [0, 1, 4, 12, 5, 15, 18, 6, 7, 8, 9], Go.Proofs.Tryd.func4, rfl, by kernel_rfl, by kernel_rfl, by decide, by kernel_rfl, by kernel_rfl⟩
end Go.Kf

namespace Go.Proofs.YtlmaknaknlbnmaaDoor.fnUnsafeEndQuorumEpochResponse
open Go.ChangeShapes Go.WideShapes Go.ChangeAt Go.RowKit Go.Kf

set_option maxHeartbeats 4000000 in
theorem lifted (os : Os) (started : os.Started) (H : Type) (enc : TypeId × Value → H) :
    ReturnsInHanded {} Go.Proofs.Tryd.checked os 4 .any (fun w args => (Rows.fnUnsafeEndQuorumEpochResponseSpec.pre enc Go.Proofs.Tryd.prog Go.Proofs.Tryd.f4 [] false w args ∧ laidMetH Go.Proofs.Tryd.prog Rows.fnUnsafeEndQuorumEpochResponseRow.laid w) ∧ sizedMet enc Go.Proofs.Tryd.prog Go.Proofs.Tryd.f4 (OpenSpec.ofChange Rows.fnUnsafeEndQuorumEpochResponseSpec) false w args)
      (Rows.fnUnsafeEndQuorumEpochResponseSpec.post enc Go.Proofs.Tryd.prog Go.Proofs.Tryd.f4 false true false false) := by
  refine returnsInHanded_of_change_and (C := Go.Proofs.Tryd.checked) (X := fun w _ => laidMetH Go.Proofs.Tryd.prog Rows.fnUnsafeEndQuorumEpochResponseRow.laid w) (fun _ _ _ hh h => h.of_heap hh) own started (by kernel_rfl) Go.Proofs.Tryd.func4
    (ChangeSpec.witness_shaped (enc := enc) (C := Go.Proofs.Tryd.checked) (os := os) (X := fun w _ => laidMetH Go.Proofs.Tryd.prog Rows.fnUnsafeEndQuorumEpochResponseRow.laid w) false (World.doorLaid Go.Proofs.Tryd.prog 400 os) #[.int .u8 0, .slice none 0 0] 8 rfl (shaped os _) (by kernel_rfl) (by kernel_rfl) (by kernel_rfl) (door_met os _)) ?_
  intro W base args ds gs before hval0 hW _ _ hL _
  have hval : ∀ (j : Nat) t v, Go.Proofs.Tryd.f4.params[j]? = some t → args[j]? = some v → Value.okWide Go.Proofs.Tryd.prog W .any base t v := hval0
  have hW' := hW
  obtain ⟨p, q, hA0, hV, rfl, hfz, hnd⟩ := hW
  have hA : DataW.TrodAll enc Go.Proofs.Tryd.prog W 0 (fun _ => true) true Go.Proofs.Tryd.f4.params.toList args.toList ds p := hA0
  rw [Go.Proofs.Tryd.params4] at hA hval
  obtain ⟨v0, vs0, d0, ds0, p0, q0, hargs, rfl, rfl, h0, r0⟩ := trodAll_cons hA
  obtain ⟨v1, vs1, d1, ds1, p1, q1, rfl, rfl, rfl, h1, r1⟩ := trodAll_cons r0
  obtain ⟨rfl, rfl, rfl⟩ := trodAll_nil r1
  obtain rfl : args = #[v0, v1] := by cases args; simp_all
  obtain ⟨rfl, rfl⟩ := trodVars_none hV
  obtain ⟨n0, rfl, rfl, rfl, w0⟩ := open_int Go.Proofs.Tryd.underlying5 (hval 0 5 v0 rfl rfl) h0
  obtain ⟨l, ha⟩ := argOct_of Go.Proofs.Tryd.underlying22 Go.Proofs.Tryd.underlying5 (by kernel_rfl) (hval 1 22 v1 rfl rfl) h1
  have lt1 : ∀ x ∈ p1, x.block < W.heap.size := by obtain ⟨m, hm⟩ := h1; exact DataW.trod_lt m _ _ _ hm
  rw [MakeChecks.laidMetH_plain _ _ _ (by kernel_rfl)] at hL
  obtain ⟨a1, s1, hv1, _⟩ := laid_sentinel hL gO gT Go.Proofs.Tryd.underlying44 rowP Go.Proofs.Tryd.underlying196 Go.Proofs.Tryd.underlying214 rfl rfl Go.Proofs.Tryd.underlying9 cS cStr
  have hg : W.cell? ⟨1, 0, none⟩ = some (.iface 196 (.pointer (some a1))) := by simpa using World.var?_cell gO hv1 0
  clear hA0 hval0
  refine Calls.mono (call_lawU baseS fnsS implT specT (by decide) (by decide) (by decide) lawT fd_law (n := n0) ha hg) fun e W' ⟨v', he, hv', hm⟩ => ?_
  subst he hv'
  have bel := hm.below
  exact ⟨_, rfl, _, _, _, [], _, [], hW', trodAll_mk1 (shut_bool Go.Proofs.Tryd.underlying4 _), trodAll_cons_mk (shut_int Go.Proofs.Tryd.underlying5 w0) (trodAll_cons_mk (Below.trod laidOut (by kernel_rfl) (of_decide_eq_true (by kernel_rfl)) h1 bel lt1) trodAll_mk0), rfl, bel.frame _, fun h => by cases h⟩

set_option maxHeartbeats 4000000 in
theorem joined : joinedFacts Go.Proofs.Tryd.prog 4 Go.Proofs.Tryd.f4 Rows.fnUnsafeEndQuorumEpochResponseSpec Rows.fnUnsafeEndQuorumEpochResponseRow = true := by
  unfold joinedFacts
  exact bandT (bandT (bandT (bandT (bandT (bandT (bandT (bandT (bandT (bandT (bandT (bandT (bandT (bandT (bandT (bandT (bandT (bandT (bandT (bandT (bandT (bandT (bandT (bandT (bandT (bandT (bandT (bandT (bandT (bandT (bandT (by as_aux_lemma => kernel_rfl) laidOut) mapsRowedS) (by as_aux_lemma => kernel_rfl)) (by as_aux_lemma => kernel_rfl)) (by as_aux_lemma => kernel_rfl)) (by as_aux_lemma => kernel_rfl)) (by as_aux_lemma => kernel_rfl)) (by as_aux_lemma => kernel_rfl)) (by as_aux_lemma => kernel_rfl)) (by as_aux_lemma => kernel_rfl)) (by as_aux_lemma => kernel_rfl)) (by as_aux_lemma => kernel_rfl)) (by as_aux_lemma => kernel_rfl)) (by as_aux_lemma => kernel_rfl)) (by as_aux_lemma => kernel_rfl)) (by as_aux_lemma => kernel_rfl)) (by as_aux_lemma => kernel_rfl)) (by as_aux_lemma => kernel_rfl)) (by as_aux_lemma => kernel_rfl)) (by as_aux_lemma => kernel_rfl)) (by as_aux_lemma => kernel_rfl)) plainKeysS) (by as_aux_lemma => kernel_rfl)) stopsHeardS) bigEnter) bigLifts) bigMake) (by as_aux_lemma => kernel_rfl)) (by as_aux_lemma => kernel_rfl)) (by as_aux_lemma => kernel_rfl)) (by as_aux_lemma => kernel_rfl)
theorem named : Go.Proofs.Tryd.prog.funcNamed Rows.fnUnsafeEndQuorumEpochResponseRow.func = some 4 := by kernel_rfl
theorem isInst : Go.Proofs.Tryd.f4.isInstance Go.Proofs.Tryd.prog Rows.fnUnsafeEndQuorumEpochResponseRow.origin Rows.fnUnsafeEndQuorumEpochResponseRow.targs := of_decide_eq_true (by kernel_rfl)
theorem isWrap : Go.Proofs.Tryd.f4.isWrapper Go.Proofs.Tryd.prog Rows.fnUnsafeEndQuorumEpochResponseRow.wrapper Rows.fnUnsafeEndQuorumEpochResponseRow.mainSum := by unfold Func.isWrapper; first | (rw [if_pos (by decide +kernel)]; kernel_rfl) | (rw [if_neg (by decide +kernel)]; exact ⟨rfl, rfl⟩)
theorem row : Rows.FnUnsafeEndQuorumEpochResponseSaid :=
  OpenClaim.holds_of_wide 4 Go.Proofs.Tryd.f4 rfl rfl rfl rfl rfl rfl rfl ⟨rfl, rfl, rfl, rfl, rfl⟩ rfl rfl rfl rfl rfl named Go.Proofs.Tryd.func4 joined
    isInst isWrap
    (fun os started H enc _ => lifted os started H enc)
end Go.Proofs.YtlmaknaknlbnmaaDoor.fnUnsafeEndQuorumEpochResponse

namespace Go.Proofs.YtlmaknaknlbnmaaDoor
open Go.Kf
set_option maxHeartbeats 4000000 in
theorem fnUnsafeEndQuorumEpochResponse_card : Rows.FnUnsafeEndQuorumEpochResponseCardSaid :=
  Claim7.holds_tied_plain_at .later [] [.sentinel] true Rows.fnUnsafeEndQuorumEpochResponseCard.stood.harness false
    fnUnsafeEndQuorumEpochResponse.row (fun _ h => by cases h) (by as_aux_lemma => kernel_rfl) (fun _ h => by cases h) fnUnsafeEndQuorumEpochResponse_row_tie rfl ⟨rfl, rfl⟩ mainS rfl
    (fun f fn hf hfn => by
      obtain rfl : f = 4 := Option.some.inj (fnUnsafeEndQuorumEpochResponse.named.symm.trans hf) |>.symm
      obtain rfl : fn = Go.Proofs.Tryd.f4 := (Option.some.inj (Go.Proofs.Tryd.func4.symm.trans hfn)).symm
      refine ⟨looksS, fun j t ht => ?_⟩
      rw [Go.Proofs.Tryd.params4] at ht
      rcases j with _ | _ | j
      · obtain rfl : 5 = t := by simpa using ht
        exact (show Go.Proofs.Tryd.prog.wantsStandIn 5 = false by kernel_rfl)
      · obtain rfl : 22 = t := by simpa using ht
        exact (show Go.Proofs.Tryd.prog.wantsStandIn 22 = false by kernel_rfl)
      · simp at ht)
    (by as_aux_lemma => kernel_rfl)
#print axioms fnUnsafeEndQuorumEpochResponse_card
end Go.Proofs.YtlmaknaknlbnmaaDoor
