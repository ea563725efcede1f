/- The two readers of this message tell the same tree of the same octets: the tied card of laws.FnUnsafeTxnOffsetCommitRequest is proved, at every version number and every row of octets; no condition. -/
import Derived.Test.YtfgfenphgeffgaaDoorKs
set_option linter.unusedSimpArgs false
set_option linter.unusedVariables false
set_option maxRecDepth 100000
namespace Go.Kf
open Go

def tf : TypeId → FuncId × FuncId := fun | 254 => (249, 269) | 201 => (179, 250) | _ => (0, 0)

def rTxnOffsetCommitRequestTopicPartition : Fds := .cons .all (.pr .i32 none) (.cons .all (.pr .i64 none) (.cons (.ge 2) (.pr .i32 (some (.int .i32 (-1)))) (.cons .all (.txt .nstr) (.tags))))
theorem df_TxnOffsetCommitRequestTopicPartition : FOk Go.Proofs.Tryd.prog 248 1 (seqs (rTxnOffsetCommitRequestTopicPartition.dfl NS 254 0)) [] := ⟨Go.Proofs.Tryd.f248, _, [0], Go.Proofs.Tryd.func248, rfl, by kernel_rfl, by kernel_rfl, by decide, by kernel_rfl, by kernel_rfl⟩
theorem ft_TxnOffsetCommitRequestTopicPartition : FOk Go.Proofs.Tryd.prog 249 1 (tellC NS tf 254 0 269 rTxnOffsetCommitRequestTopicPartition) [.cell 1 NS.t_Tree] := ⟨Go.Proofs.Tryd.f249, _, [0, 2, 3], Go.Proofs.Tryd.func249, rfl, by kernel_rfl, by kernel_rfl, by decide, by kernel_rfl, by kernel_rfl⟩
theorem fc_TxnOffsetCommitRequestTopicPartition : FOk Go.Proofs.Tryd.prog 269 3 (cTagFn NS) [] := ⟨Go.Proofs.Tryd.f269, _, [0, 1, 2], Go.Proofs.Tryd.func269, rfl, by kernel_rfl, by kernel_rfl, by decide, by kernel_rfl, by kernel_rfl⟩
theorem tl_TxnOffsetCommitRequestTopicPartition : TellP Go.Proofs.Tryd.prog 249 0 rTxnOffsetCommitRequestTopicPartition := tellP baseS fnsS implT tellN (tf := tf) (Tt := 254) (idx0 := 0) ft_TxnOffsetCommitRequestTopicPartition (fun _ => fc_TxnOffsetCommitRequestTopicPartition) ⟨trivial, ⟨trivial, ⟨trivial, ⟨⟨by decide, by decide⟩, trivial⟩⟩⟩⟩ (Fds.ok_of (fx := true) (Tt := 254) (idx := 0) (off := 0) baseS fnsS rTxnOffsetCommitRequestTopicPartition (by kernel_rfl) ⟨trivial, ⟨trivial, ⟨trivial, ⟨trivial, trivial⟩⟩⟩⟩).2.1 (by decide)

def rTxnOffsetCommitRequestTopic : Fds := .cons (.btw 0 5) (.txt .str) (.cons (.ge 6) (.pr .uuid none) (.cons .all (.arr 199 none (.row 254 252 248 (.cons .all (.pr .i32 none) (.cons .all (.pr .i64 none) (.cons (.ge 2) (.pr .i32 (some (.int .i32 (-1)))) (.cons .all (.txt .nstr) (.tags))))))) (.tags)))
theorem df_TxnOffsetCommitRequestTopic : FOk Go.Proofs.Tryd.prog 247 1 (seqs (rTxnOffsetCommitRequestTopic.dfl NS 201 0)) [] := ⟨Go.Proofs.Tryd.f247, _, [0], Go.Proofs.Tryd.func247, rfl, by kernel_rfl, by kernel_rfl, by decide, by kernel_rfl, by kernel_rfl⟩
theorem ft_TxnOffsetCommitRequestTopic : FOk Go.Proofs.Tryd.prog 179 1 (tellC NS tf 201 0 250 rTxnOffsetCommitRequestTopic) [.cell 1 NS.t_Tree] := ⟨Go.Proofs.Tryd.f179, _, [0, 2, 3, 38, 39, 40, 4, 43, 55, 56, 58], Go.Proofs.Tryd.func179, rfl, by kernel_rfl, by kernel_rfl, by decide, by kernel_rfl, by kernel_rfl⟩
theorem fc_TxnOffsetCommitRequestTopic : FOk Go.Proofs.Tryd.prog 250 3 (cTagFn NS) [] := ⟨Go.Proofs.Tryd.f250, _, [0, 1, 2], Go.Proofs.Tryd.func250, rfl, by kernel_rfl, by kernel_rfl, by decide, by kernel_rfl, by kernel_rfl⟩
theorem tl_TxnOffsetCommitRequestTopic : TellP Go.Proofs.Tryd.prog 179 0 rTxnOffsetCommitRequestTopic := tellP baseS fnsS implT tellN (tf := tf) (Tt := 201) (idx0 := 0) ft_TxnOffsetCommitRequestTopic (fun _ => fc_TxnOffsetCommitRequestTopic) ⟨trivial, ⟨(show NS.t_16_uint8 ≠ 0 by decide), ⟨⟨tiB_ok (by kernel_rfl), el_ti (fx := true) baseS fnsS _ (by kernel_rfl) ⟨df_TxnOffsetCommitRequestTopicPartition, ⟨trivial, ⟨trivial, ⟨trivial, ⟨trivial, trivial⟩⟩⟩⟩⟩, tl_TxnOffsetCommitRequestTopicPartition⟩, trivial⟩⟩⟩ (Fds.ok_of (fx := true) (Tt := 201) (idx := 0) (off := 0) baseS fnsS rTxnOffsetCommitRequestTopic (by kernel_rfl) ⟨trivial, ⟨trivial, ⟨⟨df_TxnOffsetCommitRequestTopicPartition, ⟨trivial, ⟨trivial, ⟨trivial, ⟨trivial, trivial⟩⟩⟩⟩⟩, trivial⟩⟩⟩).2.1 (by decide)

/-- The message's schema. -/
def mS : Msg := ⟨196, 82, 177, 3, false, .cons .all (.txt .str) (.cons .all (.txt .str) (.cons .all (.pr .i64 none) (.cons .all (.pr .i16 none) (.cons (.ge 3) (.pr .i32 (some (.int .i32 (-1)))) (.cons (.ge 3) (.txt .str) (.cons (.ge 3) (.txt .nstr) (.cons .all (.arr 194 none (.row 201 198 247 (.cons (.btw 0 5) (.txt .str) (.cons (.ge 6) (.pr .uuid none) (.cons .all (.arr 199 none (.row 254 252 248 (.cons .all (.pr .i32 none) (.cons .all (.pr .i64 none) (.cons (.ge 2) (.pr .i32 (some (.int .i32 (-1)))) (.cons .all (.txt .nstr) (.tags))))))) (.tags)))))) (.tags))))))))⟩
def dS : DoorN where
  newP := 121
  setV := 123
  maxV := 122
  readF := 124
  unsF := 126
  readf := 178
  tell := 125
  maxI := 51
  tellI := 52
  unsI := 53
theorem rd_m : FOk Go.Proofs.Tryd.prog 178 3 (mS.gen NS true) [.var 3] := ⟨Go.Proofs.Tryd.f178, _, [0, 1, 2, 6, 7, 8, 9, 10, 11, 49, 50, 53, 12, 60, 61, 64, 13, 14, 82, 15, 89, 16, 90, 91, 94, 102, 17, 103, 104, 107, 18, 19, 20, 119, 123, 128, 21, 134, 22, 23, 148, 24, 149, 150, 153, 161, 25, 26, 27, 28, 172, 176, 181, 29, 187, 30, 31, 32, 33, 207, 34, 35, 213, 214, 217, 224, 234, 244], Go.Proofs.Tryd.func178, rfl, by kernel_rfl, by kernel_rfl, by decide, by kernel_rfl, by kernel_rfl⟩
theorem df_m : FOk Go.Proofs.Tryd.prog 177 1 (seqs (mS.fs.dfl NS mS.tT 1)) [] := ⟨Go.Proofs.Tryd.f177, _, [0], Go.Proofs.Tryd.func177, rfl, by kernel_rfl, by kernel_rfl, by decide, by kernel_rfl, by kernel_rfl⟩
theorem mt : MsgT Go.Proofs.Tryd.prog NS mS true := msgT_of baseS fnsS (by kernel_rfl) (by kernel_rfl) (by kernel_rfl) ⟨trivial, ⟨trivial, ⟨trivial, ⟨trivial, ⟨trivial, ⟨trivial, ⟨trivial, ⟨⟨df_TxnOffsetCommitRequestTopic, ⟨trivial, ⟨trivial, ⟨⟨df_TxnOffsetCommitRequestTopicPartition, ⟨trivial, ⟨trivial, ⟨trivial, ⟨trivial, trivial⟩⟩⟩⟩⟩, trivial⟩⟩⟩⟩, trivial⟩⟩⟩⟩⟩⟩⟩⟩ df_m
theorem ft_TxnOffsetCommitRequest : FOk Go.Proofs.Tryd.prog 125 1 (tellC NS tf 196 1 180 mS.fs) [.cell 1 NS.t_Tree] := ⟨Go.Proofs.Tryd.f125, _, [0, 2, 3, 81, 82, 83, 4, 86, 98, 99, 101], Go.Proofs.Tryd.func125, rfl, by kernel_rfl, by kernel_rfl, by decide, by kernel_rfl, by kernel_rfl⟩
theorem fc_TxnOffsetCommitRequest : FOk Go.Proofs.Tryd.prog 180 3 (cTagFn NS) [] := ⟨Go.Proofs.Tryd.f180, _, [0, 1, 2], Go.Proofs.Tryd.func180, rfl, by kernel_rfl, by kernel_rfl, by decide, by kernel_rfl, by kernel_rfl⟩
theorem tl_TxnOffsetCommitRequest : TellP Go.Proofs.Tryd.prog 125 1 mS.fs := tellP baseS fnsS implT tellN (tf := tf) (Tt := 196) (idx0 := 1) ft_TxnOffsetCommitRequest (fun _ => fc_TxnOffsetCommitRequest) ⟨trivial, ⟨trivial, ⟨trivial, ⟨trivial, ⟨trivial, ⟨trivial, ⟨⟨by decide, by decide⟩, ⟨⟨tiB_ok (by kernel_rfl), el_ti (fx := true) baseS fnsS _ (by kernel_rfl) ⟨df_TxnOffsetCommitRequestTopic, ⟨trivial, ⟨trivial, ⟨⟨df_TxnOffsetCommitRequestTopicPartition, ⟨trivial, ⟨trivial, ⟨trivial, ⟨trivial, trivial⟩⟩⟩⟩⟩, trivial⟩⟩⟩⟩, tl_TxnOffsetCommitRequestTopic⟩, trivial⟩⟩⟩⟩⟩⟩⟩⟩ mt.hf (by decide)
theorem fd_new : FOk Go.Proofs.Tryd.prog 121 0 (c_new NS mS.tT mS.dflt) [.var 0] := ⟨Go.Proofs.Tryd.f121, _, [0, 1], Go.Proofs.Tryd.func121, rfl, by kernel_rfl, by kernel_rfl, by decide, by kernel_rfl, by kernel_rfl⟩
theorem fd_set : FOk Go.Proofs.Tryd.prog 123 2 (c_set NS mS.tT) [] := ⟨Go.Proofs.Tryd.f123, _, [0, 1], Go.Proofs.Tryd.func123, rfl, by kernel_rfl, by kernel_rfl, by decide, by kernel_rfl, by kernel_rfl⟩
theorem door : DoorT Go.Proofs.Tryd.prog NS mS true dS where
  msg := mt
  vin := rfl
  ti := (tsB_ok (by' := bytesOf Go.Proofs.Tryd.prog 196) (by kernel_rfl)).imp fun _ h => ⟨_, h⟩
  newP := fd_new
  setV := fd_set
  readf := rd_m
  tell := tl_TxnOffsetCommitRequest
  dok := ⟨⟨_, rfl, by decide⟩, ⟨⟨_, rfl, by decide⟩, ⟨⟨_, rfl, by decide⟩, ⟨⟨⟨List.replicate 16 0, rfl, rfl⟩, ⟨⟨⟨_, rfl, by decide⟩, ⟨⟨_, rfl, by decide⟩, ⟨⟨_, rfl, by decide⟩, trivial⟩⟩⟩, trivial⟩⟩, trivial⟩⟩⟩⟩
  shB := by kernel_rfl
  cnt := by decide
theorem fd_rf : FOk Go.Proofs.Tryd.prog 124 2 (c_rf NS mS.pT 178 false) [.var 2] := ⟨Go.Proofs.Tryd.f124, _, [0, 1, 4], Go.Proofs.Tryd.func124, rfl, by kernel_rfl, by kernel_rfl, by decide, by kernel_rfl, by kernel_rfl⟩
theorem fd_uf : FOk Go.Proofs.Tryd.prog 126 2 (c_rf NS mS.pT 178 true) [.var 2] := ⟨Go.Proofs.Tryd.f126, _, [0, 1, 4], Go.Proofs.Tryd.func126, rfl, by kernel_rfl, by kernel_rfl, by decide, by kernel_rfl, by kernel_rfl⟩
theorem fd_mv : FOk Go.Proofs.Tryd.prog 122 1 (c_max 6) [.var 1] := ⟨Go.Proofs.Tryd.f122, _, [0, 2], Go.Proofs.Tryd.func122, rfl, by kernel_rfl, by kernel_rfl, by decide, by kernel_rfl, by kernel_rfl⟩
theorem fd_mi : FOk Go.Proofs.Tryd.prog 51 0 (c_maxI NS mS.pT 121 122) [.var 0] := ⟨Go.Proofs.Tryd.f51, _, [0], Go.Proofs.Tryd.func51, rfl, by kernel_rfl, by kernel_rfl, by decide, by kernel_rfl, by kernel_rfl⟩
theorem fd_tellI : FOk Go.Proofs.Tryd.prog 52 2 (c_door NS mS.pT 121 123 124 125) [.cell 2 NS.t_Tree, .var 3] := ⟨Go.Proofs.Tryd.f52, _, [0, 1, 4, 5, 6, 16], Go.Proofs.Tryd.func52, rfl, by kernel_rfl, by kernel_rfl, by decide, by kernel_rfl, by kernel_rfl⟩
theorem fd_unsI : FOk Go.Proofs.Tryd.prog 53 2 (c_door NS mS.pT 121 123 126 125) [.cell 2 NS.t_Tree, .var 3] := ⟨Go.Proofs.Tryd.f53, _, [0, 1, 4, 5, 6, 16], Go.Proofs.Tryd.func53, rfl, by kernel_rfl, by kernel_rfl, by decide, by kernel_rfl, by kernel_rfl⟩
theorem lawT : LawT Go.Proofs.Tryd.prog NS mS true dS 6 := ⟨door, fd_rf, fd_uf, fd_mv, fd_mi, fd_tellI, fd_unsI, by decide, by decide⟩
theorem fd_law : FOk Go.Proofs.Tryd.prog 14 2 (c_lawU NS 28 dS.maxI dS.tellI dS.unsI 1000) [.var 2] := ⟨Go.Proofs.Tryd.f14, _, [0, 1, 4, 12, 5, 15, 18, 6, 7, 8, 9], Go.Proofs.Tryd.func14, rfl, by kernel_rfl, by kernel_rfl, by decide, by kernel_rfl, by kernel_rfl⟩
end Go.Kf

namespace Go.Proofs.YtfgfenphgeffgaaDoor.fnUnsafeTxnOffsetCommitRequest
open Go.ChangeShapes Go.WideShapes Go.ChangeAt Go.RowKit Go.Kf

set_option maxHeartbeats 4000000 in
theorem lifted (os : Os) (started : os.Started) (H : Type) (enc : TypeId × Value → H) :
    ReturnsInHanded {} Go.Proofs.Tryd.checked os 14 .any (fun w args => (Rows.fnUnsafeTxnOffsetCommitRequestSpec.pre enc Go.Proofs.Tryd.prog Go.Proofs.Tryd.f14 [] false w args ∧ laidMetH Go.Proofs.Tryd.prog Rows.fnUnsafeTxnOffsetCommitRequestRow.laid w) ∧ sizedMet enc Go.Proofs.Tryd.prog Go.Proofs.Tryd.f14 (OpenSpec.ofChange Rows.fnUnsafeTxnOffsetCommitRequestSpec) false w args)
      (Rows.fnUnsafeTxnOffsetCommitRequestSpec.post enc Go.Proofs.Tryd.prog Go.Proofs.Tryd.f14 false true false false) := by
  refine returnsInHanded_of_change_and (C := Go.Proofs.Tryd.checked) (X := fun w _ => laidMetH Go.Proofs.Tryd.prog Rows.fnUnsafeTxnOffsetCommitRequestRow.laid w) (fun _ _ _ hh h => h.of_heap hh) own started (by kernel_rfl) Go.Proofs.Tryd.func14
    (ChangeSpec.witness_shaped (enc := enc) (C := Go.Proofs.Tryd.checked) (os := os) (X := fun w _ => laidMetH Go.Proofs.Tryd.prog Rows.fnUnsafeTxnOffsetCommitRequestRow.laid w) false (World.doorLaid Go.Proofs.Tryd.prog 400 os) #[.int .u8 0, .slice none 0 0] 8 rfl (shaped os _) (by kernel_rfl) (by kernel_rfl) (by kernel_rfl) (door_met os _)) ?_
  intro W base args ds gs before hval0 hW _ _ hL _
  have hval : ∀ (j : Nat) t v, Go.Proofs.Tryd.f14.params[j]? = some t → args[j]? = some v → Value.okWide Go.Proofs.Tryd.prog W .any base t v := hval0
  have hW' := hW
  obtain ⟨p, q, hA0, hV, rfl, hfz, hnd⟩ := hW
  have hA : DataW.TrodAll enc Go.Proofs.Tryd.prog W 0 (fun _ => true) true Go.Proofs.Tryd.f14.params.toList args.toList ds p := hA0
  rw [Go.Proofs.Tryd.params14] at hA hval
  obtain ⟨v0, vs0, d0, ds0, p0, q0, hargs, rfl, rfl, h0, r0⟩ := trodAll_cons hA
  obtain ⟨v1, vs1, d1, ds1, p1, q1, rfl, rfl, rfl, h1, r1⟩ := trodAll_cons r0
  obtain ⟨rfl, rfl, rfl⟩ := trodAll_nil r1
  obtain rfl : args = #[v0, v1] := by cases args; simp_all
  obtain ⟨rfl, rfl⟩ := trodVars_none hV
  obtain ⟨n0, rfl, rfl, rfl, w0⟩ := open_int Go.Proofs.Tryd.underlying5 (hval 0 5 v0 rfl rfl) h0
  obtain ⟨l, ha⟩ := argOct_of Go.Proofs.Tryd.underlying22 Go.Proofs.Tryd.underlying5 (by kernel_rfl) (hval 1 22 v1 rfl rfl) h1
  have lt1 : ∀ x ∈ p1, x.block < W.heap.size := by obtain ⟨m, hm⟩ := h1; exact DataW.trod_lt m _ _ _ hm
  rw [MakeChecks.laidMetH_plain _ _ _ (by kernel_rfl)] at hL
  obtain ⟨a1, s1, hv1, _⟩ := laid_sentinel hL gO gT Go.Proofs.Tryd.underlying44 rowP Go.Proofs.Tryd.underlying300 Go.Proofs.Tryd.underlying318 rfl rfl Go.Proofs.Tryd.underlying9 cS cStr
  have hg : W.cell? ⟨1, 0, none⟩ = some (.iface 300 (.pointer (some a1))) := by simpa using World.var?_cell gO hv1 0
  clear hA0 hval0
  refine Calls.mono (call_lawU baseS fnsS implT specT (by decide) (by decide) (by decide) lawT fd_law (n := n0) ha hg) fun e W' ⟨v', he, hv', hm⟩ => ?_
  subst he hv'
  have bel := hm.below
  exact ⟨_, rfl, _, _, _, [], _, [], hW', trodAll_mk1 (shut_bool Go.Proofs.Tryd.underlying4 _), trodAll_cons_mk (shut_int Go.Proofs.Tryd.underlying5 w0) (trodAll_cons_mk (Below.trod laidOut (by kernel_rfl) (of_decide_eq_true (by kernel_rfl)) h1 bel lt1) trodAll_mk0), rfl, bel.frame _, fun h => by cases h⟩

set_option maxHeartbeats 4000000 in
theorem joined : joinedFacts Go.Proofs.Tryd.prog 14 Go.Proofs.Tryd.f14 Rows.fnUnsafeTxnOffsetCommitRequestSpec Rows.fnUnsafeTxnOffsetCommitRequestRow = true := by
  unfold joinedFacts
  exact bandT (bandT (bandT (bandT (bandT (bandT (bandT (bandT (bandT (bandT (bandT (bandT (bandT (bandT (bandT (bandT (bandT (bandT (bandT (bandT (bandT (bandT (bandT (bandT (bandT (bandT (bandT (bandT (bandT (bandT (bandT (by as_aux_lemma => kernel_rfl) laidOut) mapsRowedS) (by as_aux_lemma => kernel_rfl)) (by as_aux_lemma => kernel_rfl)) (by as_aux_lemma => kernel_rfl)) (by as_aux_lemma => kernel_rfl)) (by as_aux_lemma => kernel_rfl)) (by as_aux_lemma => kernel_rfl)) (by as_aux_lemma => kernel_rfl)) (by as_aux_lemma => kernel_rfl)) (by as_aux_lemma => kernel_rfl)) (by as_aux_lemma => kernel_rfl)) (by as_aux_lemma => kernel_rfl)) (by as_aux_lemma => kernel_rfl)) (by as_aux_lemma => kernel_rfl)) (by as_aux_lemma => kernel_rfl)) (by as_aux_lemma => kernel_rfl)) (by as_aux_lemma => kernel_rfl)) (by as_aux_lemma => kernel_rfl)) (by as_aux_lemma => kernel_rfl)) (by as_aux_lemma => kernel_rfl)) plainKeysS) (by as_aux_lemma => kernel_rfl)) stopsHeardS) bigEnter) bigLifts) bigMake) (by as_aux_lemma => kernel_rfl)) (by as_aux_lemma => kernel_rfl)) (by as_aux_lemma => kernel_rfl)) (by as_aux_lemma => kernel_rfl)
theorem named : Go.Proofs.Tryd.prog.funcNamed Rows.fnUnsafeTxnOffsetCommitRequestRow.func = some 14 := by kernel_rfl
theorem isInst : Go.Proofs.Tryd.f14.isInstance Go.Proofs.Tryd.prog Rows.fnUnsafeTxnOffsetCommitRequestRow.origin Rows.fnUnsafeTxnOffsetCommitRequestRow.targs := of_decide_eq_true (by kernel_rfl)
theorem isWrap : Go.Proofs.Tryd.f14.isWrapper Go.Proofs.Tryd.prog Rows.fnUnsafeTxnOffsetCommitRequestRow.wrapper Rows.fnUnsafeTxnOffsetCommitRequestRow.mainSum := by unfold Func.isWrapper; first | (rw [if_pos (by decide +kernel)]; kernel_rfl) | (rw [if_neg (by decide +kernel)]; exact ⟨rfl, rfl⟩)
theorem row : Rows.FnUnsafeTxnOffsetCommitRequestSaid :=
  OpenClaim.holds_of_wide 14 Go.Proofs.Tryd.f14 rfl rfl rfl rfl rfl rfl rfl ⟨rfl, rfl, rfl, rfl, rfl⟩ rfl rfl rfl rfl rfl named Go.Proofs.Tryd.func14 joined
    isInst isWrap
    (fun os started H enc _ => lifted os started H enc)
end Go.Proofs.YtfgfenphgeffgaaDoor.fnUnsafeTxnOffsetCommitRequest

namespace Go.Proofs.YtfgfenphgeffgaaDoor
open Go.Kf
set_option maxHeartbeats 4000000 in
/-- The card. -/
theorem fnUnsafeTxnOffsetCommitRequest_card : Rows.FnUnsafeTxnOffsetCommitRequestCardSaid :=
  Claim7.holds_tied_plain_at .later [] [.sentinel] true Rows.fnUnsafeTxnOffsetCommitRequestCard.stood.harness false
    fnUnsafeTxnOffsetCommitRequest.row (fun _ h => by cases h) (by as_aux_lemma => kernel_rfl) (fun _ h => by cases h) fnUnsafeTxnOffsetCommitRequest_row_tie rfl ⟨rfl, rfl⟩ mainS rfl
    (fun f fn hf hfn => by
      obtain rfl : f = 14 := Option.some.inj (fnUnsafeTxnOffsetCommitRequest.named.symm.trans hf) |>.symm
      obtain rfl : fn = Go.Proofs.Tryd.f14 := (Option.some.inj (Go.Proofs.Tryd.func14.symm.trans hfn)).symm
      refine ⟨looksS, fun j t ht => ?_⟩
      rw [Go.Proofs.Tryd.params14] at ht
      rcases j with _ | _ | j
      · obtain rfl : 5 = t := by simpa using ht
        exact (show Go.Proofs.Tryd.prog.wantsStandIn 5 = false by kernel_rfl)
      · obtain rfl : 22 = t := by simpa using ht
        exact (show Go.Proofs.Tryd.prog.wantsStandIn 22 = false by kernel_rfl)
      · simp at ht)
    (by as_aux_lemma => kernel_rfl)
#print axioms fnUnsafeTxnOffsetCommitRequest_card
end Go.Proofs.YtfgfenphgeffgaaDoor
