/- The two readers of this message tell the same tree of the same octets: the tied card of laws.FnUnsafeOffsetCommitRequest is proved, at every version number and every row of octets; no condition. -/
import Derived.Test.YtfgfenphgeffgaaDoorKs
set_option linter.unusedSimpArgs false
set_option linter.unusedVariables false
set_option maxRecDepth 100000
namespace Go.Kf
open Go

def tf : TypeId → FuncId × FuncId := fun | 246 => (241, 267) | 185 => (171, 242) | _ => (0, 0)

def rOffsetCommitRequestTopicPartition : Fds := .cons .all (.pr .i32 none) (.cons .all (.pr .i64 none) (.cons (.btw 1 1) (.pr .i64 (some (.int .i64 (-1)))) (.cons (.ge 6) (.pr .i32 (some (.int .i32 (-1)))) (.cons .all (.txt .nstr) (.tags)))))
theorem df_OffsetCommitRequestTopicPartition : FOk Go.Proofs.Tryd.prog 240 1 (seqs (rOffsetCommitRequestTopicPartition.dfl NS 246 0)) [] := ⟨Go.Proofs.Tryd.f240, _, [0], Go.Proofs.Tryd.func240, rfl, by kernel_rfl, by kernel_rfl, by decide, by kernel_rfl, by kernel_rfl⟩
theorem ft_OffsetCommitRequestTopicPartition : FOk Go.Proofs.Tryd.prog 241 1 (tellC NS tf 246 0 267 rOffsetCommitRequestTopicPartition) [.cell 1 NS.t_Tree] := ⟨Go.Proofs.Tryd.f241, _, [0, 2, 3], Go.Proofs.Tryd.func241, rfl, by kernel_rfl, by kernel_rfl, by decide, by kernel_rfl, by kernel_rfl⟩
theorem fc_OffsetCommitRequestTopicPartition : FOk Go.Proofs.Tryd.prog 267 3 (cTagFn NS) [] := ⟨Go.Proofs.Tryd.f267, _, [0, 1, 2], Go.Proofs.Tryd.func267, rfl, by kernel_rfl, by kernel_rfl, by decide, by kernel_rfl, by kernel_rfl⟩
theorem tl_OffsetCommitRequestTopicPartition : TellP Go.Proofs.Tryd.prog 241 0 rOffsetCommitRequestTopicPartition := tellP baseS fnsS implT tellN (tf := tf) (Tt := 246) (idx0 := 0) ft_OffsetCommitRequestTopicPartition (fun _ => fc_OffsetCommitRequestTopicPartition) ⟨trivial, ⟨trivial, ⟨trivial, ⟨trivial, ⟨⟨by decide, by decide⟩, trivial⟩⟩⟩⟩⟩ (Fds.ok_of (fx := true) (Tt := 246) (idx := 0) (off := 0) baseS fnsS rOffsetCommitRequestTopicPartition (by kernel_rfl) ⟨trivial, ⟨trivial, ⟨trivial, ⟨trivial, ⟨trivial, trivial⟩⟩⟩⟩⟩).2.1 (by decide)

def rOffsetCommitRequestTopic : Fds := .cons (.btw 0 9) (.txt .str) (.cons (.ge 10) (.pr .uuid none) (.cons .all (.arr 183 none (.row 246 244 240 (.cons .all (.pr .i32 none) (.cons .all (.pr .i64 none) (.cons (.btw 1 1) (.pr .i64 (some (.int .i64 (-1)))) (.cons (.ge 6) (.pr .i32 (some (.int .i32 (-1)))) (.cons .all (.txt .nstr) (.tags)))))))) (.tags)))
theorem df_OffsetCommitRequestTopic : FOk Go.Proofs.Tryd.prog 239 1 (seqs (rOffsetCommitRequestTopic.dfl NS 185 0)) [] := ⟨Go.Proofs.Tryd.f239, _, [0], Go.Proofs.Tryd.func239, rfl, by kernel_rfl, by kernel_rfl, by decide, by kernel_rfl, by kernel_rfl⟩
theorem ft_OffsetCommitRequestTopic : FOk Go.Proofs.Tryd.prog 171 1 (tellC NS tf 185 0 242 rOffsetCommitRequestTopic) [.cell 1 NS.t_Tree] := ⟨Go.Proofs.Tryd.f171, _, [0, 2, 3, 38, 39, 40, 4, 43, 55, 56, 58], Go.Proofs.Tryd.func171, rfl, by kernel_rfl, by kernel_rfl, by decide, by kernel_rfl, by kernel_rfl⟩
theorem fc_OffsetCommitRequestTopic : FOk Go.Proofs.Tryd.prog 242 3 (cTagFn NS) [] := ⟨Go.Proofs.Tryd.f242, _, [0, 1, 2], Go.Proofs.Tryd.func242, rfl, by kernel_rfl, by kernel_rfl, by decide, by kernel_rfl, by kernel_rfl⟩
theorem tl_OffsetCommitRequestTopic : TellP Go.Proofs.Tryd.prog 171 0 rOffsetCommitRequestTopic := tellP baseS fnsS implT tellN (tf := tf) (Tt := 185) (idx0 := 0) ft_OffsetCommitRequestTopic (fun _ => fc_OffsetCommitRequestTopic) ⟨trivial, ⟨(show NS.t_16_uint8 ≠ 0 by decide), ⟨⟨tiB_ok (by kernel_rfl), el_ti (fx := true) baseS fnsS _ (by kernel_rfl) ⟨df_OffsetCommitRequestTopicPartition, ⟨trivial, ⟨trivial, ⟨trivial, ⟨trivial, ⟨trivial, trivial⟩⟩⟩⟩⟩⟩, tl_OffsetCommitRequestTopicPartition⟩, trivial⟩⟩⟩ (Fds.ok_of (fx := true) (Tt := 185) (idx := 0) (off := 0) baseS fnsS rOffsetCommitRequestTopic (by kernel_rfl) ⟨trivial, ⟨trivial, ⟨⟨df_OffsetCommitRequestTopicPartition, ⟨trivial, ⟨trivial, ⟨trivial, ⟨trivial, ⟨trivial, trivial⟩⟩⟩⟩⟩⟩, trivial⟩⟩⟩).2.1 (by decide)

/-- The message's schema. -/
def mS : Msg := ⟨180, 76, 169, 8, false, .cons .all (.txt .str) (.cons (.ge 1) (.pr .i32 (some (.int .i32 (-1)))) (.cons (.ge 1) (.txt .str) (.cons (.ge 7) (.txt .nstr) (.cons (.btw 2 4) (.pr .i64 (some (.int .i64 (-1)))) (.cons .all (.arr 178 none (.row 185 182 239 (.cons (.btw 0 9) (.txt .str) (.cons (.ge 10) (.pr .uuid none) (.cons .all (.arr 183 none (.row 246 244 240 (.cons .all (.pr .i32 none) (.cons .all (.pr .i64 none) (.cons (.btw 1 1) (.pr .i64 (some (.int .i64 (-1)))) (.cons (.ge 6) (.pr .i32 (some (.int .i32 (-1)))) (.cons .all (.txt .nstr) (.tags)))))))) (.tags)))))) (.tags))))))⟩
def dS : DoorN where
  newP := 109
  setV := 111
  maxV := 110
  readF := 112
  unsF := 114
  readf := 170
  tell := 113
  maxI := 45
  tellI := 46
  unsI := 47
theorem rd_m : FOk Go.Proofs.Tryd.prog 170 3 (mS.gen NS true) [.var 3] := ⟨Go.Proofs.Tryd.f170, _, [0, 1, 2, 6, 7, 8, 9, 10, 11, 48, 49, 52, 60, 12, 67, 13, 68, 69, 72, 80, 14, 81, 82, 85, 97, 15, 16, 17, 18, 108, 112, 117, 19, 123, 20, 21, 137, 22, 138, 139, 142, 150, 23, 24, 25, 26, 161, 165, 170, 27, 176, 28, 29, 30, 31, 200, 32, 207, 33, 34, 213, 214, 217, 224, 234, 244], Go.Proofs.Tryd.func170, rfl, by kernel_rfl, by kernel_rfl, by decide, by kernel_rfl, by kernel_rfl⟩
theorem df_m : FOk Go.Proofs.Tryd.prog 169 1 (seqs (mS.fs.dfl NS mS.tT 1)) [] := ⟨Go.Proofs.Tryd.f169, _, [0], Go.Proofs.Tryd.func169, rfl, by kernel_rfl, by kernel_rfl, by decide, by kernel_rfl, by kernel_rfl⟩
theorem mt : MsgT Go.Proofs.Tryd.prog NS mS true := msgT_of baseS fnsS (by kernel_rfl) (by kernel_rfl) (by kernel_rfl) ⟨trivial, ⟨trivial, ⟨trivial, ⟨trivial, ⟨trivial, ⟨⟨df_OffsetCommitRequestTopic, ⟨trivial, ⟨trivial, ⟨⟨df_OffsetCommitRequestTopicPartition, ⟨trivial, ⟨trivial, ⟨trivial, ⟨trivial, ⟨trivial, trivial⟩⟩⟩⟩⟩⟩, trivial⟩⟩⟩⟩, trivial⟩⟩⟩⟩⟩⟩ df_m
theorem ft_OffsetCommitRequest : FOk Go.Proofs.Tryd.prog 113 1 (tellC NS tf 180 1 172 mS.fs) [.cell 1 NS.t_Tree] := ⟨Go.Proofs.Tryd.f113, _, [0, 2, 3, 63, 64, 65, 4, 68, 80, 81, 83], Go.Proofs.Tryd.func113, rfl, by kernel_rfl, by kernel_rfl, by decide, by kernel_rfl, by kernel_rfl⟩
theorem fc_OffsetCommitRequest : FOk Go.Proofs.Tryd.prog 172 3 (cTagFn NS) [] := ⟨Go.Proofs.Tryd.f172, _, [0, 1, 2], Go.Proofs.Tryd.func172, rfl, by kernel_rfl, by kernel_rfl, by decide, by kernel_rfl, by kernel_rfl⟩
theorem tl_OffsetCommitRequest : TellP Go.Proofs.Tryd.prog 113 1 mS.fs := tellP baseS fnsS implT tellN (tf := tf) (Tt := 180) (idx0 := 1) ft_OffsetCommitRequest (fun _ => fc_OffsetCommitRequest) ⟨trivial, ⟨trivial, ⟨trivial, ⟨⟨by decide, by decide⟩, ⟨trivial, ⟨⟨tiB_ok (by kernel_rfl), el_ti (fx := true) baseS fnsS _ (by kernel_rfl) ⟨df_OffsetCommitRequestTopic, ⟨trivial, ⟨trivial, ⟨⟨df_OffsetCommitRequestTopicPartition, ⟨trivial, ⟨trivial, ⟨trivial, ⟨trivial, ⟨trivial, trivial⟩⟩⟩⟩⟩⟩, trivial⟩⟩⟩⟩, tl_OffsetCommitRequestTopic⟩, trivial⟩⟩⟩⟩⟩⟩ mt.hf (by decide)
theorem fd_new : FOk Go.Proofs.Tryd.prog 109 0 (c_new NS mS.tT mS.dflt) [.var 0] := ⟨Go.Proofs.Tryd.f109, _, [0, 1], Go.Proofs.Tryd.func109, rfl, by kernel_rfl, by kernel_rfl, by decide, by kernel_rfl, by kernel_rfl⟩
theorem fd_set : FOk Go.Proofs.Tryd.prog 111 2 (c_set NS mS.tT) [] := ⟨Go.Proofs.Tryd.f111, _, [0, 1], Go.Proofs.Tryd.func111, rfl, by kernel_rfl, by kernel_rfl, by decide, by kernel_rfl, by kernel_rfl⟩
theorem door : DoorT Go.Proofs.Tryd.prog NS mS true dS where
  msg := mt
  vin := rfl
  ti := (tsB_ok (by' := bytesOf Go.Proofs.Tryd.prog 180) (by kernel_rfl)).imp fun _ h => ⟨_, h⟩
  newP := fd_new
  setV := fd_set
  readf := rd_m
  tell := tl_OffsetCommitRequest
  dok := ⟨⟨_, rfl, by decide⟩, ⟨⟨_, rfl, by decide⟩, ⟨⟨⟨List.replicate 16 0, rfl, rfl⟩, ⟨⟨⟨_, rfl, by decide⟩, ⟨⟨_, rfl, by decide⟩, ⟨⟨_, rfl, by decide⟩, ⟨⟨_, rfl, by decide⟩, trivial⟩⟩⟩⟩, trivial⟩⟩, trivial⟩⟩⟩
  shB := by kernel_rfl
  cnt := by decide
theorem fd_rf : FOk Go.Proofs.Tryd.prog 112 2 (c_rf NS mS.pT 170 false) [.var 2] := ⟨Go.Proofs.Tryd.f112, _, [0, 1, 4], Go.Proofs.Tryd.func112, rfl, by kernel_rfl, by kernel_rfl, by decide, by kernel_rfl, by kernel_rfl⟩
theorem fd_uf : FOk Go.Proofs.Tryd.prog 114 2 (c_rf NS mS.pT 170 true) [.var 2] := ⟨Go.Proofs.Tryd.f114, _, [0, 1, 4], Go.Proofs.Tryd.func114, rfl, by kernel_rfl, by kernel_rfl, by decide, by kernel_rfl, by kernel_rfl⟩
theorem fd_mv : FOk Go.Proofs.Tryd.prog 110 1 (c_max 10) [.var 1] := ⟨Go.Proofs.Tryd.f110, _, [0, 2], Go.Proofs.Tryd.func110, rfl, by kernel_rfl, by kernel_rfl, by decide, by kernel_rfl, by kernel_rfl⟩
theorem fd_mi : FOk Go.Proofs.Tryd.prog 45 0 (c_maxI NS mS.pT 109 110) [.var 0] := ⟨Go.Proofs.Tryd.f45, _, [0], Go.Proofs.Tryd.func45, rfl, by kernel_rfl, by kernel_rfl, by decide, by kernel_rfl, by kernel_rfl⟩
theorem fd_tellI : FOk Go.Proofs.Tryd.prog 46 2 (c_door NS mS.pT 109 111 112 113) [.cell 2 NS.t_Tree, .var 3] := ⟨Go.Proofs.Tryd.f46, _, [0, 1, 4, 5, 6, 16], Go.Proofs.Tryd.func46, rfl, by kernel_rfl, by kernel_rfl, by decide, by kernel_rfl, by kernel_rfl⟩
theorem fd_unsI : FOk Go.Proofs.Tryd.prog 47 2 (c_door NS mS.pT 109 111 114 113) [.cell 2 NS.t_Tree, .var 3] := ⟨Go.Proofs.Tryd.f47, _, [0, 1, 4, 5, 6, 16], Go.Proofs.Tryd.func47, rfl, by kernel_rfl, by kernel_rfl, by decide, by kernel_rfl, by kernel_rfl⟩
theorem lawT : LawT Go.Proofs.Tryd.prog NS mS true dS 10 := ⟨door, fd_rf, fd_uf, fd_mv, fd_mi, fd_tellI, fd_unsI, by decide, by decide⟩
theorem fd_law : FOk Go.Proofs.Tryd.prog 12 2 (c_lawU NS 28 dS.maxI dS.tellI dS.unsI 1000) [.var 2] := ⟨Go.Proofs.Tryd.f12, _, [0, 1, 4, 12, 5, 15, 18, 6, 7, 8, 9], Go.Proofs.Tryd.func12, rfl, by kernel_rfl, by kernel_rfl, by decide, by kernel_rfl, by kernel_rfl⟩
end Go.Kf

namespace Go.Proofs.YtfgfenphgeffgaaDoor.fnUnsafeOffsetCommitRequest
open Go.ChangeShapes Go.WideShapes Go.ChangeAt Go.RowKit Go.Kf

set_option maxHeartbeats 4000000 in
theorem lifted (os : Os) (started : os.Started) (H : Type) (enc : TypeId × Value → H) :
    ReturnsInHanded {} Go.Proofs.Tryd.checked os 12 .any (fun w args => (Rows.fnUnsafeOffsetCommitRequestSpec.pre enc Go.Proofs.Tryd.prog Go.Proofs.Tryd.f12 [] false w args ∧ laidMetH Go.Proofs.Tryd.prog Rows.fnUnsafeOffsetCommitRequestRow.laid w) ∧ sizedMet enc Go.Proofs.Tryd.prog Go.Proofs.Tryd.f12 (OpenSpec.ofChange Rows.fnUnsafeOffsetCommitRequestSpec) false w args)
      (Rows.fnUnsafeOffsetCommitRequestSpec.post enc Go.Proofs.Tryd.prog Go.Proofs.Tryd.f12 false true false false) := by
  refine returnsInHanded_of_change_and (C := Go.Proofs.Tryd.checked) (X := fun w _ => laidMetH Go.Proofs.Tryd.prog Rows.fnUnsafeOffsetCommitRequestRow.laid w) (fun _ _ _ hh h => h.of_heap hh) own started (by kernel_rfl) Go.Proofs.Tryd.func12
    (ChangeSpec.witness_shaped (enc := enc) (C := Go.Proofs.Tryd.checked) (os := os) (X := fun w _ => laidMetH Go.Proofs.Tryd.prog Rows.fnUnsafeOffsetCommitRequestRow.laid w) false (World.doorLaid Go.Proofs.Tryd.prog 400 os) #[.int .u8 0, .slice none 0 0] 8 rfl (shaped os _) (by kernel_rfl) (by kernel_rfl) (by kernel_rfl) (door_met os _)) ?_
  intro W base args ds gs before hval0 hW _ _ hL _
  have hval : ∀ (j : Nat) t v, Go.Proofs.Tryd.f12.params[j]? = some t → args[j]? = some v → Value.okWide Go.Proofs.Tryd.prog W .any base t v := hval0
  have hW' := hW
  obtain ⟨p, q, hA0, hV, rfl, hfz, hnd⟩ := hW
  have hA : DataW.TrodAll enc Go.Proofs.Tryd.prog W 0 (fun _ => true) true Go.Proofs.Tryd.f12.params.toList args.toList ds p := hA0
  rw [Go.Proofs.Tryd.params12] at hA hval
  obtain ⟨v0, vs0, d0, ds0, p0, q0, hargs, rfl, rfl, h0, r0⟩ := trodAll_cons hA
  obtain ⟨v1, vs1, d1, ds1, p1, q1, rfl, rfl, rfl, h1, r1⟩ := trodAll_cons r0
  obtain ⟨rfl, rfl, rfl⟩ := trodAll_nil r1
  obtain rfl : args = #[v0, v1] := by cases args; simp_all
  obtain ⟨rfl, rfl⟩ := trodVars_none hV
  obtain ⟨n0, rfl, rfl, rfl, w0⟩ := open_int Go.Proofs.Tryd.underlying5 (hval 0 5 v0 rfl rfl) h0
  obtain ⟨l, ha⟩ := argOct_of Go.Proofs.Tryd.underlying22 Go.Proofs.Tryd.underlying5 (by kernel_rfl) (hval 1 22 v1 rfl rfl) h1
  have lt1 : ∀ x ∈ p1, x.block < W.heap.size := by obtain ⟨m, hm⟩ := h1; exact DataW.trod_lt m _ _ _ hm
  rw [MakeChecks.laidMetH_plain _ _ _ (by kernel_rfl)] at hL
  obtain ⟨a1, s1, hv1, _⟩ := laid_sentinel hL gO gT Go.Proofs.Tryd.underlying44 rowP Go.Proofs.Tryd.underlying300 Go.Proofs.Tryd.underlying318 rfl rfl Go.Proofs.Tryd.underlying9 cS cStr
  have hg : W.cell? ⟨1, 0, none⟩ = some (.iface 300 (.pointer (some a1))) := by simpa using World.var?_cell gO hv1 0
  clear hA0 hval0
  refine Calls.mono (call_lawU baseS fnsS implT specT (by decide) (by decide) (by decide) lawT fd_law (n := n0) ha hg) fun e W' ⟨v', he, hv', hm⟩ => ?_
  subst he hv'
  have bel := hm.below
  exact ⟨_, rfl, _, _, _, [], _, [], hW', trodAll_mk1 (shut_bool Go.Proofs.Tryd.underlying4 _), trodAll_cons_mk (shut_int Go.Proofs.Tryd.underlying5 w0) (trodAll_cons_mk (Below.trod laidOut (by kernel_rfl) (of_decide_eq_true (by kernel_rfl)) h1 bel lt1) trodAll_mk0), rfl, bel.frame _, fun h => by cases h⟩

set_option maxHeartbeats 4000000 in
theorem joined : joinedFacts Go.Proofs.Tryd.prog 12 Go.Proofs.Tryd.f12 Rows.fnUnsafeOffsetCommitRequestSpec Rows.fnUnsafeOffsetCommitRequestRow = true := by
  unfold joinedFacts
  exact bandT (bandT (bandT (bandT (bandT (bandT (bandT (bandT (bandT (bandT (bandT (bandT (bandT (bandT (bandT (bandT (bandT (bandT (bandT (bandT (bandT (bandT (bandT (bandT (bandT (bandT (bandT (bandT (bandT (bandT (bandT (by as_aux_lemma => kernel_rfl) laidOut) mapsRowedS) (by as_aux_lemma => kernel_rfl)) (by as_aux_lemma => kernel_rfl)) (by as_aux_lemma => kernel_rfl)) (by as_aux_lemma => kernel_rfl)) (by as_aux_lemma => kernel_rfl)) (by as_aux_lemma => kernel_rfl)) (by as_aux_lemma => kernel_rfl)) (by as_aux_lemma => kernel_rfl)) (by as_aux_lemma => kernel_rfl)) (by as_aux_lemma => kernel_rfl)) (by as_aux_lemma => kernel_rfl)) (by as_aux_lemma => kernel_rfl)) (by as_aux_lemma => kernel_rfl)) (by as_aux_lemma => kernel_rfl)) (by as_aux_lemma => kernel_rfl)) (by as_aux_lemma => kernel_rfl)) (by as_aux_lemma => kernel_rfl)) (by as_aux_lemma => kernel_rfl)) (by as_aux_lemma => kernel_rfl)) plainKeysS) (by as_aux_lemma => kernel_rfl)) stopsHeardS) bigEnter) bigLifts) bigMake) (by as_aux_lemma => kernel_rfl)) (by as_aux_lemma => kernel_rfl)) (by as_aux_lemma => kernel_rfl)) (by as_aux_lemma => kernel_rfl)
theorem named : Go.Proofs.Tryd.prog.funcNamed Rows.fnUnsafeOffsetCommitRequestRow.func = some 12 := by kernel_rfl
theorem isInst : Go.Proofs.Tryd.f12.isInstance Go.Proofs.Tryd.prog Rows.fnUnsafeOffsetCommitRequestRow.origin Rows.fnUnsafeOffsetCommitRequestRow.targs := of_decide_eq_true (by kernel_rfl)
theorem isWrap : Go.Proofs.Tryd.f12.isWrapper Go.Proofs.Tryd.prog Rows.fnUnsafeOffsetCommitRequestRow.wrapper Rows.fnUnsafeOffsetCommitRequestRow.mainSum := by unfold Func.isWrapper; first | (rw [if_pos (by decide +kernel)]; kernel_rfl) | (rw [if_neg (by decide +kernel)]; exact ⟨rfl, rfl⟩)
theorem row : Rows.FnUnsafeOffsetCommitRequestSaid :=
  OpenClaim.holds_of_wide 12 Go.Proofs.Tryd.f12 rfl rfl rfl rfl rfl rfl rfl ⟨rfl, rfl, rfl, rfl, rfl⟩ rfl rfl rfl rfl rfl named Go.Proofs.Tryd.func12 joined
    isInst isWrap
    (fun os started H enc _ => lifted os started H enc)
end Go.Proofs.YtfgfenphgeffgaaDoor.fnUnsafeOffsetCommitRequest

namespace Go.Proofs.YtfgfenphgeffgaaDoor
open Go.Kf
set_option maxHeartbeats 4000000 in
/-- The card. -/
theorem fnUnsafeOffsetCommitRequest_card : Rows.FnUnsafeOffsetCommitRequestCardSaid :=
  Claim7.holds_tied_plain_at .later [] [.sentinel] true Rows.fnUnsafeOffsetCommitRequestCard.stood.harness false
    fnUnsafeOffsetCommitRequest.row (fun _ h => by cases h) (by as_aux_lemma => kernel_rfl) (fun _ h => by cases h) fnUnsafeOffsetCommitRequest_row_tie rfl ⟨rfl, rfl⟩ mainS rfl
    (fun f fn hf hfn => by
      obtain rfl : f = 12 := Option.some.inj (fnUnsafeOffsetCommitRequest.named.symm.trans hf) |>.symm
      obtain rfl : fn = Go.Proofs.Tryd.f12 := (Option.some.inj (Go.Proofs.Tryd.func12.symm.trans hfn)).symm
      refine ⟨looksS, fun j t ht => ?_⟩
      rw [Go.Proofs.Tryd.params12] at ht
      rcases j with _ | _ | j
      · obtain rfl : 5 = t := by simpa using ht
        exact (show Go.Proofs.Tryd.prog.wantsStandIn 5 = false by kernel_rfl)
      · obtain rfl : 22 = t := by simpa using ht
        exact (show Go.Proofs.Tryd.prog.wantsStandIn 22 = false by kernel_rfl)
      · simp at ht)
    (by as_aux_lemma => kernel_rfl)
#print axioms fnUnsafeOffsetCommitRequest_card
end Go.Proofs.YtfgfenphgeffgaaDoor
