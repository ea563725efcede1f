/- The two readers of this message tell the same tree of the same octets: the tied card of laws.FnUnsafeOffsetForLeaderEpochRequest is proved, at every version number and every row of octets; no condition. -/
import Derived.Test.YtfiedlfmogpanaaDoorKs
set_option linter.unusedSimpArgs false
set_option linter.unusedVariables false
set_option maxRecDepth 100000
namespace Go.Kf
open Go

def tf : TypeId → FuncId × FuncId := fun | 180 => (191, 214) | 143 => (144, 192) | _ => (0, 0)

def rOffsetForLeaderEpochRequestTopicPartition : Fds := .cons .all (.pr .i32 none) (.cons (.ge 2) (.pr .i32 (some (.int .i32 (-1)))) (.cons .all (.pr .i32 none) (.tags)))
theorem df_OffsetForLeaderEpochRequestTopicPartition : FOk Go.Proofs.Tryd.prog 190 1 (seqs (rOffsetForLeaderEpochRequestTopicPartition.dfl NS 180 0)) [] := ⟨Go.Proofs.Tryd.f190, _, [0], Go.Proofs.Tryd.func190, rfl, by kernel_rfl, by kernel_rfl, by decide, by kernel_rfl, by kernel_rfl⟩
theorem ft_OffsetForLeaderEpochRequestTopicPartition : FOk Go.Proofs.Tryd.prog 191 1 (tellC NS tf 180 0 214 rOffsetForLeaderEpochRequestTopicPartition) [.cell 1 NS.t_Tree] := ⟨Go.Proofs.Tryd.f191, _, [0, 2, 3], Go.Proofs.Tryd.func191, rfl, by kernel_rfl, by kernel_rfl, by decide, by kernel_rfl, by kernel_rfl⟩
theorem fc_OffsetForLeaderEpochRequestTopicPartition : FOk Go.Proofs.Tryd.prog 214 3 (cTagFn NS) [] := ⟨Go.Proofs.Tryd.f214, _, [0, 1, 2], Go.Proofs.Tryd.func214, rfl, by kernel_rfl, by kernel_rfl, by decide, by kernel_rfl, by kernel_rfl⟩
theorem tl_OffsetForLeaderEpochRequestTopicPartition : TellP Go.Proofs.Tryd.prog 191 0 rOffsetForLeaderEpochRequestTopicPartition := tellP baseS fnsS implT tellN (tf := tf) (Tt := 180) (idx0 := 0) ft_OffsetForLeaderEpochRequestTopicPartition (fun _ => fc_OffsetForLeaderEpochRequestTopicPartition) ⟨trivial, ⟨trivial, ⟨trivial, trivial⟩⟩⟩ (Fds.ok_of (fx := true) (Tt := 180) (idx := 0) (off := 0) baseS fnsS rOffsetForLeaderEpochRequestTopicPartition (by kernel_rfl) ⟨trivial, ⟨trivial, ⟨trivial, trivial⟩⟩⟩).2.1 (by decide)

def rOffsetForLeaderEpochRequestTopic : Fds := .cons .all (.txt .str) (.cons .all (.arr 141 none (.row 180 178 190 (.cons .all (.pr .i32 none) (.cons (.ge 2) (.pr .i32 (some (.int .i32 (-1)))) (.cons .all (.pr .i32 none) (.tags)))))) (.tags))
theorem df_OffsetForLeaderEpochRequestTopic : FOk Go.Proofs.Tryd.prog 189 1 (seqs (rOffsetForLeaderEpochRequestTopic.dfl NS 143 0)) [] := ⟨Go.Proofs.Tryd.f189, _, [0], Go.Proofs.Tryd.func189, rfl, by kernel_rfl, by kernel_rfl, by decide, by kernel_rfl, by kernel_rfl⟩
theorem ft_OffsetForLeaderEpochRequestTopic : FOk Go.Proofs.Tryd.prog 144 1 (tellC NS tf 143 0 192 rOffsetForLeaderEpochRequestTopic) [.cell 1 NS.t_Tree] := ⟨Go.Proofs.Tryd.f144, _, [0, 2, 3, 29, 30, 31, 4, 34, 46, 47, 49], Go.Proofs.Tryd.func144, rfl, by kernel_rfl, by kernel_rfl, by decide, by kernel_rfl, by kernel_rfl⟩
theorem fc_OffsetForLeaderEpochRequestTopic : FOk Go.Proofs.Tryd.prog 192 3 (cTagFn NS) [] := ⟨Go.Proofs.Tryd.f192, _, [0, 1, 2], Go.Proofs.Tryd.func192, rfl, by kernel_rfl, by kernel_rfl, by decide, by kernel_rfl, by kernel_rfl⟩
theorem tl_OffsetForLeaderEpochRequestTopic : TellP Go.Proofs.Tryd.prog 144 0 rOffsetForLeaderEpochRequestTopic := tellP baseS fnsS implT tellN (tf := tf) (Tt := 143) (idx0 := 0) ft_OffsetForLeaderEpochRequestTopic (fun _ => fc_OffsetForLeaderEpochRequestTopic) ⟨trivial, ⟨⟨tiB_ok (by kernel_rfl), el_ti (fx := true) baseS fnsS _ (by kernel_rfl) ⟨df_OffsetForLeaderEpochRequestTopicPartition, ⟨trivial, ⟨trivial, ⟨trivial, trivial⟩⟩⟩⟩, tl_OffsetForLeaderEpochRequestTopicPartition⟩, trivial⟩⟩ (Fds.ok_of (fx := true) (Tt := 143) (idx := 0) (off := 0) baseS fnsS rOffsetForLeaderEpochRequestTopic (by kernel_rfl) ⟨trivial, ⟨⟨df_OffsetForLeaderEpochRequestTopicPartition, ⟨trivial, ⟨trivial, ⟨trivial, trivial⟩⟩⟩⟩, trivial⟩⟩).2.1 (by decide)

/-- The message's schema. -/
def mS : Msg := ⟨138, 90, 142, 4, false, .cons (.ge 3) (.pr .i32 (some (.int .i32 (-2)))) (.cons .all (.arr 136 none (.row 143 140 189 (.cons .all (.txt .str) (.cons .all (.arr 141 none (.row 180 178 190 (.cons .all (.pr .i32 none) (.cons (.ge 2) (.pr .i32 (some (.int .i32 (-1)))) (.cons .all (.pr .i32 none) (.tags)))))) (.tags))))) (.tags))⟩
def dS : DoorN where
  newP := 97
  setV := 99
  maxV := 98
  readF := 100
  unsF := 102
  readf := 143
  tell := 101
  maxI := 41
  tellI := 42
  unsI := 43
theorem rd_m : FOk Go.Proofs.Tryd.prog 143 3 (mS.gen NS true) [.var 3] := ⟨Go.Proofs.Tryd.f143, _, [0, 1, 2, 6, 7, 8, 9, 10, 42, 11, 12, 13, 14, 53, 57, 62, 15, 68, 16, 17, 18, 77, 78, 81, 19, 20, 21, 93, 97, 102, 22, 108, 23, 24, 25, 123, 26, 27, 134, 144, 154], Go.Proofs.Tryd.func143, rfl, by kernel_rfl, by kernel_rfl, by decide, by kernel_rfl, by kernel_rfl⟩
theorem df_m : FOk Go.Proofs.Tryd.prog 142 1 (seqs (mS.fs.dfl NS mS.tT 1)) [] := ⟨Go.Proofs.Tryd.f142, _, [0], Go.Proofs.Tryd.func142, rfl, by kernel_rfl, by kernel_rfl, by decide, by kernel_rfl, by kernel_rfl⟩
theorem mt : MsgT Go.Proofs.Tryd.prog NS mS true := msgT_of baseS fnsS (by kernel_rfl) (by kernel_rfl) (by kernel_rfl) ⟨trivial, ⟨⟨df_OffsetForLeaderEpochRequestTopic, ⟨trivial, ⟨⟨df_OffsetForLeaderEpochRequestTopicPartition, ⟨trivial, ⟨trivial, ⟨trivial, trivial⟩⟩⟩⟩, trivial⟩⟩⟩, trivial⟩⟩ df_m
theorem ft_OffsetForLeaderEpochRequest : FOk Go.Proofs.Tryd.prog 101 1 (tellC NS tf 138 1 145 mS.fs) [.cell 1 NS.t_Tree] := ⟨Go.Proofs.Tryd.f101, _, [0, 2, 3, 29, 30, 31, 4, 34, 46, 47, 49], Go.Proofs.Tryd.func101, rfl, by kernel_rfl, by kernel_rfl, by decide, by kernel_rfl, by kernel_rfl⟩
theorem fc_OffsetForLeaderEpochRequest : FOk Go.Proofs.Tryd.prog 145 3 (cTagFn NS) [] := ⟨Go.Proofs.Tryd.f145, _, [0, 1, 2], Go.Proofs.Tryd.func145, rfl, by kernel_rfl, by kernel_rfl, by decide, by kernel_rfl, by kernel_rfl⟩
theorem tl_OffsetForLeaderEpochRequest : TellP Go.Proofs.Tryd.prog 101 1 mS.fs := tellP baseS fnsS implT tellN (tf := tf) (Tt := 138) (idx0 := 1) ft_OffsetForLeaderEpochRequest (fun _ => fc_OffsetForLeaderEpochRequest) ⟨trivial, ⟨⟨tiB_ok (by kernel_rfl), el_ti (fx := true) baseS fnsS _ (by kernel_rfl) ⟨df_OffsetForLeaderEpochRequestTopic, ⟨trivial, ⟨⟨df_OffsetForLeaderEpochRequestTopicPartition, ⟨trivial, ⟨trivial, ⟨trivial, trivial⟩⟩⟩⟩, trivial⟩⟩⟩, tl_OffsetForLeaderEpochRequestTopic⟩, trivial⟩⟩ mt.hf (by decide)
theorem fd_new : FOk Go.Proofs.Tryd.prog 97 0 (c_new NS mS.tT mS.dflt) [.var 0] := ⟨Go.Proofs.Tryd.f97, _, [0, 1], Go.Proofs.Tryd.func97, rfl, by kernel_rfl, by kernel_rfl, by decide, by kernel_rfl, by kernel_rfl⟩
theorem fd_set : FOk Go.Proofs.Tryd.prog 99 2 (c_set NS mS.tT) [] := ⟨Go.Proofs.Tryd.f99, _, [0, 1], Go.Proofs.Tryd.func99, rfl, by kernel_rfl, by kernel_rfl, by decide, by kernel_rfl, by kernel_rfl⟩
theorem door : DoorT Go.Proofs.Tryd.prog NS mS true dS where
  msg := mt
  vin := rfl
  ti := (tsB_ok (by' := bytesOf Go.Proofs.Tryd.prog 138) (by kernel_rfl)).imp fun _ h => ⟨_, h⟩
  newP := fd_new
  setV := fd_set
  readf := rd_m
  tell := tl_OffsetForLeaderEpochRequest
  dok := ⟨⟨_, rfl, by decide⟩, ⟨⟨⟨⟨_, rfl, by decide⟩, ⟨⟨_, rfl, by decide⟩, ⟨⟨_, rfl, by decide⟩, trivial⟩⟩⟩, trivial⟩, trivial⟩⟩
  shB := by kernel_rfl
  cnt := by decide
theorem fd_rf : FOk Go.Proofs.Tryd.prog 100 2 (c_rf NS mS.pT 143 false) [.var 2] := ⟨Go.Proofs.Tryd.f100, _, [0, 1, 4], Go.Proofs.Tryd.func100, rfl, by kernel_rfl, by kernel_rfl, by decide, by kernel_rfl, by kernel_rfl⟩
theorem fd_uf : FOk Go.Proofs.Tryd.prog 102 2 (c_rf NS mS.pT 143 true) [.var 2] := ⟨Go.Proofs.Tryd.f102, _, [0, 1, 4], Go.Proofs.Tryd.func102, rfl, by kernel_rfl, by kernel_rfl, by decide, by kernel_rfl, by kernel_rfl⟩
theorem fd_mv : FOk Go.Proofs.Tryd.prog 98 1 (c_max 4) [.var 1] := ⟨Go.Proofs.Tryd.f98, _, [0, 2], Go.Proofs.Tryd.func98, rfl, by kernel_rfl, by kernel_rfl, by decide, by kernel_rfl, by kernel_rfl⟩
theorem fd_mi : FOk Go.Proofs.Tryd.prog 41 0 (c_maxI NS mS.pT 97 98) [.var 0] := ⟨Go.Proofs.Tryd.f41, _, [0], Go.Proofs.Tryd.func41, rfl, by kernel_rfl, by kernel_rfl, by decide, by kernel_rfl, by kernel_rfl⟩
theorem fd_tellI : FOk Go.Proofs.Tryd.prog 42 2 (c_door NS mS.pT 97 99 100 101) [.cell 2 NS.t_Tree, .var 3] := ⟨Go.Proofs.Tryd.f42, _, [0, 1, 4, 5, 6, 16], Go.Proofs.Tryd.func42, rfl, by kernel_rfl, by kernel_rfl, by decide, by kernel_rfl, by kernel_rfl⟩
theorem fd_unsI : FOk Go.Proofs.Tryd.prog 43 2 (c_door NS mS.pT 97 99 102 101) [.cell 2 NS.t_Tree, .var 3] := ⟨Go.Proofs.Tryd.f43, _, [0, 1, 4, 5, 6, 16], Go.Proofs.Tryd.func43, rfl, by kernel_rfl, by kernel_rfl, by decide, by kernel_rfl, by kernel_rfl⟩
theorem lawT : LawT Go.Proofs.Tryd.prog NS mS true dS 4 := ⟨door, fd_rf, fd_uf, fd_mv, fd_mi, fd_tellI, fd_unsI, by decide, by decide⟩
theorem fd_law : FOk Go.Proofs.Tryd.prog 11 2 (c_lawU NS 28 dS.maxI dS.tellI dS.unsI 1000) [.var 2] := ⟨Go.Proofs.Tryd.f11, _, [0, 1, 4, 12, 5, 15, 18, 6, 7, 8, 9], Go.Proofs.Tryd.func11, rfl, by kernel_rfl, by kernel_rfl, by decide, by kernel_rfl, by kernel_rfl⟩
end Go.Kf

namespace Go.Proofs.YtfiedlfmogpanaaDoor.fnUnsafeOffsetForLeaderEpochRequest
open Go.ChangeShapes Go.WideShapes Go.ChangeAt Go.RowKit Go.Kf

theorem lifted (os : Os) (started : os.Started) (H : Type) (enc : TypeId × Value → H) :
    ReturnsInHanded {} Go.Proofs.Tryd.checked os 11 .any (fun w args => (Rows.fnUnsafeOffsetForLeaderEpochRequestSpec.pre enc Go.Proofs.Tryd.prog Go.Proofs.Tryd.f11 [] false w args ∧ laidMetH Go.Proofs.Tryd.prog Rows.fnUnsafeOffsetForLeaderEpochRequestRow.laid w) ∧ sizedMet enc Go.Proofs.Tryd.prog Go.Proofs.Tryd.f11 (OpenSpec.ofChange Rows.fnUnsafeOffsetForLeaderEpochRequestSpec) false w args)
      (Rows.fnUnsafeOffsetForLeaderEpochRequestSpec.post enc Go.Proofs.Tryd.prog Go.Proofs.Tryd.f11 false true false false) := by
  refine returnsInHanded_of_change_and (C := Go.Proofs.Tryd.checked) (X := fun w _ => laidMetH Go.Proofs.Tryd.prog Rows.fnUnsafeOffsetForLeaderEpochRequestRow.laid w) (fun _ _ _ hh h => h.of_heap hh) own started (by kernel_rfl) Go.Proofs.Tryd.func11
    (ChangeSpec.witness_shaped (enc := enc) (C := Go.Proofs.Tryd.checked) (os := os) (X := fun w _ => laidMetH Go.Proofs.Tryd.prog Rows.fnUnsafeOffsetForLeaderEpochRequestRow.laid w) false (World.doorLaid Go.Proofs.Tryd.prog 400 os) #[.int .u8 0, .slice none 0 0] 8 rfl (shaped os _) (by kernel_rfl) (by kernel_rfl) (by kernel_rfl) (door_met os _)) ?_
  intro W base args ds gs before hval0 hW _ _ hL _
  have hval : ∀ (j : Nat) t v, Go.Proofs.Tryd.f11.params[j]? = some t → args[j]? = some v → Value.okWide Go.Proofs.Tryd.prog W .any base t v := hval0
  have hW' := hW
  obtain ⟨p, q, hA0, hV, rfl, hfz, hnd⟩ := hW
  have hA : DataW.TrodAll enc Go.Proofs.Tryd.prog W 0 (fun _ => true) true Go.Proofs.Tryd.f11.params.toList args.toList ds p := hA0
  rw [Go.Proofs.Tryd.params11] at hA hval
  obtain ⟨v0, vs0, d0, ds0, p0, q0, hargs, rfl, rfl, h0, r0⟩ := trodAll_cons hA
  obtain ⟨v1, vs1, d1, ds1, p1, q1, rfl, rfl, rfl, h1, r1⟩ := trodAll_cons r0
  obtain ⟨rfl, rfl, rfl⟩ := trodAll_nil r1
  obtain rfl : args = #[v0, v1] := by cases args; simp_all
  obtain ⟨rfl, rfl⟩ := trodVars_none hV
  obtain ⟨n0, rfl, rfl, rfl, w0⟩ := open_int Go.Proofs.Tryd.underlying5 (hval 0 5 v0 rfl rfl) h0
  obtain ⟨l, ha⟩ := argOct_of Go.Proofs.Tryd.underlying22 Go.Proofs.Tryd.underlying5 (by kernel_rfl) (hval 1 22 v1 rfl rfl) h1
  have lt1 : ∀ x ∈ p1, x.block < W.heap.size := by obtain ⟨m, hm⟩ := h1; exact DataW.trod_lt m _ _ _ hm
  rw [MakeChecks.laidMetH_plain _ _ _ (by kernel_rfl)] at hL
  obtain ⟨a1, s1, hv1, _⟩ := laid_sentinel hL gO gT Go.Proofs.Tryd.underlying51 rowP Go.Proofs.Tryd.underlying236 Go.Proofs.Tryd.underlying254 rfl rfl Go.Proofs.Tryd.underlying9 cS cStr
  have hg : W.cell? ⟨1, 0, none⟩ = some (.iface 236 (.pointer (some a1))) := by simpa using World.var?_cell gO hv1 0
  clear hA0 hval0
  refine Calls.mono (call_lawU baseS fnsS implT specT (by decide) (by decide) (by decide) lawT fd_law (n := n0) ha hg) fun e W' ⟨v', he, hv', hm⟩ => ?_
  subst he hv'
  have bel := hm.below
  exact ⟨_, rfl, _, _, _, [], _, [], hW', trodAll_mk1 (shut_bool Go.Proofs.Tryd.underlying4 _), trodAll_cons_mk (shut_int Go.Proofs.Tryd.underlying5 w0) (trodAll_cons_mk (Below.trod laidOut (by kernel_rfl) (of_decide_eq_true (by kernel_rfl)) h1 bel lt1) trodAll_mk0), rfl, bel.frame _, fun h => by cases h⟩

theorem joined : joinedFacts Go.Proofs.Tryd.prog 11 Go.Proofs.Tryd.f11 Rows.fnUnsafeOffsetForLeaderEpochRequestSpec Rows.fnUnsafeOffsetForLeaderEpochRequestRow = true := by
  unfold joinedFacts
  exact bandT (bandT (bandT (bandT (bandT (bandT (bandT (bandT (bandT (bandT (bandT (bandT (bandT (bandT (bandT (bandT (bandT (bandT (bandT (bandT (bandT (bandT (bandT (bandT (bandT (bandT (bandT (bandT (bandT (bandT (bandT (by as_aux_lemma => kernel_rfl) laidOut) mapsRowedS) (by as_aux_lemma => kernel_rfl)) (by as_aux_lemma => kernel_rfl)) (by as_aux_lemma => kernel_rfl)) (by as_aux_lemma => kernel_rfl)) (by as_aux_lemma => kernel_rfl)) (by as_aux_lemma => kernel_rfl)) (by as_aux_lemma => kernel_rfl)) (by as_aux_lemma => kernel_rfl)) (by as_aux_lemma => kernel_rfl)) (by as_aux_lemma => kernel_rfl)) (by as_aux_lemma => kernel_rfl)) (by as_aux_lemma => kernel_rfl)) (by as_aux_lemma => kernel_rfl)) (by as_aux_lemma => kernel_rfl)) (by as_aux_lemma => kernel_rfl)) (by as_aux_lemma => kernel_rfl)) (by as_aux_lemma => kernel_rfl)) (by as_aux_lemma => kernel_rfl)) (by as_aux_lemma => kernel_rfl)) plainKeysS) (by as_aux_lemma => kernel_rfl)) stopsHeardS) bigEnter) bigLifts) bigMake) (by as_aux_lemma => kernel_rfl)) (by as_aux_lemma => kernel_rfl)) (by as_aux_lemma => kernel_rfl)) (by as_aux_lemma => kernel_rfl)
theorem named : Go.Proofs.Tryd.prog.funcNamed Rows.fnUnsafeOffsetForLeaderEpochRequestRow.func = some 11 := by kernel_rfl
theorem isInst : Go.Proofs.Tryd.f11.isInstance Go.Proofs.Tryd.prog Rows.fnUnsafeOffsetForLeaderEpochRequestRow.origin Rows.fnUnsafeOffsetForLeaderEpochRequestRow.targs := of_decide_eq_true (by kernel_rfl)
theorem isWrap : Go.Proofs.Tryd.f11.isWrapper Go.Proofs.Tryd.prog Rows.fnUnsafeOffsetForLeaderEpochRequestRow.wrapper Rows.fnUnsafeOffsetForLeaderEpochRequestRow.mainSum := by unfold Func.isWrapper; first | (rw [if_pos (by decide +kernel)]; kernel_rfl) | (rw [if_neg (by decide +kernel)]; exact ⟨rfl, rfl⟩)
theorem row : Rows.FnUnsafeOffsetForLeaderEpochRequestSaid :=
  OpenClaim.holds_of_wide 11 Go.Proofs.Tryd.f11 rfl rfl rfl rfl rfl rfl rfl ⟨rfl, rfl, rfl, rfl, rfl⟩ rfl rfl rfl rfl rfl named Go.Proofs.Tryd.func11 joined
    isInst isWrap
    (fun os started H enc _ => lifted os started H enc)
end Go.Proofs.YtfiedlfmogpanaaDoor.fnUnsafeOffsetForLeaderEpochRequest

namespace Go.Proofs.YtfiedlfmogpanaaDoor
open Go.Kf
/-- The card. -/
theorem fnUnsafeOffsetForLeaderEpochRequest_card : Rows.FnUnsafeOffsetForLeaderEpochRequestCardSaid :=
  Claim7.holds_tied_plain_at .later [] [.sentinel] true Rows.fnUnsafeOffsetForLeaderEpochRequestCard.stood.harness false
    fnUnsafeOffsetForLeaderEpochRequest.row (fun _ h => by cases h) (by as_aux_lemma => kernel_rfl) (fun _ h => by cases h) fnUnsafeOffsetForLeaderEpochRequest_row_tie rfl ⟨rfl, rfl⟩ mainS rfl
    (fun f fn hf hfn => by
      obtain rfl : f = 11 := Option.some.inj (fnUnsafeOffsetForLeaderEpochRequest.named.symm.trans hf) |>.symm
      obtain rfl : fn = Go.Proofs.Tryd.f11 := (Option.some.inj (Go.Proofs.Tryd.func11.symm.trans hfn)).symm
      refine ⟨looksS, fun j t ht => ?_⟩
      rw [Go.Proofs.Tryd.params11] at ht
      rcases j with _ | _ | j
      · obtain rfl : 5 = t := by simpa using ht
        exact (show Go.Proofs.Tryd.prog.wantsStandIn 5 = false by kernel_rfl)
      · obtain rfl : 22 = t := by simpa using ht
        exact (show Go.Proofs.Tryd.prog.wantsStandIn 22 = false by kernel_rfl)
      · simp at ht)
    (by as_aux_lemma => kernel_rfl)
#print axioms fnUnsafeOffsetForLeaderEpochRequest_card
end Go.Proofs.YtfiedlfmogpanaaDoor
