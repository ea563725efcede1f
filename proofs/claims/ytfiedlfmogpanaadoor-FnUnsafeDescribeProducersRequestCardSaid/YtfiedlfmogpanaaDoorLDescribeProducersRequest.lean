/- The two readers of this message tell the same tree of the same octets: the tied card of laws.FnUnsafeDescribeProducersRequest is proved, at every version number and every row of octets; no condition. -/
import Derived.Test.YtfiedlfmogpanaaDoorKs
set_option linter.unusedSimpArgs false
set_option linter.unusedVariables false
set_option maxRecDepth 100000
namespace Go.Kf
open Go

def tf : TypeId → FuncId × FuncId := fun | 126 => (135, 184) | _ => (0, 0)

def rDescribeProducersRequestTopic : Fds := .cons .all (.txt .str) (.cons .all (.arr 124 none (.pr .i32)) (.tags))
theorem df_DescribeProducersRequestTopic : FOk Go.Proofs.Tryd.prog 183 1 (seqs (rDescribeProducersRequestTopic.dfl NS 126 0)) [] := ⟨Go.Proofs.Tryd.f183, _, [0], Go.Proofs.Tryd.func183, rfl, by kernel_rfl, by kernel_rfl, by decide, by kernel_rfl, by kernel_rfl⟩
theorem ft_DescribeProducersRequestTopic : FOk Go.Proofs.Tryd.prog 135 1 (tellC NS tf 126 0 184 rDescribeProducersRequestTopic) [.cell 1 NS.t_Tree] := ⟨Go.Proofs.Tryd.f135, _, [0, 2, 3, 29, 30, 31, 4, 34, 48, 49, 51], Go.Proofs.Tryd.func135, rfl, by kernel_rfl, by kernel_rfl, by decide, by kernel_rfl, by kernel_rfl⟩
theorem fc_DescribeProducersRequestTopic : FOk Go.Proofs.Tryd.prog 184 3 (cTagFn NS) [] := ⟨Go.Proofs.Tryd.f184, _, [0, 1, 2], Go.Proofs.Tryd.func184, rfl, by kernel_rfl, by kernel_rfl, by decide, by kernel_rfl, by kernel_rfl⟩
theorem tl_DescribeProducersRequestTopic : TellP Go.Proofs.Tryd.prog 135 0 rDescribeProducersRequestTopic := tellP baseS fnsS implT tellN (tf := tf) (Tt := 126) (idx0 := 0) ft_DescribeProducersRequestTopic (fun _ => fc_DescribeProducersRequestTopic) ⟨trivial, ⟨⟨tiB_ok (by kernel_rfl), el_ti (fx := true) baseS fnsS _ (by kernel_rfl) trivial, trivial⟩, trivial⟩⟩ (Fds.ok_of (fx := true) (Tt := 126) (idx := 0) (off := 0) baseS fnsS rDescribeProducersRequestTopic (by kernel_rfl) ⟨trivial, ⟨trivial, trivial⟩⟩).2.1 (by decide)

/-- The message's schema. -/
def mS : Msg := ⟨121, 84, 133, 0, false, .cons .all (.arr 119 none (.row 126 123 183 (.cons .all (.txt .str) (.cons .all (.arr 124 none (.pr .i32)) (.tags))))) (.tags)⟩
def dS : DoorN where
  newP := 85
  setV := 87
  maxV := 86
  readF := 88
  unsF := 90
  readf := 134
  tell := 89
  maxI := 35
  tellI := 36
  unsI := 37
theorem rd_m : FOk Go.Proofs.Tryd.prog 134 3 (mS.gen NS true) [.var 3] := ⟨Go.Proofs.Tryd.f134, _, [0, 1, 2, 6, 7, 8, 9, 10, 11, 12, 13, 41, 45, 50, 14, 56, 15, 16, 17, 65, 66, 69, 18, 19, 20, 81, 85, 90, 21, 96, 22, 109, 119], Go.Proofs.Tryd.func134, rfl, by kernel_rfl, by kernel_rfl, by decide, by kernel_rfl, by kernel_rfl⟩
theorem df_m : FOk Go.Proofs.Tryd.prog 133 1 (seqs (mS.fs.dfl NS mS.tT 1)) [] := ⟨Go.Proofs.Tryd.f133, _, [0], Go.Proofs.Tryd.func133, rfl, by kernel_rfl, by kernel_rfl, by decide, by kernel_rfl, by kernel_rfl⟩
theorem mt : MsgT Go.Proofs.Tryd.prog NS mS true := msgT_of baseS fnsS (by kernel_rfl) (by kernel_rfl) (by kernel_rfl) ⟨⟨df_DescribeProducersRequestTopic, ⟨trivial, ⟨trivial, trivial⟩⟩⟩, trivial⟩ df_m
theorem ft_DescribeProducersRequest : FOk Go.Proofs.Tryd.prog 89 1 (tellC NS tf 121 1 136 mS.fs) [.cell 1 NS.t_Tree] := ⟨Go.Proofs.Tryd.f89, _, [0, 2, 3, 20, 21, 22, 4, 25, 37, 38, 40], Go.Proofs.Tryd.func89, rfl, by kernel_rfl, by kernel_rfl, by decide, by kernel_rfl, by kernel_rfl⟩
theorem fc_DescribeProducersRequest : FOk Go.Proofs.Tryd.prog 136 3 (cTagFn NS) [] := ⟨Go.Proofs.Tryd.f136, _, [0, 1, 2], Go.Proofs.Tryd.func136, rfl, by kernel_rfl, by kernel_rfl, by decide, by kernel_rfl, by kernel_rfl⟩
theorem tl_DescribeProducersRequest : TellP Go.Proofs.Tryd.prog 89 1 mS.fs := tellP baseS fnsS implT tellN (tf := tf) (Tt := 121) (idx0 := 1) ft_DescribeProducersRequest (fun _ => fc_DescribeProducersRequest) ⟨⟨tiB_ok (by kernel_rfl), el_ti (fx := true) baseS fnsS _ (by kernel_rfl) ⟨df_DescribeProducersRequestTopic, ⟨trivial, ⟨trivial, trivial⟩⟩⟩, tl_DescribeProducersRequestTopic⟩, trivial⟩ mt.hf (by decide)
theorem fd_new : FOk Go.Proofs.Tryd.prog 85 0 (c_new NS mS.tT mS.dflt) [.var 0] := ⟨Go.Proofs.Tryd.f85, _, [0, 1], Go.Proofs.Tryd.func85, rfl, by kernel_rfl, by kernel_rfl, by decide, by kernel_rfl, by kernel_rfl⟩
theorem fd_set : FOk Go.Proofs.Tryd.prog 87 2 (c_set NS mS.tT) [] := ⟨Go.Proofs.Tryd.f87, _, [0, 1], Go.Proofs.Tryd.func87, rfl, by kernel_rfl, by kernel_rfl, by decide, by kernel_rfl, by kernel_rfl⟩
theorem door : DoorT Go.Proofs.Tryd.prog NS mS true dS where
  msg := mt
  vin := rfl
  ti := (tsB_ok (by' := bytesOf Go.Proofs.Tryd.prog 121) (by kernel_rfl)).imp fun _ h => ⟨_, h⟩
  newP := fd_new
  setV := fd_set
  readf := rd_m
  tell := tl_DescribeProducersRequest
  dok := ⟨⟨trivial, trivial⟩, trivial⟩
  shB := by kernel_rfl
  cnt := by decide
theorem fd_rf : FOk Go.Proofs.Tryd.prog 88 2 (c_rf NS mS.pT 134 false) [.var 2] := ⟨Go.Proofs.Tryd.f88, _, [0, 1, 4], Go.Proofs.Tryd.func88, rfl, by kernel_rfl, by kernel_rfl, by decide, by kernel_rfl, by kernel_rfl⟩
theorem fd_uf : FOk Go.Proofs.Tryd.prog 90 2 (c_rf NS mS.pT 134 true) [.var 2] := ⟨Go.Proofs.Tryd.f90, _, [0, 1, 4], Go.Proofs.Tryd.func90, rfl, by kernel_rfl, by kernel_rfl, by decide, by kernel_rfl, by kernel_rfl⟩
theorem fd_mv : FOk Go.Proofs.Tryd.prog 86 1 (c_max 0) [.var 1] := ⟨Go.Proofs.Tryd.f86, _, [0, 2], Go.Proofs.Tryd.func86, rfl, by kernel_rfl, by kernel_rfl, by decide, by kernel_rfl, by kernel_rfl⟩
theorem fd_mi : FOk Go.Proofs.Tryd.prog 35 0 (c_maxI NS mS.pT 85 86) [.var 0] := ⟨Go.Proofs.Tryd.f35, _, [0], Go.Proofs.Tryd.func35, rfl, by kernel_rfl, by kernel_rfl, by decide, by kernel_rfl, by kernel_rfl⟩
theorem fd_tellI : FOk Go.Proofs.Tryd.prog 36 2 (c_door NS mS.pT 85 87 88 89) [.cell 2 NS.t_Tree, .var 3] := ⟨Go.Proofs.Tryd.f36, _, [0, 1, 4, 5, 6, 16], Go.Proofs.Tryd.func36, rfl, by kernel_rfl, by kernel_rfl, by decide, by kernel_rfl, by kernel_rfl⟩
theorem fd_unsI : FOk Go.Proofs.Tryd.prog 37 2 (c_door NS mS.pT 85 87 90 89) [.cell 2 NS.t_Tree, .var 3] := ⟨Go.Proofs.Tryd.f37, _, [0, 1, 4, 5, 6, 16], Go.Proofs.Tryd.func37, rfl, by kernel_rfl, by kernel_rfl, by decide, by kernel_rfl, by kernel_rfl⟩
theorem lawT : LawT Go.Proofs.Tryd.prog NS mS true dS 0 := ⟨door, fd_rf, fd_uf, fd_mv, fd_mi, fd_tellI, fd_unsI, by decide, by decide⟩
theorem fd_law : FOk Go.Proofs.Tryd.prog 9 2 (c_lawU NS 28 dS.maxI dS.tellI dS.unsI 1000) [.var 2] := ⟨Go.Proofs.Tryd.f9, _, [0, 1, 4, 12, 5, 15, 18, 6, 7, 8, 9], Go.Proofs.Tryd.func9, rfl, by kernel_rfl, by kernel_rfl, by decide, by kernel_rfl, by kernel_rfl⟩
end Go.Kf

namespace Go.Proofs.YtfiedlfmogpanaaDoor.fnUnsafeDescribeProducersRequest
open Go.ChangeShapes Go.WideShapes Go.ChangeAt Go.RowKit Go.Kf

theorem lifted (os : Os) (started : os.Started) (H : Type) (enc : TypeId × Value → H) :
    ReturnsInHanded {} Go.Proofs.Tryd.checked os 9 .any (fun w args => (Rows.fnUnsafeDescribeProducersRequestSpec.pre enc Go.Proofs.Tryd.prog Go.Proofs.Tryd.f9 [] false w args ∧ laidMetH Go.Proofs.Tryd.prog Rows.fnUnsafeDescribeProducersRequestRow.laid w) ∧ sizedMet enc Go.Proofs.Tryd.prog Go.Proofs.Tryd.f9 (OpenSpec.ofChange Rows.fnUnsafeDescribeProducersRequestSpec) false w args)
      (Rows.fnUnsafeDescribeProducersRequestSpec.post enc Go.Proofs.Tryd.prog Go.Proofs.Tryd.f9 false true false false) := by
  refine returnsInHanded_of_change_and (C := Go.Proofs.Tryd.checked) (X := fun w _ => laidMetH Go.Proofs.Tryd.prog Rows.fnUnsafeDescribeProducersRequestRow.laid w) (fun _ _ _ hh h => h.of_heap hh) own started (by kernel_rfl) Go.Proofs.Tryd.func9
    (ChangeSpec.witness_shaped (enc := enc) (C := Go.Proofs.Tryd.checked) (os := os) (X := fun w _ => laidMetH Go.Proofs.Tryd.prog Rows.fnUnsafeDescribeProducersRequestRow.laid w) false (World.doorLaid Go.Proofs.Tryd.prog 400 os) #[.int .u8 0, .slice none 0 0] 8 rfl (shaped os _) (by kernel_rfl) (by kernel_rfl) (by kernel_rfl) (door_met os _)) ?_
  intro W base args ds gs before hval0 hW _ _ hL _
  have hval : ∀ (j : Nat) t v, Go.Proofs.Tryd.f9.params[j]? = some t → args[j]? = some v → Value.okWide Go.Proofs.Tryd.prog W .any base t v := hval0
  have hW' := hW
  obtain ⟨p, q, hA0, hV, rfl, hfz, hnd⟩ := hW
  have hA : DataW.TrodAll enc Go.Proofs.Tryd.prog W 0 (fun _ => true) true Go.Proofs.Tryd.f9.params.toList args.toList ds p := hA0
  rw [Go.Proofs.Tryd.params9] at hA hval
  obtain ⟨v0, vs0, d0, ds0, p0, q0, hargs, rfl, rfl, h0, r0⟩ := trodAll_cons hA
  obtain ⟨v1, vs1, d1, ds1, p1, q1, rfl, rfl, rfl, h1, r1⟩ := trodAll_cons r0
  obtain ⟨rfl, rfl, rfl⟩ := trodAll_nil r1
  obtain rfl : args = #[v0, v1] := by cases args; simp_all
  obtain ⟨rfl, rfl⟩ := trodVars_none hV
  obtain ⟨n0, rfl, rfl, rfl, w0⟩ := open_int Go.Proofs.Tryd.underlying5 (hval 0 5 v0 rfl rfl) h0
  obtain ⟨l, ha⟩ := argOct_of Go.Proofs.Tryd.underlying22 Go.Proofs.Tryd.underlying5 (by kernel_rfl) (hval 1 22 v1 rfl rfl) h1
  have lt1 : ∀ x ∈ p1, x.block < W.heap.size := by obtain ⟨m, hm⟩ := h1; exact DataW.trod_lt m _ _ _ hm
  rw [MakeChecks.laidMetH_plain _ _ _ (by kernel_rfl)] at hL
  obtain ⟨a1, s1, hv1, _⟩ := laid_sentinel hL gO gT Go.Proofs.Tryd.underlying51 rowP Go.Proofs.Tryd.underlying236 Go.Proofs.Tryd.underlying254 rfl rfl Go.Proofs.Tryd.underlying9 cS cStr
  have hg : W.cell? ⟨1, 0, none⟩ = some (.iface 236 (.pointer (some a1))) := by simpa using World.var?_cell gO hv1 0
  clear hA0 hval0
  refine Calls.mono (call_lawU baseS fnsS implT specT (by decide) (by decide) (by decide) lawT fd_law (n := n0) ha hg) fun e W' ⟨v', he, hv', hm⟩ => ?_
  subst he hv'
  have bel := hm.below
  exact ⟨_, rfl, _, _, _, [], _, [], hW', trodAll_mk1 (shut_bool Go.Proofs.Tryd.underlying4 _), trodAll_cons_mk (shut_int Go.Proofs.Tryd.underlying5 w0) (trodAll_cons_mk (Below.trod laidOut (by kernel_rfl) (of_decide_eq_true (by kernel_rfl)) h1 bel lt1) trodAll_mk0), rfl, bel.frame _, fun h => by cases h⟩

theorem joined : joinedFacts Go.Proofs.Tryd.prog 9 Go.Proofs.Tryd.f9 Rows.fnUnsafeDescribeProducersRequestSpec Rows.fnUnsafeDescribeProducersRequestRow = true := by
  unfold joinedFacts
  exact bandT (bandT (bandT (bandT (bandT (bandT (bandT (bandT (bandT (bandT (bandT (bandT (bandT (bandT (bandT (bandT (bandT (bandT (bandT (bandT (bandT (bandT (bandT (bandT (bandT (bandT (bandT (bandT (bandT (bandT (bandT (by as_aux_lemma => kernel_rfl) laidOut) mapsRowedS) (by as_aux_lemma => kernel_rfl)) (by as_aux_lemma => kernel_rfl)) (by as_aux_lemma => kernel_rfl)) (by as_aux_lemma => kernel_rfl)) (by as_aux_lemma => kernel_rfl)) (by as_aux_lemma => kernel_rfl)) (by as_aux_lemma => kernel_rfl)) (by as_aux_lemma => kernel_rfl)) (by as_aux_lemma => kernel_rfl)) (by as_aux_lemma => kernel_rfl)) (by as_aux_lemma => kernel_rfl)) (by as_aux_lemma => kernel_rfl)) (by as_aux_lemma => kernel_rfl)) (by as_aux_lemma => kernel_rfl)) (by as_aux_lemma => kernel_rfl)) (by as_aux_lemma => kernel_rfl)) (by as_aux_lemma => kernel_rfl)) (by as_aux_lemma => kernel_rfl)) (by as_aux_lemma => kernel_rfl)) plainKeysS) (by as_aux_lemma => kernel_rfl)) stopsHeardS) bigEnter) bigLifts) bigMake) (by as_aux_lemma => kernel_rfl)) (by as_aux_lemma => kernel_rfl)) (by as_aux_lemma => kernel_rfl)) (by as_aux_lemma => kernel_rfl)
theorem named : Go.Proofs.Tryd.prog.funcNamed Rows.fnUnsafeDescribeProducersRequestRow.func = some 9 := by kernel_rfl
theorem isInst : Go.Proofs.Tryd.f9.isInstance Go.Proofs.Tryd.prog Rows.fnUnsafeDescribeProducersRequestRow.origin Rows.fnUnsafeDescribeProducersRequestRow.targs := of_decide_eq_true (by kernel_rfl)
theorem isWrap : Go.Proofs.Tryd.f9.isWrapper Go.Proofs.Tryd.prog Rows.fnUnsafeDescribeProducersRequestRow.wrapper Rows.fnUnsafeDescribeProducersRequestRow.mainSum := by unfold Func.isWrapper; first | (rw [if_pos (by decide +kernel)]; kernel_rfl) | (rw [if_neg (by decide +kernel)]; exact ⟨rfl, rfl⟩)
theorem row : Rows.FnUnsafeDescribeProducersRequestSaid :=
  OpenClaim.holds_of_wide 9 Go.Proofs.Tryd.f9 rfl rfl rfl rfl rfl rfl rfl ⟨rfl, rfl, rfl, rfl, rfl⟩ rfl rfl rfl rfl rfl named Go.Proofs.Tryd.func9 joined
    isInst isWrap
    (fun os started H enc _ => lifted os started H enc)
end Go.Proofs.YtfiedlfmogpanaaDoor.fnUnsafeDescribeProducersRequest

namespace Go.Proofs.YtfiedlfmogpanaaDoor
open Go.Kf
/-- The card. -/
theorem fnUnsafeDescribeProducersRequest_card : Rows.FnUnsafeDescribeProducersRequestCardSaid :=
  Claim7.holds_tied_plain_at .later [] [.sentinel] true Rows.fnUnsafeDescribeProducersRequestCard.stood.harness false
    fnUnsafeDescribeProducersRequest.row (fun _ h => by cases h) (by as_aux_lemma => kernel_rfl) (fun _ h => by cases h) fnUnsafeDescribeProducersRequest_row_tie rfl ⟨rfl, rfl⟩ mainS rfl
    (fun f fn hf hfn => by
      obtain rfl : f = 9 := Option.some.inj (fnUnsafeDescribeProducersRequest.named.symm.trans hf) |>.symm
      obtain rfl : fn = Go.Proofs.Tryd.f9 := (Option.some.inj (Go.Proofs.Tryd.func9.symm.trans hfn)).symm
      refine ⟨looksS, fun j t ht => ?_⟩
      rw [Go.Proofs.Tryd.params9] at ht
      rcases j with _ | _ | j
      · obtain rfl : 5 = t := by simpa using ht
        exact (show Go.Proofs.Tryd.prog.wantsStandIn 5 = false by kernel_rfl)
      · obtain rfl : 22 = t := by simpa using ht
        exact (show Go.Proofs.Tryd.prog.wantsStandIn 22 = false by kernel_rfl)
      · simp at ht)
    (by as_aux_lemma => kernel_rfl)
#print axioms fnUnsafeDescribeProducersRequest_card
end Go.Proofs.YtfiedlfmogpanaaDoor
