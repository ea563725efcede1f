/- The two readers of this message tell the same tree of the same octets: the tied card of laws.FnUnsafeListTransactionsResponse is proved, at every version number and every row of octets; no condition. -/
import Derived.Test.YtfgfenphgeffgaaDoorKs
set_option linter.unusedSimpArgs false
set_option linter.unusedVariables false
set_option maxRecDepth 100000
namespace Go.Kf
open Go

def tf : TypeId → FuncId × FuncId := fun | 109 => (135, 203) | _ => (0, 0)

def rListTransactionsResponseTransactionState : Fds := .cons .all (.txt .str) (.cons .all (.pr .i64 none) (.cons .all (.txt .str) (.tags)))
theorem df_ListTransactionsResponseTransactionState : FOk Go.Proofs.Tryd.prog 201 1 (seqs (rListTransactionsResponseTransactionState.dfl NS 109 0)) [] := ⟨Go.Proofs.Tryd.f201, _, [0], Go.Proofs.Tryd.func201, rfl, by kernel_rfl, by kernel_rfl, by decide, by kernel_rfl, by kernel_rfl⟩
theorem ft_ListTransactionsResponseTransactionState : FOk Go.Proofs.Tryd.prog 135 1 (tellC NS tf 109 0 203 rListTransactionsResponseTransactionState) [.cell 1 NS.t_Tree] := ⟨Go.Proofs.Tryd.f135, _, [0, 2, 3], Go.Proofs.Tryd.func135, rfl, by kernel_rfl, by kernel_rfl, by decide, by kernel_rfl, by kernel_rfl⟩
theorem fc_ListTransactionsResponseTransactionState : FOk Go.Proofs.Tryd.prog 203 3 (cTagFn NS) [] := ⟨Go.Proofs.Tryd.f203, _, [0, 1, 2], Go.Proofs.Tryd.func203, rfl, by kernel_rfl, by kernel_rfl, by decide, by kernel_rfl, by kernel_rfl⟩
theorem tl_ListTransactionsResponseTransactionState : TellP Go.Proofs.Tryd.prog 135 0 rListTransactionsResponseTransactionState := tellP baseS fnsS implT tellN (tf := tf) (Tt := 109) (idx0 := 0) ft_ListTransactionsResponseTransactionState (fun _ => fc_ListTransactionsResponseTransactionState) ⟨trivial, ⟨trivial, ⟨trivial, trivial⟩⟩⟩ (Fds.ok_of (fx := true) (Tt := 109) (idx := 0) (off := 0) baseS fnsS rListTransactionsResponseTransactionState (by kernel_rfl) ⟨trivial, ⟨trivial, ⟨trivial, trivial⟩⟩⟩).2.1 (by decide)

/-- The message's schema. -/
def mS : Msg := ⟨105, 52, 133, 0, false, .cons .all (.pr .i32 none) (.cons .all (.pr .i16 none) (.cons .all (.arr 102 none (.txt .str)) (.cons .all (.arr 103 none (.row 109 107 201 (.cons .all (.txt .str) (.cons .all (.pr .i64 none) (.cons .all (.txt .str) (.tags)))))) (.tags))))⟩
def dS : DoorN where
  newP := 61
  setV := 63
  maxV := 62
  readF := 64
  unsF := 66
  readf := 134
  tell := 65
  maxI := 21
  tellI := 22
  unsI := 23
theorem rd_m : FOk Go.Proofs.Tryd.prog 134 3 (mS.gen NS true) [.var 3] := ⟨Go.Proofs.Tryd.f134, _, [0, 1, 2, 6, 7, 8, 9, 10, 11, 12, 13, 14, 15, 55, 59, 64, 16, 70, 17, 73, 74, 77, 18, 19, 20, 94, 98, 103, 21, 109, 22, 23, 24, 118, 119, 122, 25, 26, 134, 135, 138, 145, 155], Go.Proofs.Tryd.func134, rfl, by kernel_rfl, by kernel_rfl, by decide, by kernel_rfl, by kernel_rfl⟩
theorem df_m : FOk Go.Proofs.Tryd.prog 133 1 (seqs (mS.fs.dfl NS mS.tT 1)) [] := ⟨Go.Proofs.Tryd.f133, _, [0], Go.Proofs.Tryd.func133, rfl, by kernel_rfl, by kernel_rfl, by decide, by kernel_rfl, by kernel_rfl⟩
theorem mt : MsgT Go.Proofs.Tryd.prog NS mS true := msgT_of baseS fnsS (by kernel_rfl) (by kernel_rfl) (by kernel_rfl) ⟨trivial, ⟨trivial, ⟨trivial, ⟨⟨df_ListTransactionsResponseTransactionState, ⟨trivial, ⟨trivial, ⟨trivial, trivial⟩⟩⟩⟩, trivial⟩⟩⟩⟩ df_m
theorem ft_ListTransactionsResponse : FOk Go.Proofs.Tryd.prog 65 1 (tellC NS tf 105 1 136 mS.fs) [.cell 1 NS.t_Tree] := ⟨Go.Proofs.Tryd.f65, _, [0, 2, 3, 39, 40, 41, 4, 44, 58, 59, 61, 99, 100, 101, 5, 104, 116, 117, 119], Go.Proofs.Tryd.func65, rfl, by kernel_rfl, by kernel_rfl, by decide, by kernel_rfl, by kernel_rfl⟩
theorem fc_ListTransactionsResponse : FOk Go.Proofs.Tryd.prog 136 3 (cTagFn NS) [] := ⟨Go.Proofs.Tryd.f136, _, [0, 1, 2], Go.Proofs.Tryd.func136, rfl, by kernel_rfl, by kernel_rfl, by decide, by kernel_rfl, by kernel_rfl⟩
theorem tl_ListTransactionsResponse : TellP Go.Proofs.Tryd.prog 65 1 mS.fs := tellP baseS fnsS implT tellN (tf := tf) (Tt := 105) (idx0 := 1) ft_ListTransactionsResponse (fun _ => fc_ListTransactionsResponse) ⟨trivial, ⟨trivial, ⟨⟨tiB_ok (by kernel_rfl), el_ti (fx := true) baseS fnsS _ (by kernel_rfl) trivial, trivial⟩, ⟨⟨tiB_ok (by kernel_rfl), el_ti (fx := true) baseS fnsS _ (by kernel_rfl) ⟨df_ListTransactionsResponseTransactionState, ⟨trivial, ⟨trivial, ⟨trivial, trivial⟩⟩⟩⟩, tl_ListTransactionsResponseTransactionState⟩, trivial⟩⟩⟩⟩ mt.hf (by decide)
theorem fd_new : FOk Go.Proofs.Tryd.prog 61 0 (c_new NS mS.tT mS.dflt) [.var 0] := ⟨Go.Proofs.Tryd.f61, _, [0, 1], Go.Proofs.Tryd.func61, rfl, by kernel_rfl, by kernel_rfl, by decide, by kernel_rfl, by kernel_rfl⟩
theorem fd_set : FOk Go.Proofs.Tryd.prog 63 2 (c_set NS mS.tT) [] := ⟨Go.Proofs.Tryd.f63, _, [0, 1], Go.Proofs.Tryd.func63, rfl, by kernel_rfl, by kernel_rfl, by decide, by kernel_rfl, by kernel_rfl⟩
theorem door : DoorT Go.Proofs.Tryd.prog NS mS true dS where
  msg := mt
  vin := rfl
  ti := (tsB_ok (by' := bytesOf Go.Proofs.Tryd.prog 105) (by kernel_rfl)).imp fun _ h => ⟨_, h⟩
  newP := fd_new
  setV := fd_set
  readf := rd_m
  tell := tl_ListTransactionsResponse
  dok := ⟨⟨_, rfl, by decide⟩, ⟨⟨_, rfl, by decide⟩, ⟨trivial, ⟨⟨⟨_, rfl, by decide⟩, trivial⟩, trivial⟩⟩⟩⟩
  shB := by kernel_rfl
  cnt := by decide
theorem fd_rf : FOk Go.Proofs.Tryd.prog 64 2 (c_rf NS mS.pT 134 false) [.var 2] := ⟨Go.Proofs.Tryd.f64, _, [0, 1, 4], Go.Proofs.Tryd.func64, rfl, by kernel_rfl, by kernel_rfl, by decide, by kernel_rfl, by kernel_rfl⟩
theorem fd_uf : FOk Go.Proofs.Tryd.prog 66 2 (c_rf NS mS.pT 134 true) [.var 2] := ⟨Go.Proofs.Tryd.f66, _, [0, 1, 4], Go.Proofs.Tryd.func66, rfl, by kernel_rfl, by kernel_rfl, by decide, by kernel_rfl, by kernel_rfl⟩
theorem fd_mv : FOk Go.Proofs.Tryd.prog 62 1 (c_max 2) [.var 1] := ⟨Go.Proofs.Tryd.f62, _, [0, 2], Go.Proofs.Tryd.func62, rfl, by kernel_rfl, by kernel_rfl, by decide, by kernel_rfl, by kernel_rfl⟩
theorem fd_mi : FOk Go.Proofs.Tryd.prog 21 0 (c_maxI NS mS.pT 61 62) [.var 0] := ⟨Go.Proofs.Tryd.f21, _, [0], Go.Proofs.Tryd.func21, rfl, by kernel_rfl, by kernel_rfl, by decide, by kernel_rfl, by kernel_rfl⟩
theorem fd_tellI : FOk Go.Proofs.Tryd.prog 22 2 (c_door NS mS.pT 61 63 64 65) [.cell 2 NS.t_Tree, .var 3] := ⟨Go.Proofs.Tryd.f22, _, [0, 1, 4, 5, 6, 16], Go.Proofs.Tryd.func22, rfl, by kernel_rfl, by kernel_rfl, by decide, by kernel_rfl, by kernel_rfl⟩
theorem fd_unsI : FOk Go.Proofs.Tryd.prog 23 2 (c_door NS mS.pT 61 63 66 65) [.cell 2 NS.t_Tree, .var 3] := ⟨Go.Proofs.Tryd.f23, _, [0, 1, 4, 5, 6, 16], Go.Proofs.Tryd.func23, rfl, by kernel_rfl, by kernel_rfl, by decide, by kernel_rfl, by kernel_rfl⟩
theorem lawT : LawT Go.Proofs.Tryd.prog NS mS true dS 2 := ⟨door, fd_rf, fd_uf, fd_mv, fd_mi, fd_tellI, fd_unsI, by decide, by decide⟩
theorem fd_law : FOk Go.Proofs.Tryd.prog 4 2 (c_lawU NS 28 dS.maxI dS.tellI dS.unsI 1000) [.var 2] := ⟨Go.Proofs.Tryd.f4, _, [0, 1, 4, 12, 5, 15, 18, 6, 7, 8, 9], Go.Proofs.Tryd.func4, rfl, by kernel_rfl, by kernel_rfl, by decide, by kernel_rfl, by kernel_rfl⟩
end Go.Kf

namespace Go.Proofs.YtfgfenphgeffgaaDoor.fnUnsafeListTransactionsResponse
open Go.ChangeShapes Go.WideShapes Go.ChangeAt Go.RowKit Go.Kf

set_option maxHeartbeats 4000000 in
theorem lifted (os : Os) (started : os.Started) (H : Type) (enc : TypeId × Value → H) :
    ReturnsInHanded {} Go.Proofs.Tryd.checked os 4 .any (fun w args => (Rows.fnUnsafeListTransactionsResponseSpec.pre enc Go.Proofs.Tryd.prog Go.Proofs.Tryd.f4 [] false w args ∧ laidMetH Go.Proofs.Tryd.prog Rows.fnUnsafeListTransactionsResponseRow.laid w) ∧ sizedMet enc Go.Proofs.Tryd.prog Go.Proofs.Tryd.f4 (OpenSpec.ofChange Rows.fnUnsafeListTransactionsResponseSpec) false w args)
      (Rows.fnUnsafeListTransactionsResponseSpec.post enc Go.Proofs.Tryd.prog Go.Proofs.Tryd.f4 false true false false) := by
  refine returnsInHanded_of_change_and (C := Go.Proofs.Tryd.checked) (X := fun w _ => laidMetH Go.Proofs.Tryd.prog Rows.fnUnsafeListTransactionsResponseRow.laid w) (fun _ _ _ hh h => h.of_heap hh) own started (by kernel_rfl) Go.Proofs.Tryd.func4
    (ChangeSpec.witness_shaped (enc := enc) (C := Go.Proofs.Tryd.checked) (os := os) (X := fun w _ => laidMetH Go.Proofs.Tryd.prog Rows.fnUnsafeListTransactionsResponseRow.laid w) false (World.doorLaid Go.Proofs.Tryd.prog 400 os) #[.int .u8 0, .slice none 0 0] 8 rfl (shaped os _) (by kernel_rfl) (by kernel_rfl) (by kernel_rfl) (door_met os _)) ?_
  intro W base args ds gs before hval0 hW _ _ hL _
  have hval : ∀ (j : Nat) t v, Go.Proofs.Tryd.f4.params[j]? = some t → args[j]? = some v → Value.okWide Go.Proofs.Tryd.prog W .any base t v := hval0
  have hW' := hW
  obtain ⟨p, q, hA0, hV, rfl, hfz, hnd⟩ := hW
  have hA : DataW.TrodAll enc Go.Proofs.Tryd.prog W 0 (fun _ => true) true Go.Proofs.Tryd.f4.params.toList args.toList ds p := hA0
  rw [Go.Proofs.Tryd.params4] at hA hval
  obtain ⟨v0, vs0, d0, ds0, p0, q0, hargs, rfl, rfl, h0, r0⟩ := trodAll_cons hA
  obtain ⟨v1, vs1, d1, ds1, p1, q1, rfl, rfl, rfl, h1, r1⟩ := trodAll_cons r0
  obtain ⟨rfl, rfl, rfl⟩ := trodAll_nil r1
  obtain rfl : args = #[v0, v1] := by cases args; simp_all
  obtain ⟨rfl, rfl⟩ := trodVars_none hV
  obtain ⟨n0, rfl, rfl, rfl, w0⟩ := open_int Go.Proofs.Tryd.underlying5 (hval 0 5 v0 rfl rfl) h0
  obtain ⟨l, ha⟩ := argOct_of Go.Proofs.Tryd.underlying22 Go.Proofs.Tryd.underlying5 (by kernel_rfl) (hval 1 22 v1 rfl rfl) h1
  have lt1 : ∀ x ∈ p1, x.block < W.heap.size := by obtain ⟨m, hm⟩ := h1; exact DataW.trod_lt m _ _ _ hm
  rw [MakeChecks.laidMetH_plain _ _ _ (by kernel_rfl)] at hL
  obtain ⟨a1, s1, hv1, _⟩ := laid_sentinel hL gO gT Go.Proofs.Tryd.underlying44 rowP Go.Proofs.Tryd.underlying300 Go.Proofs.Tryd.underlying318 rfl rfl Go.Proofs.Tryd.underlying9 cS cStr
  have hg : W.cell? ⟨1, 0, none⟩ = some (.iface 300 (.pointer (some a1))) := by simpa using World.var?_cell gO hv1 0
  clear hA0 hval0
  refine Calls.mono (call_lawU baseS fnsS implT specT (by decide) (by decide) (by decide) lawT fd_law (n := n0) ha hg) fun e W' ⟨v', he, hv', hm⟩ => ?_
  subst he hv'
  have bel := hm.below
  exact ⟨_, rfl, _, _, _, [], _, [], hW', trodAll_mk1 (shut_bool Go.Proofs.Tryd.underlying4 _), trodAll_cons_mk (shut_int Go.Proofs.Tryd.underlying5 w0) (trodAll_cons_mk (Below.trod laidOut (by kernel_rfl) (of_decide_eq_true (by kernel_rfl)) h1 bel lt1) trodAll_mk0), rfl, bel.frame _, fun h => by cases h⟩

set_option maxHeartbeats 4000000 in
theorem joined : joinedFacts Go.Proofs.Tryd.prog 4 Go.Proofs.Tryd.f4 Rows.fnUnsafeListTransactionsResponseSpec Rows.fnUnsafeListTransactionsResponseRow = true := by
  unfold joinedFacts
  exact bandT (bandT (bandT (bandT (bandT (bandT (bandT (bandT (bandT (bandT (bandT (bandT (bandT (bandT (bandT (bandT (bandT (bandT (bandT (bandT (bandT (bandT (bandT (bandT (bandT (bandT (bandT (bandT (bandT (bandT (bandT (by as_aux_lemma => kernel_rfl) laidOut) mapsRowedS) (by as_aux_lemma => kernel_rfl)) (by as_aux_lemma => kernel_rfl)) (by as_aux_lemma => kernel_rfl)) (by as_aux_lemma => kernel_rfl)) (by as_aux_lemma => kernel_rfl)) (by as_aux_lemma => kernel_rfl)) (by as_aux_lemma => kernel_rfl)) (by as_aux_lemma => kernel_rfl)) (by as_aux_lemma => kernel_rfl)) (by as_aux_lemma => kernel_rfl)) (by as_aux_lemma => kernel_rfl)) (by as_aux_lemma => kernel_rfl)) (by as_aux_lemma => kernel_rfl)) (by as_aux_lemma => kernel_rfl)) (by as_aux_lemma => kernel_rfl)) (by as_aux_lemma => kernel_rfl)) (by as_aux_lemma => kernel_rfl)) (by as_aux_lemma => kernel_rfl)) (by as_aux_lemma => kernel_rfl)) plainKeysS) (by as_aux_lemma => kernel_rfl)) stopsHeardS) bigEnter) bigLifts) bigMake) (by as_aux_lemma => kernel_rfl)) (by as_aux_lemma => kernel_rfl)) (by as_aux_lemma => kernel_rfl)) (by as_aux_lemma => kernel_rfl)
theorem named : Go.Proofs.Tryd.prog.funcNamed Rows.fnUnsafeListTransactionsResponseRow.func = some 4 := by kernel_rfl
theorem isInst : Go.Proofs.Tryd.f4.isInstance Go.Proofs.Tryd.prog Rows.fnUnsafeListTransactionsResponseRow.origin Rows.fnUnsafeListTransactionsResponseRow.targs := of_decide_eq_true (by kernel_rfl)
theorem isWrap : Go.Proofs.Tryd.f4.isWrapper Go.Proofs.Tryd.prog Rows.fnUnsafeListTransactionsResponseRow.wrapper Rows.fnUnsafeListTransactionsResponseRow.mainSum := by unfold Func.isWrapper; first | (rw [if_pos (by decide +kernel)]; kernel_rfl) | (rw [if_neg (by decide +kernel)]; exact ⟨rfl, rfl⟩)
theorem row : Rows.FnUnsafeListTransactionsResponseSaid :=
  OpenClaim.holds_of_wide 4 Go.Proofs.Tryd.f4 rfl rfl rfl rfl rfl rfl rfl ⟨rfl, rfl, rfl, rfl, rfl⟩ rfl rfl rfl rfl rfl named Go.Proofs.Tryd.func4 joined
    isInst isWrap
    (fun os started H enc _ => lifted os started H enc)
end Go.Proofs.YtfgfenphgeffgaaDoor.fnUnsafeListTransactionsResponse

namespace Go.Proofs.YtfgfenphgeffgaaDoor
open Go.Kf
set_option maxHeartbeats 4000000 in
/-- The card. -/
theorem fnUnsafeListTransactionsResponse_card : Rows.FnUnsafeListTransactionsResponseCardSaid :=
  Claim7.holds_tied_plain_at .later [] [.sentinel] true Rows.fnUnsafeListTransactionsResponseCard.stood.harness false
    fnUnsafeListTransactionsResponse.row (fun _ h => by cases h) (by as_aux_lemma => kernel_rfl) (fun _ h => by cases h) fnUnsafeListTransactionsResponse_row_tie rfl ⟨rfl, rfl⟩ mainS rfl
    (fun f fn hf hfn => by
      obtain rfl : f = 4 := Option.some.inj (fnUnsafeListTransactionsResponse.named.symm.trans hf) |>.symm
      obtain rfl : fn = Go.Proofs.Tryd.f4 := (Option.some.inj (Go.Proofs.Tryd.func4.symm.trans hfn)).symm
      refine ⟨looksS, fun j t ht => ?_⟩
      rw [Go.Proofs.Tryd.params4] at ht
      rcases j with _ | _ | j
      · obtain rfl : 5 = t := by simpa using ht
        exact (show Go.Proofs.Tryd.prog.wantsStandIn 5 = false by kernel_rfl)
      · obtain rfl : 22 = t := by simpa using ht
        exact (show Go.Proofs.Tryd.prog.wantsStandIn 22 = false by kernel_rfl)
      · simp at ht)
    (by as_aux_lemma => kernel_rfl)
#print axioms fnUnsafeListTransactionsResponse_card
end Go.Proofs.YtfgfenphgeffgaaDoor
