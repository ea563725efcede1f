/- The two readers of this message tell the same tree of the same octets: the tied card of laws.FnUnsafeDescribeTransactionsResponse is proved, at every version number and every row of octets; no condition. -/
import Derived.Test.YtfgfenphgeffgaaDoorKs
set_option linter.unusedSimpArgs false
set_option linter.unusedVariables false
set_option maxRecDepth 100000
namespace Go.Kf
open Go

def tf : TypeId → FuncId × FuncId := fun | 221 => (212, 260) | 134 => (148, 213) | _ => (0, 0)

def rDescribeTransactionsResponseTransactionStateTopic : Fds := .cons .all (.txt .str) (.cons .all (.arr 219 none (.pr .i32)) (.tags))
theorem df_DescribeTransactionsResponseTransactionStateTopic : FOk Go.Proofs.Tryd.prog 211 1 (seqs (rDescribeTransactionsResponseTransactionStateTopic.dfl NS 221 0)) [] := ⟨Go.Proofs.Tryd.f211, _, [0], Go.Proofs.Tryd.func211, rfl, by kernel_rfl, by kernel_rfl, by decide, by kernel_rfl, by kernel_rfl⟩
theorem ft_DescribeTransactionsResponseTransactionStateTopic : FOk Go.Proofs.Tryd.prog 212 1 (tellC NS tf 221 0 260 rDescribeTransactionsResponseTransactionStateTopic) [.cell 1 NS.t_Tree] := ⟨Go.Proofs.Tryd.f212, _, [0, 2, 3, 29, 30, 31, 4, 34, 48, 49, 51], Go.Proofs.Tryd.func212, rfl, by kernel_rfl, by kernel_rfl, by decide, by kernel_rfl, by kernel_rfl⟩
theorem fc_DescribeTransactionsResponseTransactionStateTopic : FOk Go.Proofs.Tryd.prog 260 3 (cTagFn NS) [] := ⟨Go.Proofs.Tryd.f260, _, [0, 1, 2], Go.Proofs.Tryd.func260, rfl, by kernel_rfl, by kernel_rfl, by decide, by kernel_rfl, by kernel_rfl⟩
theorem tl_DescribeTransactionsResponseTransactionStateTopic : TellP Go.Proofs.Tryd.prog 212 0 rDescribeTransactionsResponseTransactionStateTopic := tellP baseS fnsS implT tellN (tf := tf) (Tt := 221) (idx0 := 0) ft_DescribeTransactionsResponseTransactionStateTopic (fun _ => fc_DescribeTransactionsResponseTransactionStateTopic) ⟨trivial, ⟨⟨tiB_ok (by kernel_rfl), el_ti (fx := true) baseS fnsS _ (by kernel_rfl) trivial, trivial⟩, trivial⟩⟩ (Fds.ok_of (fx := true) (Tt := 221) (idx := 0) (off := 0) baseS fnsS rDescribeTransactionsResponseTransactionStateTopic (by kernel_rfl) ⟨trivial, ⟨trivial, trivial⟩⟩).2.1 (by decide)

def rDescribeTransactionsResponseTransactionState : Fds := .cons .all (.pr .i16 none) (.cons .all (.txt .str) (.cons .all (.txt .str) (.cons .all (.pr .i32 none) (.cons .all (.pr .i64 none) (.cons .all (.pr .i64 none) (.cons .all (.pr .i16 none) (.cons .all (.arr 132 none (.row 221 218 211 (.cons .all (.txt .str) (.cons .all (.arr 219 none (.pr .i32)) (.tags))))) (.tags))))))))
theorem df_DescribeTransactionsResponseTransactionState : FOk Go.Proofs.Tryd.prog 210 1 (seqs (rDescribeTransactionsResponseTransactionState.dfl NS 134 0)) [] := ⟨Go.Proofs.Tryd.f210, _, [0], Go.Proofs.Tryd.func210, rfl, by kernel_rfl, by kernel_rfl, by decide, by kernel_rfl, by kernel_rfl⟩
theorem ft_DescribeTransactionsResponseTransactionState : FOk Go.Proofs.Tryd.prog 148 1 (tellC NS tf 134 0 213 rDescribeTransactionsResponseTransactionState) [.cell 1 NS.t_Tree] := ⟨Go.Proofs.Tryd.f148, _, [0, 2, 3, 81, 82, 83, 4, 86, 98, 99, 101], Go.Proofs.Tryd.func148, rfl, by kernel_rfl, by kernel_rfl, by decide, by kernel_rfl, by kernel_rfl⟩
theorem fc_DescribeTransactionsResponseTransactionState : FOk Go.Proofs.Tryd.prog 213 3 (cTagFn NS) [] := ⟨Go.Proofs.Tryd.f213, _, [0, 1, 2], Go.Proofs.Tryd.func213, rfl, by kernel_rfl, by kernel_rfl, by decide, by kernel_rfl, by kernel_rfl⟩
theorem tl_DescribeTransactionsResponseTransactionState : TellP Go.Proofs.Tryd.prog 148 0 rDescribeTransactionsResponseTransactionState := tellP baseS fnsS implT tellN (tf := tf) (Tt := 134) (idx0 := 0) ft_DescribeTransactionsResponseTransactionState (fun _ => fc_DescribeTransactionsResponseTransactionState) ⟨trivial, ⟨trivial, ⟨trivial, ⟨trivial, ⟨trivial, ⟨trivial, ⟨trivial, ⟨⟨tiB_ok (by kernel_rfl), el_ti (fx := true) baseS fnsS _ (by kernel_rfl) ⟨df_DescribeTransactionsResponseTransactionStateTopic, ⟨trivial, ⟨trivial, trivial⟩⟩⟩, tl_DescribeTransactionsResponseTransactionStateTopic⟩, trivial⟩⟩⟩⟩⟩⟩⟩⟩ (Fds.ok_of (fx := true) (Tt := 134) (idx := 0) (off := 0) baseS fnsS rDescribeTransactionsResponseTransactionState (by kernel_rfl) ⟨trivial, ⟨trivial, ⟨trivial, ⟨trivial, ⟨trivial, ⟨trivial, ⟨trivial, ⟨⟨df_DescribeTransactionsResponseTransactionStateTopic, ⟨trivial, ⟨trivial, trivial⟩⟩⟩, trivial⟩⟩⟩⟩⟩⟩⟩⟩).2.1 (by decide)

/-- The message's schema. -/
def mS : Msg := ⟨129, 61, 146, 0, false, .cons .all (.pr .i32 none) (.cons .all (.arr 127 none (.row 134 131 210 (.cons .all (.pr .i16 none) (.cons .all (.txt .str) (.cons .all (.txt .str) (.cons .all (.pr .i32 none) (.cons .all (.pr .i64 none) (.cons .all (.pr .i64 none) (.cons .all (.pr .i16 none) (.cons .all (.arr 132 none (.row 221 218 211 (.cons .all (.txt .str) (.cons .all (.arr 219 none (.pr .i32)) (.tags))))) (.tags))))))))))) (.tags))⟩
def dS : DoorN where
  newP := 79
  setV := 81
  maxV := 80
  readF := 82
  unsF := 84
  readf := 147
  tell := 83
  maxI := 30
  tellI := 31
  unsI := 32
theorem rd_m : FOk Go.Proofs.Tryd.prog 147 3 (mS.gen NS true) [.var 3] := ⟨Go.Proofs.Tryd.f147, _, [0, 1, 2, 6, 7, 8, 9, 10, 11, 12, 13, 14, 60, 64, 69, 15, 75, 16, 17, 18, 19, 89, 90, 93, 20, 100, 101, 104, 21, 22, 23, 24, 25, 26, 27, 136, 140, 145, 28, 151, 29, 30, 31, 160, 161, 164, 32, 33, 34, 176, 180, 185, 35, 191, 36, 204, 214, 224], Go.Proofs.Tryd.func147, rfl, by kernel_rfl, by kernel_rfl, by decide, by kernel_rfl, by kernel_rfl⟩
theorem df_m : FOk Go.Proofs.Tryd.prog 146 1 (seqs (mS.fs.dfl NS mS.tT 1)) [] := ⟨Go.Proofs.Tryd.f146, _, [0], Go.Proofs.Tryd.func146, rfl, by kernel_rfl, by kernel_rfl, by decide, by kernel_rfl, by kernel_rfl⟩
theorem mt : MsgT Go.Proofs.Tryd.prog NS mS true := msgT_of baseS fnsS (by kernel_rfl) (by kernel_rfl) (by kernel_rfl) ⟨trivial, ⟨⟨df_DescribeTransactionsResponseTransactionState, ⟨trivial, ⟨trivial, ⟨trivial, ⟨trivial, ⟨trivial, ⟨trivial, ⟨trivial, ⟨⟨df_DescribeTransactionsResponseTransactionStateTopic, ⟨trivial, ⟨trivial, trivial⟩⟩⟩, trivial⟩⟩⟩⟩⟩⟩⟩⟩⟩, trivial⟩⟩ df_m
theorem ft_DescribeTransactionsResponse : FOk Go.Proofs.Tryd.prog 83 1 (tellC NS tf 129 1 149 mS.fs) [.cell 1 NS.t_Tree] := ⟨Go.Proofs.Tryd.f83, _, [0, 2, 3, 29, 30, 31, 4, 34, 46, 47, 49], Go.Proofs.Tryd.func83, rfl, by kernel_rfl, by kernel_rfl, by decide, by kernel_rfl, by kernel_rfl⟩
theorem fc_DescribeTransactionsResponse : FOk Go.Proofs.Tryd.prog 149 3 (cTagFn NS) [] := ⟨Go.Proofs.Tryd.f149, _, [0, 1, 2], Go.Proofs.Tryd.func149, rfl, by kernel_rfl, by kernel_rfl, by decide, by kernel_rfl, by kernel_rfl⟩
theorem tl_DescribeTransactionsResponse : TellP Go.Proofs.Tryd.prog 83 1 mS.fs := tellP baseS fnsS implT tellN (tf := tf) (Tt := 129) (idx0 := 1) ft_DescribeTransactionsResponse (fun _ => fc_DescribeTransactionsResponse) ⟨trivial, ⟨⟨tiB_ok (by kernel_rfl), el_ti (fx := true) baseS fnsS _ (by kernel_rfl) ⟨df_DescribeTransactionsResponseTransactionState, ⟨trivial, ⟨trivial, ⟨trivial, ⟨trivial, ⟨trivial, ⟨trivial, ⟨trivial, ⟨⟨df_DescribeTransactionsResponseTransactionStateTopic, ⟨trivial, ⟨trivial, trivial⟩⟩⟩, trivial⟩⟩⟩⟩⟩⟩⟩⟩⟩, tl_DescribeTransactionsResponseTransactionState⟩, trivial⟩⟩ mt.hf (by decide)
theorem fd_new : FOk Go.Proofs.Tryd.prog 79 0 (c_new NS mS.tT mS.dflt) [.var 0] := ⟨Go.Proofs.Tryd.f79, _, [0, 1], Go.Proofs.Tryd.func79, rfl, by kernel_rfl, by kernel_rfl, by decide, by kernel_rfl, by kernel_rfl⟩
theorem fd_set : FOk Go.Proofs.Tryd.prog 81 2 (c_set NS mS.tT) [] := ⟨Go.Proofs.Tryd.f81, _, [0, 1], Go.Proofs.Tryd.func81, rfl, by kernel_rfl, by kernel_rfl, by decide, by kernel_rfl, by kernel_rfl⟩
theorem door : DoorT Go.Proofs.Tryd.prog NS mS true dS where
  msg := mt
  vin := rfl
  ti := (tsB_ok (by' := bytesOf Go.Proofs.Tryd.prog 129) (by kernel_rfl)).imp fun _ h => ⟨_, h⟩
  newP := fd_new
  setV := fd_set
  readf := rd_m
  tell := tl_DescribeTransactionsResponse
  dok := ⟨⟨_, rfl, by decide⟩, ⟨⟨⟨_, rfl, by decide⟩, ⟨⟨_, rfl, by decide⟩, ⟨⟨_, rfl, by decide⟩, ⟨⟨_, rfl, by decide⟩, ⟨⟨_, rfl, by decide⟩, ⟨⟨trivial, trivial⟩, trivial⟩⟩⟩⟩⟩⟩, trivial⟩⟩
  shB := by kernel_rfl
  cnt := by decide
theorem fd_rf : FOk Go.Proofs.Tryd.prog 82 2 (c_rf NS mS.pT 147 false) [.var 2] := ⟨Go.Proofs.Tryd.f82, _, [0, 1, 4], Go.Proofs.Tryd.func82, rfl, by kernel_rfl, by kernel_rfl, by decide, by kernel_rfl, by kernel_rfl⟩
theorem fd_uf : FOk Go.Proofs.Tryd.prog 84 2 (c_rf NS mS.pT 147 true) [.var 2] := ⟨Go.Proofs.Tryd.f84, _, [0, 1, 4], Go.Proofs.Tryd.func84, rfl, by kernel_rfl, by kernel_rfl, by decide, by kernel_rfl, by kernel_rfl⟩
theorem fd_mv : FOk Go.Proofs.Tryd.prog 80 1 (c_max 0) [.var 1] := ⟨Go.Proofs.Tryd.f80, _, [0, 2], Go.Proofs.Tryd.func80, rfl, by kernel_rfl, by kernel_rfl, by decide, by kernel_rfl, by kernel_rfl⟩
theorem fd_mi : FOk Go.Proofs.Tryd.prog 30 0 (c_maxI NS mS.pT 79 80) [.var 0] := ⟨Go.Proofs.Tryd.f30, _, [0], Go.Proofs.Tryd.func30, rfl, by kernel_rfl, by kernel_rfl, by decide, by kernel_rfl, by kernel_rfl⟩
theorem fd_tellI : FOk Go.Proofs.Tryd.prog 31 2 (c_door NS mS.pT 79 81 82 83) [.cell 2 NS.t_Tree, .var 3] := ⟨Go.Proofs.Tryd.f31, _, [0, 1, 4, 5, 6, 16], Go.Proofs.Tryd.func31, rfl, by kernel_rfl, by kernel_rfl, by decide, by kernel_rfl, by kernel_rfl⟩
theorem fd_unsI : FOk Go.Proofs.Tryd.prog 32 2 (c_door NS mS.pT 79 81 84 83) [.cell 2 NS.t_Tree, .var 3] := ⟨Go.Proofs.Tryd.f32, _, [0, 1, 4, 5, 6, 16], Go.Proofs.Tryd.func32, rfl, by kernel_rfl, by kernel_rfl, by decide, by kernel_rfl, by kernel_rfl⟩
theorem lawT : LawT Go.Proofs.Tryd.prog NS mS true dS 0 := ⟨door, fd_rf, fd_uf, fd_mv, fd_mi, fd_tellI, fd_unsI, by decide, by decide⟩
theorem fd_law : FOk Go.Proofs.Tryd.prog 7 2 (c_lawU NS 28 dS.maxI dS.tellI dS.unsI 1000) [.var 2] := ⟨Go.Proofs.Tryd.f7, _, [0, 1, 4, 12, 5, 15, 18, 6, 7, 8, 9], Go.Proofs.Tryd.func7, rfl, by kernel_rfl, by kernel_rfl, by decide, by kernel_rfl, by kernel_rfl⟩
end Go.Kf

namespace Go.Proofs.YtfgfenphgeffgaaDoor.fnUnsafeDescribeTransactionsResponse
open Go.ChangeShapes Go.WideShapes Go.ChangeAt Go.RowKit Go.Kf

set_option maxHeartbeats 4000000 in
theorem lifted (os : Os) (started : os.Started) (H : Type) (enc : TypeId × Value → H) :
    ReturnsInHanded {} Go.Proofs.Tryd.checked os 7 .any (fun w args => (Rows.fnUnsafeDescribeTransactionsResponseSpec.pre enc Go.Proofs.Tryd.prog Go.Proofs.Tryd.f7 [] false w args ∧ laidMetH Go.Proofs.Tryd.prog Rows.fnUnsafeDescribeTransactionsResponseRow.laid w) ∧ sizedMet enc Go.Proofs.Tryd.prog Go.Proofs.Tryd.f7 (OpenSpec.ofChange Rows.fnUnsafeDescribeTransactionsResponseSpec) false w args)
      (Rows.fnUnsafeDescribeTransactionsResponseSpec.post enc Go.Proofs.Tryd.prog Go.Proofs.Tryd.f7 false true false false) := by
  refine returnsInHanded_of_change_and (C := Go.Proofs.Tryd.checked) (X := fun w _ => laidMetH Go.Proofs.Tryd.prog Rows.fnUnsafeDescribeTransactionsResponseRow.laid w) (fun _ _ _ hh h => h.of_heap hh) own started (by kernel_rfl) Go.Proofs.Tryd.func7
    (ChangeSpec.witness_shaped (enc := enc) (C := Go.Proofs.Tryd.checked) (os := os) (X := fun w _ => laidMetH Go.Proofs.Tryd.prog Rows.fnUnsafeDescribeTransactionsResponseRow.laid w) false (World.doorLaid Go.Proofs.Tryd.prog 400 os) #[.int .u8 0, .slice none 0 0] 8 rfl (shaped os _) (by kernel_rfl) (by kernel_rfl) (by kernel_rfl) (door_met os _)) ?_
  intro W base args ds gs before hval0 hW _ _ hL _
  have hval : ∀ (j : Nat) t v, Go.Proofs.Tryd.f7.params[j]? = some t → args[j]? = some v → Value.okWide Go.Proofs.Tryd.prog W .any base t v := hval0
  have hW' := hW
  obtain ⟨p, q, hA0, hV, rfl, hfz, hnd⟩ := hW
  have hA : DataW.TrodAll enc Go.Proofs.Tryd.prog W 0 (fun _ => true) true Go.Proofs.Tryd.f7.params.toList args.toList ds p := hA0
  rw [Go.Proofs.Tryd.params7] at hA hval
  obtain ⟨v0, vs0, d0, ds0, p0, q0, hargs, rfl, rfl, h0, r0⟩ := trodAll_cons hA
  obtain ⟨v1, vs1, d1, ds1, p1, q1, rfl, rfl, rfl, h1, r1⟩ := trodAll_cons r0
  obtain ⟨rfl, rfl, rfl⟩ := trodAll_nil r1
  obtain rfl : args = #[v0, v1] := by cases args; simp_all
  obtain ⟨rfl, rfl⟩ := trodVars_none hV
  obtain ⟨n0, rfl, rfl, rfl, w0⟩ := open_int Go.Proofs.Tryd.underlying5 (hval 0 5 v0 rfl rfl) h0
  obtain ⟨l, ha⟩ := argOct_of Go.Proofs.Tryd.underlying22 Go.Proofs.Tryd.underlying5 (by kernel_rfl) (hval 1 22 v1 rfl rfl) h1
  have lt1 : ∀ x ∈ p1, x.block < W.heap.size := by obtain ⟨m, hm⟩ := h1; exact DataW.trod_lt m _ _ _ hm
  rw [MakeChecks.laidMetH_plain _ _ _ (by kernel_rfl)] at hL
  obtain ⟨a1, s1, hv1, _⟩ := laid_sentinel hL gO gT Go.Proofs.Tryd.underlying44 rowP Go.Proofs.Tryd.underlying300 Go.Proofs.Tryd.underlying318 rfl rfl Go.Proofs.Tryd.underlying9 cS cStr
  have hg : W.cell? ⟨1, 0, none⟩ = some (.iface 300 (.pointer (some a1))) := by simpa using World.var?_cell gO hv1 0
  clear hA0 hval0
  refine Calls.mono (call_lawU baseS fnsS implT specT (by decide) (by decide) (by decide) lawT fd_law (n := n0) ha hg) fun e W' ⟨v', he, hv', hm⟩ => ?_
  subst he hv'
  have bel := hm.below
  exact ⟨_, rfl, _, _, _, [], _, [], hW', trodAll_mk1 (shut_bool Go.Proofs.Tryd.underlying4 _), trodAll_cons_mk (shut_int Go.Proofs.Tryd.underlying5 w0) (trodAll_cons_mk (Below.trod laidOut (by kernel_rfl) (of_decide_eq_true (by kernel_rfl)) h1 bel lt1) trodAll_mk0), rfl, bel.frame _, fun h => by cases h⟩

set_option maxHeartbeats 4000000 in
theorem joined : joinedFacts Go.Proofs.Tryd.prog 7 Go.Proofs.Tryd.f7 Rows.fnUnsafeDescribeTransactionsResponseSpec Rows.fnUnsafeDescribeTransactionsResponseRow = true := by
  unfold joinedFacts
  exact bandT (bandT (bandT (bandT (bandT (bandT (bandT (bandT (bandT (bandT (bandT (bandT (bandT (bandT (bandT (bandT (bandT (bandT (bandT (bandT (bandT (bandT (bandT (bandT (bandT (bandT (bandT (bandT (bandT (bandT (bandT (by as_aux_lemma => kernel_rfl) laidOut) mapsRowedS) (by as_aux_lemma => kernel_rfl)) (by as_aux_lemma => kernel_rfl)) (by as_aux_lemma => kernel_rfl)) (by as_aux_lemma => kernel_rfl)) (by as_aux_lemma => kernel_rfl)) (by as_aux_lemma => kernel_rfl)) (by as_aux_lemma => kernel_rfl)) (by as_aux_lemma => kernel_rfl)) (by as_aux_lemma => kernel_rfl)) (by as_aux_lemma => kernel_rfl)) (by as_aux_lemma => kernel_rfl)) (by as_aux_lemma => kernel_rfl)) (by as_aux_lemma => kernel_rfl)) (by as_aux_lemma => kernel_rfl)) (by as_aux_lemma => kernel_rfl)) (by as_aux_lemma => kernel_rfl)) (by as_aux_lemma => kernel_rfl)) (by as_aux_lemma => kernel_rfl)) (by as_aux_lemma => kernel_rfl)) plainKeysS) (by as_aux_lemma => kernel_rfl)) stopsHeardS) bigEnter) bigLifts) bigMake) (by as_aux_lemma => kernel_rfl)) (by as_aux_lemma => kernel_rfl)) (by as_aux_lemma => kernel_rfl)) (by as_aux_lemma => kernel_rfl)
theorem named : Go.Proofs.Tryd.prog.funcNamed Rows.fnUnsafeDescribeTransactionsResponseRow.func = some 7 := by kernel_rfl
theorem isInst : Go.Proofs.Tryd.f7.isInstance Go.Proofs.Tryd.prog Rows.fnUnsafeDescribeTransactionsResponseRow.origin Rows.fnUnsafeDescribeTransactionsResponseRow.targs := of_decide_eq_true (by kernel_rfl)
theorem isWrap : Go.Proofs.Tryd.f7.isWrapper Go.Proofs.Tryd.prog Rows.fnUnsafeDescribeTransactionsResponseRow.wrapper Rows.fnUnsafeDescribeTransactionsResponseRow.mainSum := by unfold Func.isWrapper; first | (rw [if_pos (by decide +kernel)]; kernel_rfl) | (rw [if_neg (by decide +kernel)]; exact ⟨rfl, rfl⟩)
theorem row : Rows.FnUnsafeDescribeTransactionsResponseSaid :=
  OpenClaim.holds_of_wide 7 Go.Proofs.Tryd.f7 rfl rfl rfl rfl rfl rfl rfl ⟨rfl, rfl, rfl, rfl, rfl⟩ rfl rfl rfl rfl rfl named Go.Proofs.Tryd.func7 joined
    isInst isWrap
    (fun os started H enc _ => lifted os started H enc)
end Go.Proofs.YtfgfenphgeffgaaDoor.fnUnsafeDescribeTransactionsResponse

namespace Go.Proofs.YtfgfenphgeffgaaDoor
open Go.Kf
set_option maxHeartbeats 4000000 in
/-- The card. -/
theorem fnUnsafeDescribeTransactionsResponse_card : Rows.FnUnsafeDescribeTransactionsResponseCardSaid :=
  Claim7.holds_tied_plain_at .later [] [.sentinel] true Rows.fnUnsafeDescribeTransactionsResponseCard.stood.harness false
    fnUnsafeDescribeTransactionsResponse.row (fun _ h => by cases h) (by as_aux_lemma => kernel_rfl) (fun _ h => by cases h) fnUnsafeDescribeTransactionsResponse_row_tie rfl ⟨rfl, rfl⟩ mainS rfl
    (fun f fn hf hfn => by
      obtain rfl : f = 7 := Option.some.inj (fnUnsafeDescribeTransactionsResponse.named.symm.trans hf) |>.symm
      obtain rfl : fn = Go.Proofs.Tryd.f7 := (Option.some.inj (Go.Proofs.Tryd.func7.symm.trans hfn)).symm
      refine ⟨looksS, fun j t ht => ?_⟩
      rw [Go.Proofs.Tryd.params7] at ht
      rcases j with _ | _ | j
      · obtain rfl : 5 = t := by simpa using ht
        exact (show Go.Proofs.Tryd.prog.wantsStandIn 5 = false by kernel_rfl)
      · obtain rfl : 22 = t := by simpa using ht
        exact (show Go.Proofs.Tryd.prog.wantsStandIn 22 = false by kernel_rfl)
      · simp at ht)
    (by as_aux_lemma => kernel_rfl)
#print axioms fnUnsafeDescribeTransactionsResponse_card
end Go.Proofs.YtfgfenphgeffgaaDoor
