/- Both ways of reading tell the same of any octets as a DescribeClientQuotasRequest (laws.FnUnsafeDescribeClientQuotasRequest): the tied card is proved, at every version number and all octets; no other condition. -/
import Derived.Test.YtdlfgheckhmgiaaDoorKs
set_option linter.unusedSimpArgs false
set_option linter.unusedVariables false
set_option maxRecDepth 100000
namespace Go.Kf
open Go

def tf : TypeId → FuncId × FuncId := fun | 159 => (145, 203) | _ => (0, 0)

def rDescribeClientQuotasRequestComponent : Fds := .cons .all (.txt .str) (.cons .all (.pr (.en 157) none) (.cons .all (.txt .nstr) (.tags)))
theorem df_DescribeClientQuotasRequestComponent : FOk Go.Proofs.Tryd.prog 201 1 (seqs (rDescribeClientQuotasRequestComponent.dfl NS 159 0)) [] := ⟨Go.Proofs.Tryd.f201, _, [0], Go.Proofs.Tryd.func201, rfl, by kernel_rfl, by kernel_rfl, by decide, by kernel_rfl, by kernel_rfl⟩
theorem ft_DescribeClientQuotasRequestComponent : FOk Go.Proofs.Tryd.prog 145 1 (tellC NS tf 159 0 203 rDescribeClientQuotasRequestComponent) [.cell 1 NS.zj] := ⟨Go.Proofs.Tryd.f145, _, [0, 2, 3], Go.Proofs.Tryd.func145, rfl, by kernel_rfl, by kernel_rfl, by decide, by kernel_rfl, by kernel_rfl⟩
theorem fc_DescribeClientQuotasRequestComponent : FOk Go.Proofs.Tryd.prog 203 3 (cTagFn NS) [] := ⟨Go.Proofs.Tryd.f203, _, [0, 1, 2], Go.Proofs.Tryd.func203, rfl, by kernel_rfl, by kernel_rfl, by decide, by kernel_rfl, by kernel_rfl⟩
theorem tl_DescribeClientQuotasRequestComponent : TellP Go.Proofs.Tryd.prog 145 0 rDescribeClientQuotasRequestComponent := tellP baseS fnsS implT tellN (tf := tf) (Tt := 159) (idx0 := 0) ft_DescribeClientQuotasRequestComponent (fun _ => fc_DescribeClientQuotasRequestComponent) ⟨trivial, ⟨zfx (by kernel_rfl), ⟨⟨by decide, by decide⟩, trivial⟩⟩⟩ (Fds.ok_of (fx := true) (Tt := 159) (idx := 0) (off := 0) baseS fnsS rDescribeClientQuotasRequestComponent (by kernel_rfl) ⟨trivial, ⟨trivial, ⟨trivial, trivial⟩⟩⟩).2.1 (by decide)

def mS : Msg := ⟨154, 93, 143, 1, false, .cons .all (.arr 152 none (.row 159 156 201 (.cons .all (.txt .str) (.cons .all (.pr (.en 157) none) (.cons .all (.txt .nstr) (.tags)))))) (.cons .all (.pr .bool none) (.tags))⟩
def dS : zpe where
  newP := 82
  setV := 84
  maxV := 83
  readF := 85
  unsF := 87
  readf := 144
  tell := 86
  maxI := 31
  tellI := 32
  unsI := 33
theorem rd_m : FOk Go.Proofs.Tryd.prog 144 3 (mS.gen NS true) [.var 3] := ⟨Go.Proofs.Tryd.f144, _, [0, 1, 2, 6, 7, 8, 9, 10, 11, 12, 13, 41, 45, 50, 14, 56, 15, 16, 17, 65, 66, 69, 18, 19, 20, 21, 83, 84, 87, 94, 22, 109], Go.Proofs.Tryd.func144, rfl, by kernel_rfl, by kernel_rfl, by decide, by kernel_rfl, by kernel_rfl⟩
theorem df_m : FOk Go.Proofs.Tryd.prog 143 1 (seqs (mS.fs.dfl NS mS.tT 1)) [] := ⟨Go.Proofs.Tryd.f143, _, [0], Go.Proofs.Tryd.func143, rfl, by kernel_rfl, by kernel_rfl, by decide, by kernel_rfl, by kernel_rfl⟩
theorem mt : MsgT Go.Proofs.Tryd.prog NS mS true := msgT_of baseS fnsS (by kernel_rfl) (by kernel_rfl) (by kernel_rfl) ⟨⟨df_DescribeClientQuotasRequestComponent, ⟨trivial, ⟨trivial, ⟨trivial, trivial⟩⟩⟩⟩, ⟨trivial, trivial⟩⟩ df_m
theorem ft_DescribeClientQuotasRequest : FOk Go.Proofs.Tryd.prog 86 1 (tellC NS tf 154 1 147 mS.fs) [.cell 1 NS.zj] := ⟨Go.Proofs.Tryd.f86, _, [0, 2, 3, 20, 21, 22, 4, 25, 37, 38, 40], Go.Proofs.Tryd.func86, rfl, by kernel_rfl, by kernel_rfl, by decide, by kernel_rfl, by kernel_rfl⟩
theorem fc_DescribeClientQuotasRequest : FOk Go.Proofs.Tryd.prog 147 3 (cTagFn NS) [] := ⟨Go.Proofs.Tryd.f147, _, [0, 1, 2], Go.Proofs.Tryd.func147, rfl, by kernel_rfl, by kernel_rfl, by decide, by kernel_rfl, by kernel_rfl⟩
theorem tl_DescribeClientQuotasRequest : TellP Go.Proofs.Tryd.prog 86 1 mS.fs := tellP baseS fnsS implT tellN (tf := tf) (Tt := 154) (idx0 := 1) ft_DescribeClientQuotasRequest (fun _ => fc_DescribeClientQuotasRequest) ⟨⟨zfx (by kernel_rfl), el_ti (fx := true) baseS fnsS _ (by kernel_rfl) ⟨df_DescribeClientQuotasRequestComponent, ⟨trivial, ⟨trivial, ⟨trivial, trivial⟩⟩⟩⟩, tl_DescribeClientQuotasRequestComponent⟩, ⟨(show NS.zfr ≠ 0 by decide), trivial⟩⟩ mt.hf (by decide)
theorem fd_new : FOk Go.Proofs.Tryd.prog 82 0 (c_new NS mS.tT mS.dflt) [.var 0] := ⟨Go.Proofs.Tryd.f82, _, [0, 1], Go.Proofs.Tryd.func82, rfl, by kernel_rfl, by kernel_rfl, by decide, by kernel_rfl, by kernel_rfl⟩
theorem fd_set : FOk Go.Proofs.Tryd.prog 84 2 (c_set NS mS.tT) [] := ⟨Go.Proofs.Tryd.f84, _, [0, 1], Go.Proofs.Tryd.func84, rfl, by kernel_rfl, by kernel_rfl, by decide, by kernel_rfl, by kernel_rfl⟩
theorem door : zrx Go.Proofs.Tryd.prog NS mS true dS where
  msg := mt
  vin := rfl
  ti := (tsB_ok (by' := bytesOf Go.Proofs.Tryd.prog 154) (by kernel_rfl)).imp fun _ h => ⟨_, h⟩
  newP := fd_new
  setV := fd_set
  readf := rd_m
  tell := fun _ => tl_DescribeClientQuotasRequest
  dok := ⟨⟨⟨_, rfl, by decide⟩, trivial⟩, ⟨⟨_, rfl⟩, trivial⟩⟩
  shB := by kernel_rfl
  cnt := by decide
theorem fd_rf : FOk Go.Proofs.Tryd.prog 85 2 (c_rf NS mS.pT 144 false) [.var 2] := ⟨Go.Proofs.Tryd.f85, _, [0, 1, 4], Go.Proofs.Tryd.func85, rfl, by kernel_rfl, by kernel_rfl, by decide, by kernel_rfl, by kernel_rfl⟩
theorem fd_uf : FOk Go.Proofs.Tryd.prog 87 2 (c_rf NS mS.pT 144 true) [.var 2] := ⟨Go.Proofs.Tryd.f87, _, [0, 1, 4], Go.Proofs.Tryd.func87, rfl, by kernel_rfl, by kernel_rfl, by decide, by kernel_rfl, by kernel_rfl⟩
theorem fd_mv : FOk Go.Proofs.Tryd.prog 83 1 (c_max 1) [.var 1] := ⟨Go.Proofs.Tryd.f83, _, [0, 2], Go.Proofs.Tryd.func83, rfl, by kernel_rfl, by kernel_rfl, by decide, by kernel_rfl, by kernel_rfl⟩
theorem fd_mi : FOk Go.Proofs.Tryd.prog 31 0 (c_maxI NS mS.pT 82 83) [.var 0] := ⟨Go.Proofs.Tryd.f31, _, [0], Go.Proofs.Tryd.func31, rfl, by kernel_rfl, by kernel_rfl, by decide, by kernel_rfl, by kernel_rfl⟩
theorem fd_tellI : FOk Go.Proofs.Tryd.prog 32 2 (c_door NS mS.pT 82 84 85 86) [.cell 2 NS.zj, .var 3] := ⟨Go.Proofs.Tryd.f32, _, [0, 1, 4, 5, 6, 16], Go.Proofs.Tryd.func32, rfl, by kernel_rfl, by kernel_rfl, by decide, by kernel_rfl, by kernel_rfl⟩
theorem fd_unsI : FOk Go.Proofs.Tryd.prog 33 2 (c_door NS mS.pT 82 84 87 86) [.cell 2 NS.zj, .var 3] := ⟨Go.Proofs.Tryd.f33, _, [0, 1, 4, 5, 6, 16], Go.Proofs.Tryd.func33, rfl, by kernel_rfl, by kernel_rfl, by decide, by kernel_rfl, by kernel_rfl⟩
theorem lawT : LawT Go.Proofs.Tryd.prog NS mS true dS 1 := ⟨door, fd_rf, fd_uf, fd_mv, fd_mi, fd_tellI, fd_unsI, by decide, by decide, by decide⟩
theorem fd_law : FOk Go.Proofs.Tryd.prog 7 2 (c_lawU NS 36 dS.maxI dS.tellI dS.unsI 1000) [.var 2] := ⟨Go.Proofs.Tryd.f7, _, [0, 1, 4, 12, 5, 15, 18, 6, 7, 8, 9], Go.Proofs.Tryd.func7, rfl, by kernel_rfl, by kernel_rfl, by decide, by kernel_rfl, by kernel_rfl⟩
end Go.Kf

namespace Go.Proofs.YtdlfgheckhmgiaaDoor.fnUnsafeDescribeClientQuotasRequest
open Go.ChangeShapes Go.WideShapes Go.ChangeAt Go.RowKit Go.Kf

set_option maxHeartbeats 4000000 in
theorem lifted (os : Os) (started : os.Started) (H : Type) (enc : TypeId × Value → H) :
    ReturnsInHanded {} Go.Proofs.Tryd.checked os 7 .any (fun w args => (Rows.fnUnsafeDescribeClientQuotasRequestSpec.pre enc Go.Proofs.Tryd.prog Go.Proofs.Tryd.f7 [] false w args ∧ laidMetH Go.Proofs.Tryd.prog Rows.fnUnsafeDescribeClientQuotasRequestRow.laid w) ∧ sizedMet enc Go.Proofs.Tryd.prog Go.Proofs.Tryd.f7 (OpenSpec.ofChange Rows.fnUnsafeDescribeClientQuotasRequestSpec) false w args)
      (Rows.fnUnsafeDescribeClientQuotasRequestSpec.post enc Go.Proofs.Tryd.prog Go.Proofs.Tryd.f7 false true false false) := by
  refine returnsInHanded_of_change_and (C := Go.Proofs.Tryd.checked) (X := fun w _ => laidMetH Go.Proofs.Tryd.prog Rows.fnUnsafeDescribeClientQuotasRequestRow.laid w) (fun _ _ _ hh h => h.of_heap hh) own started (by kernel_rfl) Go.Proofs.Tryd.func7
    (ChangeSpec.witness_shaped (enc := enc) (C := Go.Proofs.Tryd.checked) (os := os) (X := fun w _ => laidMetH Go.Proofs.Tryd.prog Rows.fnUnsafeDescribeClientQuotasRequestRow.laid w) false (World.doorLaid Go.Proofs.Tryd.prog 400 os) #[.int .u8 0, .slice none 0 0] 8 rfl (shaped os _) (by kernel_rfl) (by kernel_rfl) (by kernel_rfl) (door_met os _)) ?_
  intro W base args ds gs before hval0 hW _ _ hL _
  have hval : ∀ (j : Nat) t v, Go.Proofs.Tryd.f7.params[j]? = some t → args[j]? = some v → Value.okWide Go.Proofs.Tryd.prog W .any base t v := hval0
  have hW' := hW
  obtain ⟨p, q, hA0, hV, rfl, hfz, hnd⟩ := hW
  have hA : DataW.TrodAll enc Go.Proofs.Tryd.prog W 0 (fun _ => true) true Go.Proofs.Tryd.f7.params.toList args.toList ds p := hA0
  rw [Go.Proofs.Tryd.params7] at hA hval
  obtain ⟨v0, vs0, d0, ds0, p0, q0, hargs, rfl, rfl, h0, r0⟩ := trodAll_cons hA
  obtain ⟨v1, vs1, d1, ds1, p1, q1, rfl, rfl, rfl, h1, r1⟩ := trodAll_cons r0
  obtain ⟨rfl, rfl, rfl⟩ := trodAll_nil r1
  obtain rfl : args = #[v0, v1] := by cases args; simp_all
  obtain ⟨rfl, rfl⟩ := trodVars_none hV
  obtain ⟨n0, rfl, rfl, rfl, w0⟩ := open_int Go.Proofs.Tryd.underlying5 (hval 0 5 v0 rfl rfl) h0
  obtain ⟨l, ha⟩ := argOct_of Go.Proofs.Tryd.underlying22 Go.Proofs.Tryd.underlying5 (by kernel_rfl) (hval 1 22 v1 rfl rfl) h1
  have lt1 : ∀ x ∈ p1, x.block < W.heap.size := by obtain ⟨m, hm⟩ := h1; exact DataW.trod_lt m _ _ _ hm
  rw [MakeChecks.laidMetH_plain _ _ _ (by kernel_rfl)] at hL
  obtain ⟨a1, s1, hv1, _⟩ := laid_sentinel hL gO gT Go.Proofs.Tryd.underlying60 rowP Go.Proofs.Tryd.underlying301 Go.Proofs.Tryd.underlying319 rfl rfl Go.Proofs.Tryd.underlying9 cS cStr
  have hg : W.cell? ⟨1, 0, none⟩ = some (.iface 301 (.pointer (some a1))) := by simpa using World.var?_cell gO hv1 0
  clear hA0 hval0
  refine Calls.mono (call_lawU baseS fnsS implT specT (by decide) (by decide) (by decide) lawT fd_law (n := n0) ha hg) fun e W' ⟨v', he, hv', hm⟩ => ?_
  subst he hv'
  have bel := hm.below
  exact ⟨_, rfl, _, _, _, [], _, [], hW', trodAll_mk1 (shut_bool Go.Proofs.Tryd.underlying4 _), trodAll_cons_mk (shut_int Go.Proofs.Tryd.underlying5 w0) (trodAll_cons_mk (Below.trod laidOut (by kernel_rfl) (of_decide_eq_true (by kernel_rfl)) h1 bel lt1) trodAll_mk0), rfl, bel.frame _, fun h => by cases h⟩

set_option maxHeartbeats 4000000 in
theorem joined : joinedFacts Go.Proofs.Tryd.prog 7 Go.Proofs.Tryd.f7 Rows.fnUnsafeDescribeClientQuotasRequestSpec Rows.fnUnsafeDescribeClientQuotasRequestRow = true := by
  unfold joinedFacts
  exact bandT (bandT (bandT (bandT (bandT (bandT (bandT (bandT (bandT (bandT (bandT (bandT (bandT (bandT (bandT (bandT (bandT (bandT (bandT (bandT (bandT (bandT (bandT (bandT (bandT (bandT (bandT (bandT (bandT (bandT (bandT (by as_aux_lemma => kernel_rfl) laidOut) mapsRowedS) (by as_aux_lemma => kernel_rfl)) (by as_aux_lemma => kernel_rfl)) (by as_aux_lemma => kernel_rfl)) (by as_aux_lemma => kernel_rfl)) (by as_aux_lemma => kernel_rfl)) (by as_aux_lemma => kernel_rfl)) (by as_aux_lemma => kernel_rfl)) (by as_aux_lemma => kernel_rfl)) (by as_aux_lemma => kernel_rfl)) (by as_aux_lemma => kernel_rfl)) (by as_aux_lemma => kernel_rfl)) (by as_aux_lemma => kernel_rfl)) (by as_aux_lemma => kernel_rfl)) (by as_aux_lemma => kernel_rfl)) (by as_aux_lemma => kernel_rfl)) (by as_aux_lemma => kernel_rfl)) (by as_aux_lemma => kernel_rfl)) (by as_aux_lemma => kernel_rfl)) (by as_aux_lemma => kernel_rfl)) plainKeysS) (by as_aux_lemma => kernel_rfl)) stopsHeardS) bigEnter) bigLifts) bigMake) (by as_aux_lemma => kernel_rfl)) (by as_aux_lemma => kernel_rfl)) (by as_aux_lemma => kernel_rfl)) (by as_aux_lemma => kernel_rfl)
theorem named : Go.Proofs.Tryd.prog.funcNamed Rows.fnUnsafeDescribeClientQuotasRequestRow.func = some 7 := by kernel_rfl
theorem isInst : Go.Proofs.Tryd.f7.isInstance Go.Proofs.Tryd.prog Rows.fnUnsafeDescribeClientQuotasRequestRow.origin Rows.fnUnsafeDescribeClientQuotasRequestRow.targs := of_decide_eq_true (by kernel_rfl)
theorem isWrap : Go.Proofs.Tryd.f7.isWrapper Go.Proofs.Tryd.prog Rows.fnUnsafeDescribeClientQuotasRequestRow.wrapper Rows.fnUnsafeDescribeClientQuotasRequestRow.mainSum := by unfold Func.isWrapper; first | (rw [if_pos (by decide +kernel)]; kernel_rfl) | (rw [if_neg (by decide +kernel)]; exact ⟨rfl, rfl⟩)
theorem row : Rows.FnUnsafeDescribeClientQuotasRequestSaid :=
  OpenClaim.holds_of_wide 7 Go.Proofs.Tryd.f7 rfl rfl rfl rfl rfl rfl rfl ⟨rfl, rfl, rfl, rfl, rfl⟩ rfl rfl rfl rfl rfl named Go.Proofs.Tryd.func7 joined
    isInst isWrap
    (fun os started H enc _ => lifted os started H enc)
end Go.Proofs.YtdlfgheckhmgiaaDoor.fnUnsafeDescribeClientQuotasRequest

namespace Go.Proofs.YtdlfgheckhmgiaaDoor
open Go.Kf
set_option maxHeartbeats 4000000 in
theorem fnUnsafeDescribeClientQuotasRequest_card : Rows.FnUnsafeDescribeClientQuotasRequestCardSaid :=
  Claim7.holds_tied_plain_at .later [] [.sentinel] true Rows.fnUnsafeDescribeClientQuotasRequestCard.stood.harness false
    fnUnsafeDescribeClientQuotasRequest.row (fun _ h => by cases h) (by as_aux_lemma => kernel_rfl) (fun _ h => by cases h) fnUnsafeDescribeClientQuotasRequest_row_tie rfl ⟨rfl, rfl⟩ mainS rfl
    (fun f fn hf hfn => by
      obtain rfl : f = 7 := Option.some.inj (fnUnsafeDescribeClientQuotasRequest.named.symm.trans hf) |>.symm
      obtain rfl : fn = Go.Proofs.Tryd.f7 := (Option.some.inj (Go.Proofs.Tryd.func7.symm.trans hfn)).symm
      refine ⟨looksS, fun j t ht => ?_⟩
      rw [Go.Proofs.Tryd.params7] at ht
      rcases j with _ | _ | j
      · obtain rfl : 5 = t := by simpa using ht
        exact (show Go.Proofs.Tryd.prog.wantsStandIn 5 = false by kernel_rfl)
      · obtain rfl : 22 = t := by simpa using ht
        exact (show Go.Proofs.Tryd.prog.wantsStandIn 22 = false by kernel_rfl)
      · simp at ht)
    (by as_aux_lemma => kernel_rfl)
#print axioms fnUnsafeDescribeClientQuotasRequest_card
end Go.Proofs.YtdlfgheckhmgiaaDoor
