/- Of a message that is written by the protocol just its fields are told (laws.FnTellAllocateProducerIDsResponse): the second form's tied card is proved, at every version number and every tree whose bulk is at most 1048576; no other condition. -/
import Derived.Test.YtplpomlhhaccgaaDoorKs
set_option linter.unusedSimpArgs false
set_option linter.unusedVariables false
set_option maxRecDepth 100000
namespace Go.Kf
open Go

def tf : TypeId → FuncId × FuncId := fun | _ => (0, 0)

def mS : Msg := ⟨118, 79, 82, 0, false, .cons .all (.pr .i32 none) (.cons .all (.pr .i16 none) (.cons .all (.pr .i64 none) (.cons .all (.pr .i32 none) (.tags))))⟩
def dS : zvm where
  newP := 51
  setV := 53
  maxV := 52
  readF := 54
  readf := 83
  tell := 55
  maxI := 20
  tellI := 22
theorem rd_m : FOk Go.Proofs.Tryd.prog 83 3 (mS.gen NS true) [.var 3] := ⟨Go.Proofs.Tryd.f83, _, [0, 1, 2, 6, 7, 8, 9, 10, 11, 12, 13, 14, 48], Go.Proofs.Tryd.func83, rfl, by kernel_rfl, by kernel_rfl, by decide, by kernel_rfl, by kernel_rfl⟩
theorem df_m : FOk Go.Proofs.Tryd.prog 82 1 (seqs (mS.fs.dfl NS mS.tT 1)) [] := ⟨Go.Proofs.Tryd.f82, _, [0], Go.Proofs.Tryd.func82, rfl, by kernel_rfl, by kernel_rfl, by decide, by kernel_rfl, by kernel_rfl⟩
theorem mt : MsgT Go.Proofs.Tryd.prog NS mS true := msgT_of baseS fnsS (by kernel_rfl) (by kernel_rfl) (by kernel_rfl) ⟨trivial, ⟨trivial, ⟨trivial, ⟨trivial, trivial⟩⟩⟩⟩ df_m
theorem ft_AllocateProducerIDsResponse : FOk Go.Proofs.Tryd.prog 55 1 (tellC NS tf 118 1 85 mS.fs) [.cell 1 NS.zab] := ⟨Go.Proofs.Tryd.f55, _, [0, 2, 3], Go.Proofs.Tryd.func55, rfl, by kernel_rfl, by kernel_rfl, by decide, by kernel_rfl, by kernel_rfl⟩
theorem fc_AllocateProducerIDsResponse : FOk Go.Proofs.Tryd.prog 85 3 (cTagFn NS) [] := ⟨Go.Proofs.Tryd.f85, _, [0, 1, 2], Go.Proofs.Tryd.func85, rfl, by kernel_rfl, by kernel_rfl, by decide, by kernel_rfl, by kernel_rfl⟩
theorem tl_AllocateProducerIDsResponse : TellP Go.Proofs.Tryd.prog 55 1 mS.fs := tellP baseS fnsS implT tellN (tf := tf) (Tt := 118) (idx0 := 1) ft_AllocateProducerIDsResponse (fun _ => fc_AllocateProducerIDsResponse) ⟨trivial, ⟨trivial, ⟨trivial, ⟨trivial, trivial⟩⟩⟩⟩ mt.hf (by decide)
theorem fd_new : FOk Go.Proofs.Tryd.prog 51 0 (c_new NS mS.tT mS.dflt) [.var 0] := ⟨Go.Proofs.Tryd.f51, _, [0, 1], Go.Proofs.Tryd.func51, rfl, by kernel_rfl, by kernel_rfl, by decide, by kernel_rfl, by kernel_rfl⟩
theorem fd_set : FOk Go.Proofs.Tryd.prog 53 2 (c_set NS mS.tT) [] := ⟨Go.Proofs.Tryd.f53, _, [0, 1], Go.Proofs.Tryd.func53, rfl, by kernel_rfl, by kernel_rfl, by decide, by kernel_rfl, by kernel_rfl⟩
theorem door : zys Go.Proofs.Tryd.prog NS mS true dS where
  msg := mt
  vin := rfl
  ti := (tsB_ok (by' := bytesOf Go.Proofs.Tryd.prog 118) (by kernel_rfl)).imp fun _ h => ⟨_, h⟩
  newP := fd_new
  setV := fd_set
  readf := rd_m
  tell := tl_AllocateProducerIDsResponse
  dok := ⟨⟨_, rfl, by decide⟩, ⟨⟨_, rfl, by decide⟩, ⟨⟨_, rfl, by decide⟩, ⟨⟨_, rfl, by decide⟩, trivial⟩⟩⟩⟩
  shB := by kernel_rfl
  cnt := by decide
theorem fd_rf : FOk Go.Proofs.Tryd.prog 54 2 (c_rf NS mS.pT 83 false) [.var 2] := ⟨Go.Proofs.Tryd.f54, _, [0, 1, 4], Go.Proofs.Tryd.func54, rfl, by kernel_rfl, by kernel_rfl, by decide, by kernel_rfl, by kernel_rfl⟩
theorem fd_mv : FOk Go.Proofs.Tryd.prog 52 1 (c_max 0) [.var 1] := ⟨Go.Proofs.Tryd.f52, _, [0, 2], Go.Proofs.Tryd.func52, rfl, by kernel_rfl, by kernel_rfl, by decide, by kernel_rfl, by kernel_rfl⟩
theorem fd_mi : FOk Go.Proofs.Tryd.prog 20 0 (c_maxI NS mS.pT 51 52) [.var 0] := ⟨Go.Proofs.Tryd.f20, _, [0], Go.Proofs.Tryd.func20, rfl, by kernel_rfl, by kernel_rfl, by decide, by kernel_rfl, by kernel_rfl⟩
theorem fd_tellI : FOk Go.Proofs.Tryd.prog 22 2 (c_door NS mS.pT 51 53 54 55) [.cell 2 NS.zab, .var 3] := ⟨Go.Proofs.Tryd.f22, _, [0, 1, 4, 5, 6, 16], Go.Proofs.Tryd.func22, rfl, by kernel_rfl, by kernel_rfl, by decide, by kernel_rfl, by kernel_rfl⟩

def sc_AllocateProducerIDsResponse : List SC := [.mk [(0, 3), (2, -1), (3, -1), (4, -1)] none [], .mk [(0, 2), (2, -1), (3, -1), (4, -1)] none [], .mk [(0, 4), (2, -1), (3, -1), (4, -1)] none [], .mk [(0, 3), (2, -1), (3, -1), (4, -1)] none []]
theorem fsc_AllocateProducerIDsResponse : FOk Go.Proofs.Tryd.prog 21 0 (c_msg MS sc_AllocateProducerIDsResponse (0)) [.cell 0 MS.zam] := ⟨Go.Proofs.Tryd.f21, _, [0], Go.Proofs.Tryd.func21, rfl, by kernel_rfl, by kernel_rfl, by decide, by kernel_rfl, by kernel_rfl⟩
theorem lawT : LawTT Go.Proofs.Tryd.prog NS MS mS true dS 0 21 sc_AllocateProducerIDsResponse (0) := ⟨door, fd_rf, fd_mv, fd_mi, fd_tellI, by decide, by decide, by decide, fsc_AllocateProducerIDsResponse, by kernel_rfl, ⟨rfl, ⟨rfl, ⟨rfl, ⟨rfl, trivial⟩⟩⟩⟩, by kernel_rfl, by kernel_rfl, by kernel_rfl⟩
theorem fd_law : FOk Go.Proofs.Tryd.prog 5 2 (c_lawT NS MS 38 dS.maxI dS.tellI 21) [.var 3] := ⟨Go.Proofs.Tryd.f5, _, [0, 1, 3, 4, 12, 5, 15, 6, 7, 8, 9], Go.Proofs.Tryd.func5, rfl, by kernel_rfl, by kernel_rfl, by decide, by kernel_rfl, by kernel_rfl⟩
end Go.Kf

namespace Go.Proofs.YtplpomlhhaccgaaDoor.fnTellAllocateProducerIDsResponse
open Go.ChangeShapes Go.WideShapes Go.ChangeAt Go.RowKit Go.Kf

theorem reads (os : Os) {H : Type} (enc : TypeId × Value → H) : ∃ places, DataW.whole enc Go.Proofs.Tryd.prog ((World.doorLaid Go.Proofs.Tryd.prog 400 os).forCall (fun _ _ => 0) ⟨#[], #[.int .u8 0, .agg #[.int .i64 0, .slice none 0 0, .bool false, .slice none 0 0, .slice none 0 0]], []⟩).memory Go.Proofs.Tryd.f5.params.toList Rows.fnTellAllocateProducerIDsResponseSpec.vars false #[Value.int .u8 0, .agg #[.int .i64 0, .slice none 0 0, .bool false, .slice none 0 0, .slice none 0 0]].toList 8 = some ([.lit (.int .u8 0), .agg [.lit (.int .i64 0), .nil, .lit (.bool false), .nil, .nil]], [], places) :=
  ⟨[], by kernel_rfl⟩
set_option maxHeartbeats 4000000 in
theorem lifted (os : Os) (started : os.Started) (H : Type) (enc : TypeId × Value → H) (F : Stop.Interp) :
    ReturnsInHanded {} Go.Proofs.Tryd.checked os 5 .any ((Rows.OpenSpec.upto Rows.fnTellAllocateProducerIDsResponseSpec).preRow enc Go.Proofs.Tryd.prog Go.Proofs.Tryd.f5 Rows.fnTellAllocateProducerIDsResponseUptoRow.domain false Rows.fnTellAllocateProducerIDsResponseUptoRow.laid) (((Rows.OpenSpec.upto Rows.fnTellAllocateProducerIDsResponseSpec).at F).post enc Go.Proofs.Tryd.prog Go.Proofs.Tryd.f5 false true false false) := by
  obtain ⟨places, hx⟩ := reads os enc
  refine returnsInHanded_of_row (C := Go.Proofs.Tryd.checked) (s := Rows.OpenSpec.upto Rows.fnTellAllocateProducerIDsResponseSpec) own started (by kernel_rfl) Go.Proofs.Tryd.func5
    ⟨World.doorLaid Go.Proofs.Tryd.prog 400 os, fun _ _ => 0, ⟨#[], #[.int .u8 0, .agg #[.int .i64 0, .slice none 0 0, .bool false, .slice none 0 0, .slice none 0 0]], []⟩, rfl, shaped os _, rfl, (Input.okWide_of_okWideB (by kernel_rfl)).2,
      OpenSpec.preRow_of_cond 8 hx (by kernel_rfl) (fun k hk => by cases hk; kernel_rfl) (by kernel_rfl) (door_met os _), by
        simp only [Assume.holds]
        exact ⟨by simp, by simp, fun _ => Modest.zero, by simp, by simp⟩⟩ ?_
  intro W base args ds gs before hval0 hW _ hcond _ hL _ _
  have hval : ∀ (j : Nat) t v, Go.Proofs.Tryd.f5.params[j]? = some t → args[j]? = some v → Value.okWide Go.Proofs.Tryd.prog W .any base t v := hval0
  have hW' := hW
  obtain ⟨p, q, hA0, hV, rfl, hfz, hnd⟩ := hW
  have hA : DataW.TrodAll enc Go.Proofs.Tryd.prog W 0 (fun _ => true) true Go.Proofs.Tryd.f5.params.toList args.toList ds p := hA0
  rw [Go.Proofs.Tryd.params5] at hA hval
  obtain ⟨v0, vs0, d0, ds0, p0, q0, hargs, rfl, rfl, h0, r0⟩ := trodAll_cons hA
  obtain ⟨v1, vs1, d1, ds1, p1, q1, rfl, rfl, rfl, h1, r1⟩ := trodAll_cons r0
  obtain ⟨rfl, rfl, rfl⟩ := trodAll_nil r1
  obtain rfl : args = #[v0, v1] := by cases args; simp_all
  obtain ⟨rfl, rfl⟩ := trodVars_none hV
  obtain ⟨n0, rfl, rfl, rfl, w0⟩ := open_int Go.Proofs.Tryd.underlying5 (hval 0 5 v0 rfl rfl) h0
  obtain ⟨t, ct, rfl, ht, hwf, hsz⟩ := treeArg_of treeO baseS specT (bulkF H) (hval 1 26 v1 rfl rfl) h1
  have hc := hcond _ rfl
  have hsz2 : szT t ≤ 1048576 := by
    have hc2 : Rows.uptoBulkAll ([.lit (.int .u8 n0), d1] ++ []) ≤ 1048576 := of_decide_eq_true hc
    simp only [List.cons_append, List.nil_append, Rows.uptoBulkAll] at hc2
    omega
  have lt1 : ∀ x ∈ p1, x.block < W.heap.size := by obtain ⟨m, hm⟩ := h1; exact DataW.trod_lt m _ _ _ hm
  rw [MakeChecks.laidMetH_plain _ _ _ (by kernel_rfl)] at hL
  obtain ⟨a1, s1, hv1, _⟩ := laid_sentinel hL gO gT Go.Proofs.Tryd.underlying56 rowP Go.Proofs.Tryd.underlying193 Go.Proofs.Tryd.underlying211 rfl rfl Go.Proofs.Tryd.underlying9 cS cStr
  have hg : W.cell? ⟨1, 0, none⟩ = some (.iface 193 (.pointer (some a1))) := by simpa using World.var?_cell gO hv1 0
  have hn0 : 0 ≤ n0 ∧ n0 ≤ 255 := by
    simp [Lit.wf, IntKind.min, IntKind.max, IntKind.signed, IntKind.bits] at w0
    omega
  clear hA0 hval0
  refine Calls.mono (call_lawT baseS fnsS implT spT thSZ thSW thSTo (by decide) (by decide) (by decide) lawT fd_law (n := n0) hn0 ht hwf hsz2 hg) fun e W' ⟨v', he, hv', hm⟩ => ?_
  subst he hv'
  have bel := hm.below
  exact ⟨_, rfl, _, _, _, [], _, [], hW', trodAll_mk1 (shut_bool Go.Proofs.Tryd.underlying4 _), trodAll_cons_mk (shut_int Go.Proofs.Tryd.underlying5 w0) (trodAll_cons_mk (Below.trod laidOut (by kernel_rfl) (of_decide_eq_true (by kernel_rfl)) h1 bel lt1) trodAll_mk0), rfl, bel.frame _, fun h => by cases h⟩

set_option maxHeartbeats 4000000 in
theorem joined : joinedFacts Go.Proofs.Tryd.prog 5 Go.Proofs.Tryd.f5 (Rows.OpenSpec.upto Rows.fnTellAllocateProducerIDsResponseSpec).bare Rows.fnTellAllocateProducerIDsResponseUptoRow = true := by
  unfold joinedFacts
  exact bandT (bandT (bandT (bandT (bandT (bandT (bandT (bandT (bandT (bandT (bandT (bandT (bandT (bandT (bandT (bandT (bandT (bandT (bandT (bandT (bandT (bandT (bandT (bandT (bandT (bandT (bandT (bandT (bandT (bandT (bandT (by as_aux_lemma => kernel_rfl) laidOut) mapsRowedS) (by as_aux_lemma => kernel_rfl)) (by as_aux_lemma => kernel_rfl)) (by as_aux_lemma => kernel_rfl)) (by as_aux_lemma => kernel_rfl)) (by as_aux_lemma => kernel_rfl)) (by as_aux_lemma => kernel_rfl)) (by as_aux_lemma => kernel_rfl)) (by as_aux_lemma => kernel_rfl)) (by as_aux_lemma => kernel_rfl)) (by as_aux_lemma => kernel_rfl)) (by as_aux_lemma => kernel_rfl)) (by as_aux_lemma => kernel_rfl)) (by as_aux_lemma => kernel_rfl)) (by as_aux_lemma => kernel_rfl)) (by as_aux_lemma => kernel_rfl)) (by as_aux_lemma => kernel_rfl)) (by as_aux_lemma => kernel_rfl)) (by as_aux_lemma => kernel_rfl)) (by as_aux_lemma => kernel_rfl)) plainKeysS) (by as_aux_lemma => kernel_rfl)) stopsHeardS) bigEnter) bigLifts) bigMake) (by as_aux_lemma => kernel_rfl)) (by as_aux_lemma => kernel_rfl)) (by as_aux_lemma => kernel_rfl)) (by as_aux_lemma => kernel_rfl)
theorem named : Go.Proofs.Tryd.prog.funcNamed Rows.fnTellAllocateProducerIDsResponseUptoRow.func = some 5 := by kernel_rfl
theorem isInst : Go.Proofs.Tryd.f5.isInstance Go.Proofs.Tryd.prog Rows.fnTellAllocateProducerIDsResponseUptoRow.origin Rows.fnTellAllocateProducerIDsResponseUptoRow.targs := of_decide_eq_true (by kernel_rfl)
theorem isWrap : Go.Proofs.Tryd.f5.isWrapper Go.Proofs.Tryd.prog Rows.fnTellAllocateProducerIDsResponseUptoRow.wrapper Rows.fnTellAllocateProducerIDsResponseUptoRow.mainSum := by unfold Func.isWrapper; first | (rw [if_pos (by decide +kernel)]; kernel_rfl) | (rw [if_neg (by decide +kernel)]; exact ⟨rfl, rfl⟩)
theorem row : Rows.FnTellAllocateProducerIDsResponseUptoSaid :=
  OpenClaim.holds_of_cond 5 Go.Proofs.Tryd.f5 rfl rfl rfl rfl rfl rfl rfl ⟨rfl, rfl, rfl, rfl, rfl⟩ rfl rfl rfl rfl rfl named Go.Proofs.Tryd.func5 joined
    isInst isWrap
    (fun os started H enc _ F => by rw [OpenClaim.pre_eq_preRow]; exact lifted os started H enc F)
end Go.Proofs.YtplpomlhhaccgaaDoor.fnTellAllocateProducerIDsResponse

namespace Go.Proofs.YtplpomlhhaccgaaDoor
open Go.Kf
set_option maxHeartbeats 4000000 in
theorem fnTellAllocateProducerIDsResponse_card : Rows.FnTellAllocateProducerIDsResponseUptoCardSaid :=
  Claim7.holds_tied_plain_at .later [] [.sentinel] true Rows.fnTellAllocateProducerIDsResponseUptoCard.stood.harness false
    fnTellAllocateProducerIDsResponse.row (fun _ h => by cases h) (by as_aux_lemma => kernel_rfl) (fun _ h => by cases h) fnTellAllocateProducerIDsResponseUpto_row_tie rfl ⟨rfl, rfl⟩ mainS rfl
    (fun f fn hf hfn => by
      obtain rfl : f = 5 := Option.some.inj (fnTellAllocateProducerIDsResponse.named.symm.trans hf) |>.symm
      obtain rfl : fn = Go.Proofs.Tryd.f5 := (Option.some.inj (Go.Proofs.Tryd.func5.symm.trans hfn)).symm
      refine ⟨looksS, fun j t ht => ?_⟩
      rw [Go.Proofs.Tryd.params5] at ht
      rcases j with _ | _ | j
      · obtain rfl : 5 = t := by simpa using ht
        exact (show Go.Proofs.Tryd.prog.wantsStandIn 5 = false by kernel_rfl)
      · obtain rfl : 26 = t := by simpa using ht
        exact (show Go.Proofs.Tryd.prog.wantsStandIn 26 = false by kernel_rfl)
      · simp at ht)
    (by as_aux_lemma => kernel_rfl)
#print axioms fnTellAllocateProducerIDsResponse_card
end Go.Proofs.YtplpomlhhaccgaaDoor
