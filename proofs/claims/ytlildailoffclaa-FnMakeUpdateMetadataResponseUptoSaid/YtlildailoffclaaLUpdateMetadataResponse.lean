/- A message that is set out of a tree is written as the reference writes that tree (laws.FnMakeUpdateMetadataResponse): the statement's second form is proved, at every version number and every tree whose bulk is at most 1048576; no other condition. -/
import Derived.Test.YtlildailoffclaaKs
set_option linter.unusedSimpArgs false
set_option linter.unusedVariables false
set_option maxRecDepth 100000
namespace Go.Kf
open Go
def mfS : TypeId → FuncId := fun t => 0

def mS : Msg := ⟨55, 46, 82, 6, false, .cons .all (.pr .i16 none) (.tags)⟩
def dS : MkN where
  newP := 38
  setV := 40
  maxV := 39
  maxI := 11
  fillI := 41
  app := 42
  mkI := 15
theorem df_m : FOk Go.Proofs.Try.prog 82 1 (seqs (mS.fs.dfl NS mS.tT 1)) [] := ⟨Go.Proofs.Try.f82, _, [0], Go.Proofs.Try.func82, rfl, by kernel_rfl, by kernel_rfl, by decide, by kernel_rfl, by kernel_rfl⟩
theorem fd_new : FOk Go.Proofs.Try.prog 38 0 (c_new NS mS.tT mS.dflt) [.var 0] := ⟨Go.Proofs.Try.f38, _, [0, 1], Go.Proofs.Try.func38, rfl, by kernel_rfl, by kernel_rfl, by decide, by kernel_rfl, by kernel_rfl⟩
theorem fd_set : FOk Go.Proofs.Try.prog 40 2 (c_set NS mS.tT) [] := ⟨Go.Proofs.Try.f40, _, [0, 1], Go.Proofs.Try.func40, rfl, by kernel_rfl, by kernel_rfl, by decide, by kernel_rfl, by kernel_rfl⟩
theorem fd_mv : FOk Go.Proofs.Try.prog 39 1 (c_max 8) [.var 1] := ⟨Go.Proofs.Try.f39, _, [0, 2], Go.Proofs.Try.func39, rfl, by kernel_rfl, by kernel_rfl, by decide, by kernel_rfl, by kernel_rfl⟩
theorem fd_mi : FOk Go.Proofs.Try.prog 11 0 (c_maxI NS mS.pT 38 39) [.var 0] := ⟨Go.Proofs.Try.f11, _, [0], Go.Proofs.Try.func11, rfl, by kernel_rfl, by kernel_rfl, by decide, by kernel_rfl, by kernel_rfl⟩
theorem fd_app : FOk Go.Proofs.Try.prog 42 2 (mS.appC NS AN) [.var 2] := ⟨Go.Proofs.Try.f42, _, [0, 1, 4, 5, 6, 7, 23], Go.Proofs.Try.func42, rfl, by kernel_rfl, by kernel_rfl, by decide, by kernel_rfl, by kernel_rfl⟩
theorem fd_fill : FOk Go.Proofs.Try.prog 41 2 (mS.fillC NS LN mfS) [] := ⟨Go.Proofs.Try.f41, _, [0, 1, 3, 14, 15, 16, 17, 5], Go.Proofs.Try.func41, rfl, by kernel_rfl, by kernel_rfl, by decide, by kernel_rfl, by kernel_rfl⟩
theorem fd_door : FOk Go.Proofs.Try.prog 15 2 (c_doorM NS mS.tT mS.pT 40 41 42) [.var 3] := ⟨Go.Proofs.Try.f15, _, [0, 1, 3, 4, 5], Go.Proofs.Try.func15, rfl, by kernel_rfl, by kernel_rfl, by decide, by kernel_rfl, by kernel_rfl⟩
theorem aokS : mS.fs.aok Go.Proofs.Try.prog NS AN := ⟨⟨by decide, ⟨(fun h => nomatch h), fun h => absurd h (by decide)⟩⟩, trivial⟩
theorem fokS : mS.fs.fok Go.Proofs.Try.prog NS LN mfS .fill := ⟨⟨(fun h => nomatch h), ⟨(fun h => nomatch h), fun h => absurd h (by decide)⟩, rfl⟩, trivial⟩
theorem door : MkD Go.Proofs.Try.prog NS MS AN LN mfS mS dS := ⟨⟨[(0, 1), (1, 1), (2, 1)], bytesOf Go.Proofs.Try.prog 55, sfB_ok (by kernel_rfl)⟩, one_of (by kernel_rfl), Fds.hfBs_ok (by kernel_rfl), zus (by kernel_rfl), trivial, df_m, fd_new, fd_set, fd_fill, fokS, fd_app, aokS, fd_door⟩

def sc_UpdateMetadataResponse : List SC := [.mk [(0, 2), (2, -1), (3, -1), (4, -1)] none []]
theorem fsc_UpdateMetadataResponse : FOk Go.Proofs.Try.prog 12 0 (c_msg MS sc_UpdateMetadataResponse (6)) [.cell 0 MS.zao] := ⟨Go.Proofs.Try.f12, _, [0], Go.Proofs.Try.func12, rfl, by kernel_rfl, by kernel_rfl, by decide, by kernel_rfl, by kernel_rfl⟩
theorem lawT : LawMM Go.Proofs.Try.prog NS MS AN LN mfS mS dS 8 12 sc_UpdateMetadataResponse (6) := ⟨door, fd_mv, fd_mi, by decide, by decide, by decide, fsc_UpdateMetadataResponse, by kernel_rfl, ⟨rfl, trivial⟩, by kernel_rfl, by kernel_rfl, by kernel_rfl⟩
theorem fd_law : FOk Go.Proofs.Try.prog 3 2 (c_lawM NS MS LN dS.maxI dS.mkI 12) [.var 3] := ⟨Go.Proofs.Try.f3, _, [0, 1, 3, 4, 10, 5, 13, 6, 7], Go.Proofs.Try.func3, rfl, by kernel_rfl, by kernel_rfl, by decide, by kernel_rfl, by kernel_rfl⟩
end Go.Kf

namespace Go.Proofs.Ytlildailoffclaa.fnMakeUpdateMetadataResponse
open Go.ChangeShapes Go.WideShapes Go.ChangeAt Go.RowKit Go.Kf

theorem reads (os : Os) {H : Type} (enc : TypeId × Value → H) : ∃ places, DataW.whole enc Go.Proofs.Try.prog ((World.doorLaid Go.Proofs.Try.prog 400 os).forCall (fun _ _ => 0) ⟨#[], #[.int .u8 0, .agg #[.int .i64 0, .slice none 0 0, .bool false, .slice none 0 0, .slice none 0 0]], []⟩).memory Go.Proofs.Try.f3.params.toList Rows.fnMakeUpdateMetadataResponseSpec.vars false #[Value.int .u8 0, .agg #[.int .i64 0, .slice none 0 0, .bool false, .slice none 0 0, .slice none 0 0]].toList 8 = some ([.lit (.int .u8 0), .agg [.lit (.int .i64 0), .nil, .lit (.bool false), .nil, .nil]], [], places) :=
  ⟨[], by kernel_rfl⟩
set_option maxHeartbeats 4000000 in
theorem lifted (os : Os) (started : os.Started) (H : Type) (enc : TypeId × Value → H) (F : Stop.Interp) :
    ReturnsInHanded {} Go.Proofs.Try.checked os 3 .any ((Rows.OpenSpec.upto Rows.fnMakeUpdateMetadataResponseSpec).preRow enc Go.Proofs.Try.prog Go.Proofs.Try.f3 Rows.fnMakeUpdateMetadataResponseUptoRow.domain false Rows.fnMakeUpdateMetadataResponseUptoRow.laid) (((Rows.OpenSpec.upto Rows.fnMakeUpdateMetadataResponseSpec).at F).post enc Go.Proofs.Try.prog Go.Proofs.Try.f3 false true false false) := by
  obtain ⟨places, hx⟩ := reads os enc
  refine returnsInHanded_of_row (C := Go.Proofs.Try.checked) (s := Rows.OpenSpec.upto Rows.fnMakeUpdateMetadataResponseSpec) own started (by kernel_rfl) Go.Proofs.Try.func3
    ⟨World.doorLaid Go.Proofs.Try.prog 400 os, fun _ _ => 0, ⟨#[], #[.int .u8 0, .agg #[.int .i64 0, .slice none 0 0, .bool false, .slice none 0 0, .slice none 0 0]], []⟩, rfl, shaped os _, rfl, (Input.okWide_of_okWideB (by kernel_rfl)).2,
      OpenSpec.preRow_of_cond 8 hx (by kernel_rfl) (fun k hk => by cases hk; kernel_rfl) (by kernel_rfl) (laidMetH_nil _ _), by
        simp only [Assume.holds]
        exact ⟨by simp, by simp, fun _ => Modest.zero, by simp, by simp⟩⟩ ?_
  intro W base args ds gs before hval0 hW _ hcond _ _ _ _
  have hval : ∀ (j : Nat) t v, Go.Proofs.Try.f3.params[j]? = some t → args[j]? = some v → Value.okWide Go.Proofs.Try.prog W .any base t v := hval0
  have hW' := hW
  obtain ⟨p, q, hA0, hV, rfl, hfz, hnd⟩ := hW
  have hA : DataW.TrodAll enc Go.Proofs.Try.prog W 0 (fun _ => true) true Go.Proofs.Try.f3.params.toList args.toList ds p := hA0
  rw [Go.Proofs.Try.params3] at hA hval
  obtain ⟨v0, vs0, d0, ds0, p0, q0, hargs, rfl, rfl, h0, r0⟩ := trodAll_cons hA
  obtain ⟨v1, vs1, d1, ds1, p1, q1, rfl, rfl, rfl, h1, r1⟩ := trodAll_cons r0
  obtain ⟨rfl, rfl, rfl⟩ := trodAll_nil r1
  obtain rfl : args = #[v0, v1] := by cases args; simp_all
  obtain ⟨rfl, rfl⟩ := trodVars_none hV
  obtain ⟨n0, rfl, rfl, rfl, w0⟩ := open_int Go.Proofs.Try.underlying5 (hval 0 5 v0 rfl rfl) h0
  obtain ⟨t, ct, rfl, ht, hwf, hsz⟩ := treeArg_of treeO baseS specT (bulkF H) (hval 1 26 v1 rfl rfl) h1
  have hc := hcond _ rfl
  have hsz2 : szT t ≤ 1048576 := by
    have hc2 : Rows.uptoBulkAll ([.lit (.int .u8 n0), d1] ++ []) ≤ 1048576 := of_decide_eq_true hc
    simp only [List.cons_append, List.nil_append, Rows.uptoBulkAll] at hc2
    omega
  have lt1 : ∀ x ∈ p1, x.block < W.heap.size := by obtain ⟨m, hm⟩ := h1; exact DataW.trod_lt m _ _ _ hm
  have hn0 : 0 ≤ n0 ∧ n0 ≤ 255 := by
    simp [Lit.wf, IntKind.min, IntKind.max, IntKind.signed, IntKind.bits] at w0
    omega
  clear hA0 hval0
  refine Calls.mono (call_lawM baseS fnsS spT implT trF thSZ thSW apC smk smg (by decide) (by decide) (by decide) lawT fd_law (n := n0) hn0 ht hwf hsz2) fun e W' ⟨v', he, hv', hm⟩ => ?_
  subst he hv'
  have bel := hm.below
  exact ⟨_, rfl, _, _, _, [], _, [], hW', trodAll_mk1 (shut_bool Go.Proofs.Try.underlying4 _), trodAll_cons_mk (shut_int Go.Proofs.Try.underlying5 w0) (trodAll_cons_mk (Below.trod laidOut (by kernel_rfl) (of_decide_eq_true (by kernel_rfl)) h1 bel lt1) trodAll_mk0), rfl, bel.frame _, fun h => by cases h⟩

set_option maxHeartbeats 4000000 in
theorem joined : joinedFacts Go.Proofs.Try.prog 3 Go.Proofs.Try.f3 (Rows.OpenSpec.upto Rows.fnMakeUpdateMetadataResponseSpec).bare Rows.fnMakeUpdateMetadataResponseUptoRow = true := by
  unfold joinedFacts
  exact bandT (bandT (bandT (bandT (bandT (bandT (bandT (bandT (bandT (bandT (bandT (bandT (bandT (bandT (bandT (bandT (bandT (bandT (bandT (bandT (bandT (bandT (bandT (bandT (bandT (bandT (bandT (bandT (bandT (bandT (bandT (by as_aux_lemma => kernel_rfl) laidOut) mapsRowedS) (by as_aux_lemma => kernel_rfl)) (by as_aux_lemma => kernel_rfl)) (by as_aux_lemma => kernel_rfl)) (by as_aux_lemma => kernel_rfl)) (by as_aux_lemma => kernel_rfl)) (by as_aux_lemma => kernel_rfl)) (by as_aux_lemma => kernel_rfl)) (by as_aux_lemma => kernel_rfl)) (by as_aux_lemma => kernel_rfl)) (by as_aux_lemma => kernel_rfl)) (by as_aux_lemma => kernel_rfl)) (by as_aux_lemma => kernel_rfl)) (by as_aux_lemma => kernel_rfl)) (by as_aux_lemma => kernel_rfl)) (by as_aux_lemma => kernel_rfl)) (by as_aux_lemma => kernel_rfl)) (by as_aux_lemma => kernel_rfl)) (by as_aux_lemma => kernel_rfl)) (by as_aux_lemma => kernel_rfl)) plainKeysS) (by as_aux_lemma => kernel_rfl)) stopsHeardS) bigEnter) bigLifts) bigMake) (by as_aux_lemma => kernel_rfl)) (by as_aux_lemma => kernel_rfl)) (by as_aux_lemma => kernel_rfl)) (by as_aux_lemma => kernel_rfl)
theorem named : Go.Proofs.Try.prog.funcNamed Rows.fnMakeUpdateMetadataResponseUptoRow.func = some 3 := by kernel_rfl
theorem isInst : Go.Proofs.Try.f3.isInstance Go.Proofs.Try.prog Rows.fnMakeUpdateMetadataResponseUptoRow.origin Rows.fnMakeUpdateMetadataResponseUptoRow.targs := of_decide_eq_true (by kernel_rfl)
theorem isWrap : Go.Proofs.Try.f3.isWrapper Go.Proofs.Try.prog Rows.fnMakeUpdateMetadataResponseUptoRow.wrapper Rows.fnMakeUpdateMetadataResponseUptoRow.mainSum := by unfold Func.isWrapper; first | (rw [if_pos (by decide +kernel)]; kernel_rfl) | (rw [if_neg (by decide +kernel)]; exact ⟨rfl, rfl⟩)
theorem row : Rows.FnMakeUpdateMetadataResponseUptoSaid :=
  OpenClaim.holds_of_cond 3 Go.Proofs.Try.f3 rfl rfl rfl rfl rfl rfl rfl ⟨rfl, rfl, rfl, rfl, rfl⟩ rfl rfl rfl rfl rfl named Go.Proofs.Try.func3 joined
    isInst isWrap
    (fun os started H enc _ F => by rw [OpenClaim.pre_eq_preRow]; exact lifted os started H enc F)
#print axioms row
end Go.Proofs.Ytlildailoffclaa.fnMakeUpdateMetadataResponse
namespace Go.Proofs.Ytlildailoffclaa
theorem fnMakeUpdateMetadataResponse_holds : Rows.FnMakeUpdateMetadataResponseUptoSaid := fnMakeUpdateMetadataResponse.row
end Go.Proofs.Ytlildailoffclaa
