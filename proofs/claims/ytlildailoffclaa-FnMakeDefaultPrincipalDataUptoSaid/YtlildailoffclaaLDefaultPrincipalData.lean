/- A message that is set out of a tree is written as the reference writes that tree (laws.FnMakeDefaultPrincipalData): the statement's second form is proved, at every version number and every tree whose bulk is at most 1048576; no other condition. -/
import Derived.Test.YtlildailoffclaaKs
set_option linter.unusedSimpArgs false
set_option linter.unusedVariables false
set_option maxRecDepth 100000
namespace Go.Kf
open Go
def mfS : TypeId → FuncId := fun t => 0

def mS : Msg := ⟨69, 67, 188, 0, true, .cons .all (.txt .str) (.cons .all (.txt .str) (.cons .all (.pr .bool none) (.tags)))⟩
def dS : MkN where
  fillI := 48
  app := 49
  mkI := 20
theorem fd_app : FOk Go.Proofs.Try.prog 49 2 (mS.appCV NS AN) [.var 2] := ⟨Go.Proofs.Try.f49, _, [0, 1, 4, 5, 6, 7, 8, 30, 9, 41, 10, 55], Go.Proofs.Try.func49, rfl, by kernel_rfl, by kernel_rfl, by decide, by kernel_rfl, by kernel_rfl⟩
theorem fd_fill : FOk Go.Proofs.Try.prog 48 2 (mS.fillC NS LN mfS) [] := ⟨Go.Proofs.Try.f48, _, [0, 1, 3, 29, 30, 31, 32, 5], Go.Proofs.Try.func48, rfl, by kernel_rfl, by kernel_rfl, by decide, by kernel_rfl, by kernel_rfl⟩
theorem fd_door : FOk Go.Proofs.Try.prog 20 2 (c_doorMV NS mS.tT mS.pT 48 49) [.var 3] := ⟨Go.Proofs.Try.f20, _, [0, 1, 3, 4, 5], Go.Proofs.Try.func20, rfl, by kernel_rfl, by kernel_rfl, by decide, by kernel_rfl, by kernel_rfl⟩
theorem fd_kept : FOk Go.Proofs.Try.prog 21 3 (c_Kept NS MS) [.var 5] := ⟨Go.Proofs.Try.f21, _, [0, 1, 2, 3, 5, 6], Go.Proofs.Try.func21, rfl, by kernel_rfl, by kernel_rfl, by decide, by kernel_rfl, by kernel_rfl⟩
theorem aokS : mS.fs.aok Go.Proofs.Try.prog NS AN := ⟨⟨by decide, by decide, fun h => nomatch h⟩, ⟨⟨by decide, by decide, fun h => nomatch h⟩, ⟨⟨by decide, ⟨(fun h => nomatch h), fun h => absurd h (by decide)⟩⟩, trivial⟩⟩⟩
theorem fokS : mS.fs.fok Go.Proofs.Try.prog NS LN mfS .fill := ⟨⟨.inl rfl, (fun h => nomatch h)⟩, ⟨⟨.inl rfl, (fun h => nomatch h)⟩, ⟨⟨(fun h => nomatch h), ⟨(fun h => nomatch h), fun h => absurd h (by decide)⟩, rfl⟩, trivial⟩⟩⟩
theorem door : MkDV Go.Proofs.Try.prog NS MS AN LN mfS mS dS := ⟨⟨[(1, 1), (2, 1), (3, 1), (4, 1)], bytesOf Go.Proofs.Try.prog 69, sfB_ok (by kernel_rfl)⟩, one_of (by kernel_rfl), Fds.hfBs_ok (by kernel_rfl), zuy (by kernel_rfl), fd_fill, fokS, by decide, fd_app, aokS, fd_door⟩

def sc_DefaultPrincipalData : List SC := [.mk [(0, 8), (2, -1), (3, -1), (4, -1)] none [], .mk [(0, 8), (2, -1), (3, -1), (4, -1)] none [], .mk [(0, 0), (2, -1), (3, -1), (4, -1)] none []]
theorem fsc_DefaultPrincipalData : FOk Go.Proofs.Try.prog 19 0 (c_msg MS sc_DefaultPrincipalData (0)) [.cell 0 MS.zac] := ⟨Go.Proofs.Try.f19, _, [0], Go.Proofs.Try.func19, rfl, by kernel_rfl, by kernel_rfl, by decide, by kernel_rfl, by kernel_rfl⟩
theorem lawT : LawMV Go.Proofs.Try.prog NS MS AN LN mfS mS dS 19 21 sc_DefaultPrincipalData (0) := ⟨door, fd_kept, fsc_DefaultPrincipalData, by kernel_rfl, ⟨rfl, ⟨rfl, ⟨rfl, trivial⟩⟩⟩, by kernel_rfl, by kernel_rfl, by kernel_rfl⟩
theorem fd_law : FOk Go.Proofs.Try.prog 4 2 (c_lawMV NS MS LN dS.mkI 19 21) [.var 3] := ⟨Go.Proofs.Try.f4, _, [0, 1, 3, 4, 9, 5, 6], Go.Proofs.Try.func4, rfl, by kernel_rfl, by kernel_rfl, by decide, by kernel_rfl, by kernel_rfl⟩
end Go.Kf

namespace Go.Proofs.Ytlildailoffclaa.fnMakeDefaultPrincipalData
open Go.ChangeShapes Go.WideShapes Go.ChangeAt Go.RowKit Go.Kf

theorem reads (os : Os) {H : Type} (enc : TypeId × Value → H) : ∃ places, DataW.whole enc Go.Proofs.Try.prog ((World.doorLaid Go.Proofs.Try.prog 400 os).forCall (fun _ _ => 0) ⟨#[], #[.int .u8 0, .agg #[.int .i64 0, .slice none 0 0, .bool false, .slice none 0 0, .slice none 0 0]], []⟩).memory Go.Proofs.Try.f4.params.toList Rows.fnMakeDefaultPrincipalDataSpec.vars false #[Value.int .u8 0, .agg #[.int .i64 0, .slice none 0 0, .bool false, .slice none 0 0, .slice none 0 0]].toList 8 = some ([.lit (.int .u8 0), .agg [.lit (.int .i64 0), .nil, .lit (.bool false), .nil, .nil]], [], places) :=
  ⟨[], by kernel_rfl⟩
set_option maxHeartbeats 4000000 in
theorem lifted (os : Os) (started : os.Started) (H : Type) (enc : TypeId × Value → H) (F : Stop.Interp) :
    ReturnsInHanded {} Go.Proofs.Try.checked os 4 .any ((Rows.OpenSpec.upto Rows.fnMakeDefaultPrincipalDataSpec).preRow enc Go.Proofs.Try.prog Go.Proofs.Try.f4 Rows.fnMakeDefaultPrincipalDataUptoRow.domain false Rows.fnMakeDefaultPrincipalDataUptoRow.laid) (((Rows.OpenSpec.upto Rows.fnMakeDefaultPrincipalDataSpec).at F).post enc Go.Proofs.Try.prog Go.Proofs.Try.f4 false true false false) := by
  obtain ⟨places, hx⟩ := reads os enc
  refine returnsInHanded_of_row (C := Go.Proofs.Try.checked) (s := Rows.OpenSpec.upto Rows.fnMakeDefaultPrincipalDataSpec) own started (by kernel_rfl) Go.Proofs.Try.func4
    ⟨World.doorLaid Go.Proofs.Try.prog 400 os, fun _ _ => 0, ⟨#[], #[.int .u8 0, .agg #[.int .i64 0, .slice none 0 0, .bool false, .slice none 0 0, .slice none 0 0]], []⟩, rfl, shaped os _, rfl, (Input.okWide_of_okWideB (by kernel_rfl)).2,
      OpenSpec.preRow_of_cond 8 hx (by kernel_rfl) (fun k hk => by cases hk; kernel_rfl) (by kernel_rfl) (laidMetH_nil _ _), by
        simp only [Assume.holds]
        exact ⟨by simp, by simp, fun _ => Modest.zero, by simp, by simp⟩⟩ ?_
  intro W base args ds gs before hval0 hW _ hcond _ _ _ _
  have hval : ∀ (j : Nat) t v, Go.Proofs.Try.f4.params[j]? = some t → args[j]? = some v → Value.okWide Go.Proofs.Try.prog W .any base t v := hval0
  have hW' := hW
  obtain ⟨p, q, hA0, hV, rfl, hfz, hnd⟩ := hW
  have hA : DataW.TrodAll enc Go.Proofs.Try.prog W 0 (fun _ => true) true Go.Proofs.Try.f4.params.toList args.toList ds p := hA0
  rw [Go.Proofs.Try.params4] at hA hval
  obtain ⟨v0, vs0, d0, ds0, p0, q0, hargs, rfl, rfl, h0, r0⟩ := trodAll_cons hA
  obtain ⟨v1, vs1, d1, ds1, p1, q1, rfl, rfl, rfl, h1, r1⟩ := trodAll_cons r0
  obtain ⟨rfl, rfl, rfl⟩ := trodAll_nil r1
  obtain rfl : args = #[v0, v1] := by cases args; simp_all
  obtain ⟨rfl, rfl⟩ := trodVars_none hV
  obtain ⟨n0, rfl, rfl, rfl, w0⟩ := open_int Go.Proofs.Try.underlying5 (hval 0 5 v0 rfl rfl) h0
  obtain ⟨t, ct, rfl, ht, hwf, hsz⟩ := treeArg_of treeO baseS specT (bulkF H) (hval 1 26 v1 rfl rfl) h1
  have hc := hcond _ rfl
  have hsz2 : szT t ≤ 1048576 := by
    have hc2 : Rows.uptoBulkAll ([.lit (.int .u8 n0), d1] ++ []) ≤ 1048576 := of_decide_eq_true hc
    simp only [List.cons_append, List.nil_append, Rows.uptoBulkAll] at hc2
    omega
  have lt1 : ∀ x ∈ p1, x.block < W.heap.size := by obtain ⟨m, hm⟩ := h1; exact DataW.trod_lt m _ _ _ hm
  have hn0 : 0 ≤ n0 ∧ n0 ≤ 255 := by
    simp [Lit.wf, IntKind.min, IntKind.max, IntKind.signed, IntKind.bits] at w0
    omega
  clear hA0 hval0
  refine Calls.mono (call_lawMV baseS fnsS spT implT trF thSZ thSW apC smk smg (by decide) (by decide) lawT fd_law (n := n0) hn0 ht hwf hsz2) fun e W' ⟨v', he, hv', hm⟩ => ?_
  subst he hv'
  have bel := hm.below
  exact ⟨_, rfl, _, _, _, [], _, [], hW', trodAll_mk1 (shut_bool Go.Proofs.Try.underlying4 _), trodAll_cons_mk (shut_int Go.Proofs.Try.underlying5 w0) (trodAll_cons_mk (Below.trod laidOut (by kernel_rfl) (of_decide_eq_true (by kernel_rfl)) h1 bel lt1) trodAll_mk0), rfl, bel.frame _, fun h => by cases h⟩

set_option maxHeartbeats 4000000 in
theorem joined : joinedFacts Go.Proofs.Try.prog 4 Go.Proofs.Try.f4 (Rows.OpenSpec.upto Rows.fnMakeDefaultPrincipalDataSpec).bare Rows.fnMakeDefaultPrincipalDataUptoRow = true := by
  unfold joinedFacts
  exact bandT (bandT (bandT (bandT (bandT (bandT (bandT (bandT (bandT (bandT (bandT (bandT (bandT (bandT (bandT (bandT (bandT (bandT (bandT (bandT (bandT (bandT (bandT (bandT (bandT (bandT (bandT (bandT (bandT (bandT (bandT (by as_aux_lemma => kernel_rfl) laidOut) mapsRowedS) (by as_aux_lemma => kernel_rfl)) (by as_aux_lemma => kernel_rfl)) (by as_aux_lemma => kernel_rfl)) (by as_aux_lemma => kernel_rfl)) (by as_aux_lemma => kernel_rfl)) (by as_aux_lemma => kernel_rfl)) (by as_aux_lemma => kernel_rfl)) (by as_aux_lemma => kernel_rfl)) (by as_aux_lemma => kernel_rfl)) (by as_aux_lemma => kernel_rfl)) (by as_aux_lemma => kernel_rfl)) (by as_aux_lemma => kernel_rfl)) (by as_aux_lemma => kernel_rfl)) (by as_aux_lemma => kernel_rfl)) (by as_aux_lemma => kernel_rfl)) (by as_aux_lemma => kernel_rfl)) (by as_aux_lemma => kernel_rfl)) (by as_aux_lemma => kernel_rfl)) (by as_aux_lemma => kernel_rfl)) plainKeysS) (by as_aux_lemma => kernel_rfl)) stopsHeardS) bigEnter) bigLifts) bigMake) (by as_aux_lemma => kernel_rfl)) (by as_aux_lemma => kernel_rfl)) (by as_aux_lemma => kernel_rfl)) (by as_aux_lemma => kernel_rfl)
theorem named : Go.Proofs.Try.prog.funcNamed Rows.fnMakeDefaultPrincipalDataUptoRow.func = some 4 := by kernel_rfl
theorem isInst : Go.Proofs.Try.f4.isInstance Go.Proofs.Try.prog Rows.fnMakeDefaultPrincipalDataUptoRow.origin Rows.fnMakeDefaultPrincipalDataUptoRow.targs := of_decide_eq_true (by kernel_rfl)
theorem isWrap : Go.Proofs.Try.f4.isWrapper Go.Proofs.Try.prog Rows.fnMakeDefaultPrincipalDataUptoRow.wrapper Rows.fnMakeDefaultPrincipalDataUptoRow.mainSum := by unfold Func.isWrapper; first | (rw [if_pos (by decide +kernel)]; kernel_rfl) | (rw [if_neg (by decide +kernel)]; exact ⟨rfl, rfl⟩)
theorem row : Rows.FnMakeDefaultPrincipalDataUptoSaid :=
  OpenClaim.holds_of_cond 4 Go.Proofs.Try.f4 rfl rfl rfl rfl rfl rfl rfl ⟨rfl, rfl, rfl, rfl, rfl⟩ rfl rfl rfl rfl rfl named Go.Proofs.Try.func4 joined
    isInst isWrap
    (fun os started H enc _ F => by rw [OpenClaim.pre_eq_preRow]; exact lifted os started H enc F)
#print axioms row
end Go.Proofs.Ytlildailoffclaa.fnMakeDefaultPrincipalData
namespace Go.Proofs.Ytlildailoffclaa
theorem fnMakeDefaultPrincipalData_holds : Rows.FnMakeDefaultPrincipalDataUptoSaid := fnMakeDefaultPrincipalData.row
end Go.Proofs.Ytlildailoffclaa
