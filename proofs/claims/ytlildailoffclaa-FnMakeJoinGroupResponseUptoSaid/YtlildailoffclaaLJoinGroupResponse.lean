/- A message that is set out of a tree is written as the reference writes that tree (laws.FnMakeJoinGroupResponse): the statement's second form is proved, at every version number and every tree whose bulk is at most 1048576; no other condition. -/
import Derived.Test.YtlildailoffclaaKs
set_option linter.unusedSimpArgs false
set_option linter.unusedVariables false
set_option maxRecDepth 100000
namespace Go.Kf
open Go

def rJoinGroupResponseMember : Fds := .cons .all (.txt .str) (.cons (.ge 5) (.txt .nstr) (.cons .all (.txt .byt) (.tags)))
def mfS : TypeId → FuncId := fun t => bif Nat.beq t 161 then 121 else 0
theorem fmk_JoinGroupResponseMember : FOk Go.Proofs.Try.prog 121 1 (rJoinGroupResponseMember.mkC NS LN mfS 161) [.cell 2 161] := ⟨Go.Proofs.Try.f121, _, [0, 1, 2, 3, 20, 21, 22, 23, 5], Go.Proofs.Try.func121, rfl, by kernel_rfl, by kernel_rfl, by decide, by kernel_rfl, by kernel_rfl⟩
theorem hf_JoinGroupResponseMember : rJoinGroupResponseMember.hf Go.Proofs.Try.prog 161 0 0 := Fds.hfBs_ok (by kernel_rfl)
theorem aok_JoinGroupResponseMember : rJoinGroupResponseMember.aok Go.Proofs.Try.prog NS AN := ⟨⟨by decide, by decide, fun h => nomatch h⟩, ⟨⟨by decide, by decide, fun _ => by decide⟩, ⟨⟨by decide, by decide, fun h => nomatch h⟩, trivial⟩⟩⟩
theorem fok_JoinGroupResponseMember : rJoinGroupResponseMember.fok Go.Proofs.Try.prog NS LN mfS .mk := ⟨⟨.inl rfl, (fun h => nomatch h)⟩, ⟨⟨.inr (.inl ⟨rfl, by decide⟩), fun _ => by decide⟩, ⟨⟨.inr (.inr ⟨rfl, by decide⟩), (fun h => nomatch h)⟩, trivial⟩⟩⟩
theorem mkr_JoinGroupResponseMember : MkRow Go.Proofs.Try.prog 121 rJoinGroupResponseMember := by
  obtain ⟨fs, h⟩ := tsB_ok (P := Go.Proofs.Try.prog) (t := 161) (sz := rJoinGroupResponseMember.sz) (by' := bytesOf Go.Proofs.Try.prog 161) (z := .agg rJoinGroupResponseMember.zero.toArray) (by kernel_rfl)
  exact mkRow_of baseS fnsS spT implT trF smg fok_JoinGroupResponseMember fmk_JoinGroupResponseMember h hf_JoinGroupResponseMember (one_of (by kernel_rfl))

def mS : Msg := ⟨103, 99, 120, 6, false, .cons (.ge 2) (.pr .i32 none) (.cons .all (.pr .i16 none) (.cons .all (.pr .i32 (some (.int .i32 (-1)))) (.cons (.ge 7) (.txt .nstr) (.cons .all (.tv (7)) (.cons .all (.txt .str) (.cons (.ge 9) (.pr .bool none) (.cons .all (.txt .str) (.cons .all (.arr 101 none (.row 161 163 197 (.cons .all (.txt .str) (.cons (.ge 5) (.txt .nstr) (.cons .all (.txt .byt) (.tags)))))) (.tags)))))))))⟩
def dS : MkN where
  newP := 75
  setV := 78
  maxV := 76
  maxI := 34
  fillI := 79
  app := 80
  mkI := 36
theorem df_m : FOk Go.Proofs.Try.prog 120 1 (seqs (mS.fs.dfl NS mS.tT 1)) [] := ⟨Go.Proofs.Try.f120, _, [0], Go.Proofs.Try.func120, rfl, by kernel_rfl, by kernel_rfl, by decide, by kernel_rfl, by kernel_rfl⟩
theorem fd_new : FOk Go.Proofs.Try.prog 75 0 (c_new NS mS.tT mS.dflt) [.var 0] := ⟨Go.Proofs.Try.f75, _, [0, 1], Go.Proofs.Try.func75, rfl, by kernel_rfl, by kernel_rfl, by decide, by kernel_rfl, by kernel_rfl⟩
theorem fd_set : FOk Go.Proofs.Try.prog 78 2 (c_set NS mS.tT) [] := ⟨Go.Proofs.Try.f78, _, [0, 1], Go.Proofs.Try.func78, rfl, by kernel_rfl, by kernel_rfl, by decide, by kernel_rfl, by kernel_rfl⟩
theorem fd_mv : FOk Go.Proofs.Try.prog 76 1 (c_max 9) [.var 1] := ⟨Go.Proofs.Try.f76, _, [0, 2], Go.Proofs.Try.func76, rfl, by kernel_rfl, by kernel_rfl, by decide, by kernel_rfl, by kernel_rfl⟩
theorem fd_mi : FOk Go.Proofs.Try.prog 34 0 (c_maxI NS mS.pT 75 76) [.var 0] := ⟨Go.Proofs.Try.f34, _, [0], Go.Proofs.Try.func34, rfl, by kernel_rfl, by kernel_rfl, by decide, by kernel_rfl, by kernel_rfl⟩
theorem fd_app : FOk Go.Proofs.Try.prog 80 2 (mS.appC NS AN) [.var 2] := ⟨Go.Proofs.Try.f80, _, [0, 1, 4, 5, 6, 32, 7, 8, 9, 55, 10, 60, 11, 72, 12, 74, 13, 79, 86, 14, 97, 105, 15, 16, 117, 17, 128, 138, 139, 140, 18, 19, 20, 149, 157, 21, 162, 22, 173, 180, 195], Go.Proofs.Try.func80, rfl, by kernel_rfl, by kernel_rfl, by decide, by kernel_rfl, by kernel_rfl⟩
theorem fd_fill : FOk Go.Proofs.Try.prog 79 2 (mS.fillC NS LN mfS) [] := ⟨Go.Proofs.Try.f79, _, [0, 1, 3, 66, 77, 78, 79, 80, 5, 96, 97, 98, 99, 7], Go.Proofs.Try.func79, rfl, by kernel_rfl, by kernel_rfl, by decide, by kernel_rfl, by kernel_rfl⟩
theorem fd_door : FOk Go.Proofs.Try.prog 36 2 (c_doorM NS mS.tT mS.pT 78 79 80) [.var 3] := ⟨Go.Proofs.Try.f36, _, [0, 1, 3, 4, 5], Go.Proofs.Try.func36, rfl, by kernel_rfl, by kernel_rfl, by decide, by kernel_rfl, by kernel_rfl⟩
theorem aokS : mS.fs.aok Go.Proofs.Try.prog NS AN := ⟨⟨by decide, ⟨(fun h => nomatch h), fun h => absurd h (by decide)⟩⟩, ⟨⟨by decide, ⟨(fun h => nomatch h), fun h => absurd h (by decide)⟩⟩, ⟨⟨by decide, ⟨(fun h => nomatch h), fun h => absurd h (by decide)⟩⟩, ⟨⟨by decide, by decide, fun _ => by decide⟩, ⟨⟨⟨by decide, by decide⟩, by decide, by decide, by decide⟩, ⟨⟨by decide, by decide, fun h => nomatch h⟩, ⟨⟨by decide, ⟨(fun h => nomatch h), fun h => absurd h (by decide)⟩⟩, ⟨⟨by decide, by decide, fun h => nomatch h⟩, ⟨⟨zin (by kernel_rfl), (tsB_ok (P := Go.Proofs.Try.prog) (t := 161) (sz := rJoinGroupResponseMember.sz) (by' := bytesOf Go.Proofs.Try.prog 161) (z := .agg rJoinGroupResponseMember.zero.toArray) (by kernel_rfl)).elim fun _ h => ⟨_, _, _, h⟩, ⟨by decide, by decide⟩, ⟨hf_JoinGroupResponseMember, aok_JoinGroupResponseMember⟩⟩, trivial⟩⟩⟩⟩⟩⟩⟩⟩⟩
theorem fokS : mS.fs.fok Go.Proofs.Try.prog NS LN mfS .fill := ⟨⟨(fun h => nomatch h), ⟨(fun h => nomatch h), fun h => absurd h (by decide)⟩, rfl⟩, ⟨⟨(fun h => nomatch h), ⟨(fun h => nomatch h), fun h => absurd h (by decide)⟩, rfl⟩, ⟨⟨(fun h => nomatch h), ⟨(fun h => nomatch h), fun h => absurd h (by decide)⟩, rfl⟩, ⟨⟨.inr (.inl ⟨rfl, by decide⟩), fun _ => by decide⟩, ⟨⟨by decide, by decide⟩, ⟨⟨.inl rfl, (fun h => nomatch h)⟩, ⟨⟨(fun h => nomatch h), ⟨(fun h => nomatch h), fun h => absurd h (by decide)⟩, rfl⟩, ⟨⟨.inl rfl, (fun h => nomatch h)⟩, ⟨⟨zin (by kernel_rfl), (tsB_ok (P := Go.Proofs.Try.prog) (t := 161) (sz := rJoinGroupResponseMember.sz) (by' := bytesOf Go.Proofs.Try.prog 161) (z := .agg rJoinGroupResponseMember.zero.toArray) (by kernel_rfl)).elim fun _ h => ⟨_, _, _, h, by kernel_rfl, of_decide_eq_true (by kernel_rfl)⟩, of_decide_eq_true (by kernel_rfl), of_decide_eq_true (by kernel_rfl), ⟨fmk_JoinGroupResponseMember.has, mkr_JoinGroupResponseMember⟩⟩, trivial⟩⟩⟩⟩⟩⟩⟩⟩⟩
theorem door : MkD Go.Proofs.Try.prog NS MS AN LN mfS mS dS := ⟨⟨[(0, 1), (1, 1), (2, 1), (3, 1), (4, 1), (5, 1), (6, 1), (7, 1), (8, 1), (9, 1), (10, 1)], bytesOf Go.Proofs.Try.prog 103, sfB_ok (by kernel_rfl)⟩, one_of (by kernel_rfl), Fds.hfBs_ok (by kernel_rfl), zvm (by kernel_rfl), ⟨⟨rfl, ⟨(fun h => nomatch h), fun h => absurd h (by decide)⟩⟩, rfl, trivial⟩, df_m, fd_new, fd_set, fd_fill, fokS, fd_app, aokS, fd_door⟩

def sc_sJoinGroupResponseMember : List SC := [.mk [(0, 8), (2, -1), (3, -1), (4, -1)] none [], .mk [(0, 8), (1, 5), (2, -1), (3, 5), (4, -1)] none [], .mk [(0, 9), (2, -1), (3, -1), (4, -1)] none []]
theorem fsc_sJoinGroupResponseMember : FOk Go.Proofs.Try.prog 77 0 (c_flds MS sc_sJoinGroupResponseMember) [.var 0] := ⟨Go.Proofs.Try.f77, _, [0], Go.Proofs.Try.func77, rfl, by kernel_rfl, by kernel_rfl, by decide, by kernel_rfl, by kernel_rfl⟩
theorem mk_sJoinGroupResponseMember : MkOk Go.Proofs.Try.prog 77 (SC.flds sc_sJoinGroupResponseMember) := mk_flds (l := sc_sJoinGroupResponseMember) spT (by kernel_rfl) ⟨rfl, ⟨rfl, ⟨rfl, trivial⟩⟩⟩ fsc_sJoinGroupResponseMember

def sc_JoinGroupResponse : List SC := [.mk [(0, 3), (1, 2), (2, -1), (3, -1), (4, -1)] none [], .mk [(0, 2), (2, -1), (3, -1), (4, -1)] none [], .mk [(0, 3), (2, -1), (3, -1), (4, -1), (5, -1)] none [], .mk [(0, 8), (1, 7), (2, -1), (3, 7), (4, -1)] none [], .mk [(0, 8), (2, -1), (3, 7), (4, -1)] none [], .mk [(0, 8), (2, -1), (3, -1), (4, -1)] none [], .mk [(0, 0), (1, 9), (2, -1), (3, -1), (4, -1)] none [], .mk [(0, 8), (2, -1), (3, -1), (4, -1)] none [], .mk [(0, 11), (2, -1), (3, -1), (4, -1), (6, 10)] (some 77) sc_sJoinGroupResponseMember]
theorem fsc_JoinGroupResponse : FOk Go.Proofs.Try.prog 35 0 (c_msg MS sc_JoinGroupResponse (6)) [.cell 0 MS.zac] := ⟨Go.Proofs.Try.f35, _, [0], Go.Proofs.Try.func35, rfl, by kernel_rfl, by kernel_rfl, by decide, by kernel_rfl, by kernel_rfl⟩
theorem lawT : LawMM Go.Proofs.Try.prog NS MS AN LN mfS mS dS 9 35 sc_JoinGroupResponse (6) := ⟨door, fd_mv, fd_mi, by decide, by decide, by decide, fsc_JoinGroupResponse, by kernel_rfl, ⟨rfl, ⟨rfl, ⟨rfl, ⟨rfl, ⟨rfl, ⟨rfl, ⟨rfl, ⟨rfl, ⟨⟨mk_sJoinGroupResponseMember, fsc_sJoinGroupResponseMember.has⟩, trivial⟩⟩⟩⟩⟩⟩⟩⟩⟩, by kernel_rfl, by kernel_rfl, by kernel_rfl⟩
theorem fd_law : FOk Go.Proofs.Try.prog 9 2 (c_lawM NS MS LN dS.maxI dS.mkI 35) [.var 3] := ⟨Go.Proofs.Try.f9, _, [0, 1, 3, 4, 10, 5, 13, 6, 7], Go.Proofs.Try.func9, rfl, by kernel_rfl, by kernel_rfl, by decide, by kernel_rfl, by kernel_rfl⟩
end Go.Kf

namespace Go.Proofs.Ytlildailoffclaa.fnMakeJoinGroupResponse
open Go.ChangeShapes Go.WideShapes Go.ChangeAt Go.RowKit Go.Kf

theorem reads (os : Os) {H : Type} (enc : TypeId × Value → H) : ∃ places, DataW.whole enc Go.Proofs.Try.prog ((World.doorLaid Go.Proofs.Try.prog 400 os).forCall (fun _ _ => 0) ⟨#[], #[.int .u8 0, .agg #[.int .i64 0, .slice none 0 0, .bool false, .slice none 0 0, .slice none 0 0]], []⟩).memory Go.Proofs.Try.f9.params.toList Rows.fnMakeJoinGroupResponseSpec.vars false #[Value.int .u8 0, .agg #[.int .i64 0, .slice none 0 0, .bool false, .slice none 0 0, .slice none 0 0]].toList 8 = some ([.lit (.int .u8 0), .agg [.lit (.int .i64 0), .nil, .lit (.bool false), .nil, .nil]], [], places) :=
  ⟨[], by kernel_rfl⟩
set_option maxHeartbeats 4000000 in
theorem lifted (os : Os) (started : os.Started) (H : Type) (enc : TypeId × Value → H) (F : Stop.Interp) :
    ReturnsInHanded {} Go.Proofs.Try.checked os 9 .any ((Rows.OpenSpec.upto Rows.fnMakeJoinGroupResponseSpec).preRow enc Go.Proofs.Try.prog Go.Proofs.Try.f9 Rows.fnMakeJoinGroupResponseUptoRow.domain false Rows.fnMakeJoinGroupResponseUptoRow.laid) (((Rows.OpenSpec.upto Rows.fnMakeJoinGroupResponseSpec).at F).post enc Go.Proofs.Try.prog Go.Proofs.Try.f9 false true false false) := by
  obtain ⟨places, hx⟩ := reads os enc
  refine returnsInHanded_of_row (C := Go.Proofs.Try.checked) (s := Rows.OpenSpec.upto Rows.fnMakeJoinGroupResponseSpec) own started (by kernel_rfl) Go.Proofs.Try.func9
    ⟨World.doorLaid Go.Proofs.Try.prog 400 os, fun _ _ => 0, ⟨#[], #[.int .u8 0, .agg #[.int .i64 0, .slice none 0 0, .bool false, .slice none 0 0, .slice none 0 0]], []⟩, rfl, shaped os _, rfl, (Input.okWide_of_okWideB (by kernel_rfl)).2,
      OpenSpec.preRow_of_cond 8 hx (by kernel_rfl) (fun k hk => by cases hk; kernel_rfl) (by kernel_rfl) (laidMetH_nil _ _), by
        simp only [Assume.holds]
        exact ⟨by simp, by simp, fun _ => Modest.zero, by simp, by simp⟩⟩ ?_
  intro W base args ds gs before hval0 hW _ hcond _ _ _ _
  have hval : ∀ (j : Nat) t v, Go.Proofs.Try.f9.params[j]? = some t → args[j]? = some v → Value.okWide Go.Proofs.Try.prog W .any base t v := hval0
  have hW' := hW
  obtain ⟨p, q, hA0, hV, rfl, hfz, hnd⟩ := hW
  have hA : DataW.TrodAll enc Go.Proofs.Try.prog W 0 (fun _ => true) true Go.Proofs.Try.f9.params.toList args.toList ds p := hA0
  rw [Go.Proofs.Try.params9] at hA hval
  obtain ⟨v0, vs0, d0, ds0, p0, q0, hargs, rfl, rfl, h0, r0⟩ := trodAll_cons hA
  obtain ⟨v1, vs1, d1, ds1, p1, q1, rfl, rfl, rfl, h1, r1⟩ := trodAll_cons r0
  obtain ⟨rfl, rfl, rfl⟩ := trodAll_nil r1
  obtain rfl : args = #[v0, v1] := by cases args; simp_all
  obtain ⟨rfl, rfl⟩ := trodVars_none hV
  obtain ⟨n0, rfl, rfl, rfl, w0⟩ := open_int Go.Proofs.Try.underlying5 (hval 0 5 v0 rfl rfl) h0
  obtain ⟨t, ct, rfl, ht, hwf, hsz⟩ := treeArg_of treeO baseS specT (bulkF H) (hval 1 26 v1 rfl rfl) h1
  have hc := hcond _ rfl
  have hsz2 : szT t ≤ 1048576 := by
    have hc2 : Rows.uptoBulkAll ([.lit (.int .u8 n0), d1] ++ []) ≤ 1048576 := of_decide_eq_true hc
    simp only [List.cons_append, List.nil_append, Rows.uptoBulkAll] at hc2
    omega
  have lt1 : ∀ x ∈ p1, x.block < W.heap.size := by obtain ⟨m, hm⟩ := h1; exact DataW.trod_lt m _ _ _ hm
  have hn0 : 0 ≤ n0 ∧ n0 ≤ 255 := by
    simp [Lit.wf, IntKind.min, IntKind.max, IntKind.signed, IntKind.bits] at w0
    omega
  clear hA0 hval0
  refine Calls.mono (call_lawM baseS fnsS spT implT trF thSZ thSW apC smk smg (by decide) (by decide) (by decide) lawT fd_law (n := n0) hn0 ht hwf hsz2) fun e W' ⟨v', he, hv', hm⟩ => ?_
  subst he hv'
  have bel := hm.below
  exact ⟨_, rfl, _, _, _, [], _, [], hW', trodAll_mk1 (shut_bool Go.Proofs.Try.underlying4 _), trodAll_cons_mk (shut_int Go.Proofs.Try.underlying5 w0) (trodAll_cons_mk (Below.trod laidOut (by kernel_rfl) (of_decide_eq_true (by kernel_rfl)) h1 bel lt1) trodAll_mk0), rfl, bel.frame _, fun h => by cases h⟩

set_option maxHeartbeats 4000000 in
theorem joined : joinedFacts Go.Proofs.Try.prog 9 Go.Proofs.Try.f9 (Rows.OpenSpec.upto Rows.fnMakeJoinGroupResponseSpec).bare Rows.fnMakeJoinGroupResponseUptoRow = true := by
  unfold joinedFacts
  exact bandT (bandT (bandT (bandT (bandT (bandT (bandT (bandT (bandT (bandT (bandT (bandT (bandT (bandT (bandT (bandT (bandT (bandT (bandT (bandT (bandT (bandT (bandT (bandT (bandT (bandT (bandT (bandT (bandT (bandT (bandT (by as_aux_lemma => kernel_rfl) laidOut) mapsRowedS) (by as_aux_lemma => kernel_rfl)) (by as_aux_lemma => kernel_rfl)) (by as_aux_lemma => kernel_rfl)) (by as_aux_lemma => kernel_rfl)) (by as_aux_lemma => kernel_rfl)) (by as_aux_lemma => kernel_rfl)) (by as_aux_lemma => kernel_rfl)) (by as_aux_lemma => kernel_rfl)) (by as_aux_lemma => kernel_rfl)) (by as_aux_lemma => kernel_rfl)) (by as_aux_lemma => kernel_rfl)) (by as_aux_lemma => kernel_rfl)) (by as_aux_lemma => kernel_rfl)) (by as_aux_lemma => kernel_rfl)) (by as_aux_lemma => kernel_rfl)) (by as_aux_lemma => kernel_rfl)) (by as_aux_lemma => kernel_rfl)) (by as_aux_lemma => kernel_rfl)) (by as_aux_lemma => kernel_rfl)) plainKeysS) (by as_aux_lemma => kernel_rfl)) stopsHeardS) bigEnter) bigLifts) bigMake) (by as_aux_lemma => kernel_rfl)) (by as_aux_lemma => kernel_rfl)) (by as_aux_lemma => kernel_rfl)) (by as_aux_lemma => kernel_rfl)
theorem named : Go.Proofs.Try.prog.funcNamed Rows.fnMakeJoinGroupResponseUptoRow.func = some 9 := by kernel_rfl
theorem isInst : Go.Proofs.Try.f9.isInstance Go.Proofs.Try.prog Rows.fnMakeJoinGroupResponseUptoRow.origin Rows.fnMakeJoinGroupResponseUptoRow.targs := of_decide_eq_true (by kernel_rfl)
theorem isWrap : Go.Proofs.Try.f9.isWrapper Go.Proofs.Try.prog Rows.fnMakeJoinGroupResponseUptoRow.wrapper Rows.fnMakeJoinGroupResponseUptoRow.mainSum := by unfold Func.isWrapper; first | (rw [if_pos (by decide +kernel)]; kernel_rfl) | (rw [if_neg (by decide +kernel)]; exact ⟨rfl, rfl⟩)
theorem row : Rows.FnMakeJoinGroupResponseUptoSaid :=
  OpenClaim.holds_of_cond 9 Go.Proofs.Try.f9 rfl rfl rfl rfl rfl rfl rfl ⟨rfl, rfl, rfl, rfl, rfl⟩ rfl rfl rfl rfl rfl named Go.Proofs.Try.func9 joined
    isInst isWrap
    (fun os started H enc _ F => by rw [OpenClaim.pre_eq_preRow]; exact lifted os started H enc F)
#print axioms row
end Go.Proofs.Ytlildailoffclaa.fnMakeJoinGroupResponse
namespace Go.Proofs.Ytlildailoffclaa
theorem fnMakeJoinGroupResponse_holds : Rows.FnMakeJoinGroupResponseUptoSaid := fnMakeJoinGroupResponse.row
end Go.Proofs.Ytlildailoffclaa
