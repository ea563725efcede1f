/- A message that is set out of a tree is written as the reference writes that tree (laws.FnMakeWriteShareGroupStateResponse): the statement's second form is proved, at every version number and every tree whose bulk is at most 1048576; no other condition. -/
import Derived.Test.YtlildailoffclaaKs
set_option linter.unusedSimpArgs false
set_option linter.unusedVariables false
set_option maxRecDepth 100000
namespace Go.Kf
open Go

def rWriteShareGroupStateResponseTopicPartition : Fds := .cons .all (.pr .i32 none) (.cons .all (.pr .i16 none) (.cons .all (.txt .nstr) (.tags)))

def rWriteShareGroupStateResponseTopic : Fds := .cons .all (.pr .uuid none) (.cons .all (.arr 132 none (.row 140 138 192 (.cons .all (.pr .i32 none) (.cons .all (.pr .i16 none) (.cons .all (.txt .nstr) (.tags)))))) (.tags))
def mfS : TypeId → FuncId := fun t => bif Nat.beq t 140 then 134 else bif Nat.beq t 134 then 107 else 0
theorem fmk_WriteShareGroupStateResponseTopicPartition : FOk Go.Proofs.Try.prog 134 1 (rWriteShareGroupStateResponseTopicPartition.mkC NS LN mfS 140) [.cell 2 140] := ⟨Go.Proofs.Try.f134, _, [0, 1, 2, 3, 21, 22, 23, 24, 5], Go.Proofs.Try.func134, rfl, by kernel_rfl, by kernel_rfl, by decide, by kernel_rfl, by kernel_rfl⟩
theorem hf_WriteShareGroupStateResponseTopicPartition : rWriteShareGroupStateResponseTopicPartition.hf Go.Proofs.Try.prog 140 0 0 := Fds.hfBs_ok (by kernel_rfl)
theorem aok_WriteShareGroupStateResponseTopicPartition : rWriteShareGroupStateResponseTopicPartition.aok Go.Proofs.Try.prog NS AN := ⟨⟨by decide, ⟨(fun h => nomatch h), fun h => absurd h (by decide)⟩⟩, ⟨⟨by decide, ⟨(fun h => nomatch h), fun h => absurd h (by decide)⟩⟩, ⟨⟨by decide, by decide, fun _ => by decide⟩, trivial⟩⟩⟩
theorem fok_WriteShareGroupStateResponseTopicPartition : rWriteShareGroupStateResponseTopicPartition.fok Go.Proofs.Try.prog NS LN mfS .mk := ⟨⟨(fun h => nomatch h), ⟨(fun h => nomatch h), fun h => absurd h (by decide)⟩, rfl⟩, ⟨⟨(fun h => nomatch h), ⟨(fun h => nomatch h), fun h => absurd h (by decide)⟩, rfl⟩, ⟨⟨.inr ⟨rfl, by decide⟩, fun _ => by decide⟩, trivial⟩⟩⟩
theorem mkr_WriteShareGroupStateResponseTopicPartition : MkRow Go.Proofs.Try.prog 134 rWriteShareGroupStateResponseTopicPartition := by
  obtain ⟨fs, h⟩ := tsB_ok (P := Go.Proofs.Try.prog) (t := 140) (sz := rWriteShareGroupStateResponseTopicPartition.sz) (by' := bytesOf Go.Proofs.Try.prog 140) (z := .agg rWriteShareGroupStateResponseTopicPartition.zero.toArray) (by kernel_rfl)
  exact mkRow_of baseS fnsS spT implT trF smg fok_WriteShareGroupStateResponseTopicPartition fmk_WriteShareGroupStateResponseTopicPartition h hf_WriteShareGroupStateResponseTopicPartition (one_of (by kernel_rfl))
theorem fmk_WriteShareGroupStateResponseTopic : FOk Go.Proofs.Try.prog 107 1 (rWriteShareGroupStateResponseTopic.mkC NS LN mfS 134) [.cell 2 134] := ⟨Go.Proofs.Try.f107, _, [0, 1, 2, 3, 16, 25, 26, 27, 28, 5, 40, 41, 42, 43, 7], Go.Proofs.Try.func107, rfl, by kernel_rfl, by kernel_rfl, by decide, by kernel_rfl, by kernel_rfl⟩
theorem hf_WriteShareGroupStateResponseTopic : rWriteShareGroupStateResponseTopic.hf Go.Proofs.Try.prog 134 0 0 := Fds.hfBs_ok (by kernel_rfl)
theorem aok_WriteShareGroupStateResponseTopic : rWriteShareGroupStateResponseTopic.aok Go.Proofs.Try.prog NS AN := ⟨⟨by decide, ⟨fun _ => by decide, fun h => absurd h (by decide)⟩⟩, ⟨⟨zih (by kernel_rfl), (tsB_ok (P := Go.Proofs.Try.prog) (t := 140) (sz := rWriteShareGroupStateResponseTopicPartition.sz) (by' := bytesOf Go.Proofs.Try.prog 140) (z := .agg rWriteShareGroupStateResponseTopicPartition.zero.toArray) (by kernel_rfl)).elim fun _ h => ⟨_, _, _, h⟩, ⟨by decide, by decide⟩, ⟨hf_WriteShareGroupStateResponseTopicPartition, aok_WriteShareGroupStateResponseTopicPartition⟩⟩, trivial⟩⟩
theorem fok_WriteShareGroupStateResponseTopic : rWriteShareGroupStateResponseTopic.fok Go.Proofs.Try.prog NS LN mfS .mk := ⟨⟨fun _ => by decide, ⟨fun _ => by decide, fun h => absurd h (by decide)⟩, rfl⟩, ⟨⟨zih (by kernel_rfl), (tsB_ok (P := Go.Proofs.Try.prog) (t := 140) (sz := rWriteShareGroupStateResponseTopicPartition.sz) (by' := bytesOf Go.Proofs.Try.prog 140) (z := .agg rWriteShareGroupStateResponseTopicPartition.zero.toArray) (by kernel_rfl)).elim fun _ h => ⟨_, _, _, h, by kernel_rfl, of_decide_eq_true (by kernel_rfl)⟩, of_decide_eq_true (by kernel_rfl), of_decide_eq_true (by kernel_rfl), ⟨fmk_WriteShareGroupStateResponseTopicPartition.has, mkr_WriteShareGroupStateResponseTopicPartition⟩⟩, trivial⟩⟩
theorem mkr_WriteShareGroupStateResponseTopic : MkRow Go.Proofs.Try.prog 107 rWriteShareGroupStateResponseTopic := by
  obtain ⟨fs, h⟩ := tsB_ok (P := Go.Proofs.Try.prog) (t := 134) (sz := rWriteShareGroupStateResponseTopic.sz) (by' := bytesOf Go.Proofs.Try.prog 134) (z := .agg rWriteShareGroupStateResponseTopic.zero.toArray) (by kernel_rfl)
  exact mkRow_of baseS fnsS spT implT trF smg fok_WriteShareGroupStateResponseTopic fmk_WriteShareGroupStateResponseTopic h hf_WriteShareGroupStateResponseTopic (one_of (by kernel_rfl))

def mS : Msg := ⟨83, 79, 105, 0, false, .cons .all (.arr 81 none (.row 134 136 191 (.cons .all (.pr .uuid none) (.cons .all (.arr 132 none (.row 140 138 192 (.cons .all (.pr .i32 none) (.cons .all (.pr .i16 none) (.cons .all (.txt .nstr) (.tags)))))) (.tags))))) (.tags)⟩
def dS : MkN where
  newP := 57
  setV := 60
  maxV := 58
  maxI := 25
  fillI := 61
  app := 62
  mkI := 27
theorem df_m : FOk Go.Proofs.Try.prog 105 1 (seqs (mS.fs.dfl NS mS.tT 1)) [] := ⟨Go.Proofs.Try.f105, _, [0], Go.Proofs.Try.func105, rfl, by kernel_rfl, by kernel_rfl, by decide, by kernel_rfl, by kernel_rfl⟩
theorem fd_new : FOk Go.Proofs.Try.prog 57 0 (c_new NS mS.tT mS.dflt) [.var 0] := ⟨Go.Proofs.Try.f57, _, [0, 1], Go.Proofs.Try.func57, rfl, by kernel_rfl, by kernel_rfl, by decide, by kernel_rfl, by kernel_rfl⟩
theorem fd_set : FOk Go.Proofs.Try.prog 60 2 (c_set NS mS.tT) [] := ⟨Go.Proofs.Try.f60, _, [0, 1], Go.Proofs.Try.func60, rfl, by kernel_rfl, by kernel_rfl, by decide, by kernel_rfl, by kernel_rfl⟩
theorem fd_mv : FOk Go.Proofs.Try.prog 58 1 (c_max 1) [.var 1] := ⟨Go.Proofs.Try.f58, _, [0, 2], Go.Proofs.Try.func58, rfl, by kernel_rfl, by kernel_rfl, by decide, by kernel_rfl, by kernel_rfl⟩
theorem fd_mi : FOk Go.Proofs.Try.prog 25 0 (c_maxI NS mS.pT 57 58) [.var 0] := ⟨Go.Proofs.Try.f25, _, [0], Go.Proofs.Try.func25, rfl, by kernel_rfl, by kernel_rfl, by decide, by kernel_rfl, by kernel_rfl⟩
theorem fd_app : FOk Go.Proofs.Try.prog 62 2 (mS.appC NS AN) [.var 2] := ⟨Go.Proofs.Try.f62, _, [0, 1, 4, 5, 6, 7, 29, 39, 40, 41, 8, 9, 10, 11, 57, 67, 68, 69, 12, 13, 14, 15, 16, 92, 99, 114, 129], Go.Proofs.Try.func62, rfl, by kernel_rfl, by kernel_rfl, by decide, by kernel_rfl, by kernel_rfl⟩
theorem fd_fill : FOk Go.Proofs.Try.prog 61 2 (mS.fillC NS LN mfS) [] := ⟨Go.Proofs.Try.f61, _, [0, 1, 3, 11, 22, 23, 24, 25, 5, 41, 42, 43, 44, 7], Go.Proofs.Try.func61, rfl, by kernel_rfl, by kernel_rfl, by decide, by kernel_rfl, by kernel_rfl⟩
theorem fd_door : FOk Go.Proofs.Try.prog 27 2 (c_doorM NS mS.tT mS.pT 60 61 62) [.var 3] := ⟨Go.Proofs.Try.f27, _, [0, 1, 3, 4, 5], Go.Proofs.Try.func27, rfl, by kernel_rfl, by kernel_rfl, by decide, by kernel_rfl, by kernel_rfl⟩
theorem aokS : mS.fs.aok Go.Proofs.Try.prog NS AN := ⟨⟨zih (by kernel_rfl), (tsB_ok (P := Go.Proofs.Try.prog) (t := 134) (sz := rWriteShareGroupStateResponseTopic.sz) (by' := bytesOf Go.Proofs.Try.prog 134) (z := .agg rWriteShareGroupStateResponseTopic.zero.toArray) (by kernel_rfl)).elim fun _ h => ⟨_, _, _, h⟩, ⟨by decide, by decide⟩, ⟨hf_WriteShareGroupStateResponseTopic, aok_WriteShareGroupStateResponseTopic⟩⟩, trivial⟩
theorem fokS : mS.fs.fok Go.Proofs.Try.prog NS LN mfS .fill := ⟨⟨zih (by kernel_rfl), (tsB_ok (P := Go.Proofs.Try.prog) (t := 134) (sz := rWriteShareGroupStateResponseTopic.sz) (by' := bytesOf Go.Proofs.Try.prog 134) (z := .agg rWriteShareGroupStateResponseTopic.zero.toArray) (by kernel_rfl)).elim fun _ h => ⟨_, _, _, h, by kernel_rfl, of_decide_eq_true (by kernel_rfl)⟩, of_decide_eq_true (by kernel_rfl), of_decide_eq_true (by kernel_rfl), ⟨fmk_WriteShareGroupStateResponseTopic.has, mkr_WriteShareGroupStateResponseTopic⟩⟩, trivial⟩
theorem door : MkD Go.Proofs.Try.prog NS MS AN LN mfS mS dS := ⟨⟨[(0, 1), (1, 1), (2, 1)], bytesOf Go.Proofs.Try.prog 83, sfB_ok (by kernel_rfl)⟩, one_of (by kernel_rfl), Fds.hfBs_ok (by kernel_rfl), zus (by kernel_rfl), trivial, df_m, fd_new, fd_set, fd_fill, fokS, fd_app, aokS, fd_door⟩

def sc_sWriteShareGroupStateResponseTopicPartition : List SC := [.mk [(0, 3), (2, -1), (3, -1), (4, -1)] none [], .mk [(0, 2), (2, -1), (3, -1), (4, -1)] none [], .mk [(0, 8), (2, -1), (3, 0), (4, -1)] none []]
theorem fsc_sWriteShareGroupStateResponseTopicPartition : FOk Go.Proofs.Try.prog 106 0 (c_flds MS sc_sWriteShareGroupStateResponseTopicPartition) [.var 0] := ⟨Go.Proofs.Try.f106, _, [0], Go.Proofs.Try.func106, rfl, by kernel_rfl, by kernel_rfl, by decide, by kernel_rfl, by kernel_rfl⟩
theorem mk_sWriteShareGroupStateResponseTopicPartition : MkOk Go.Proofs.Try.prog 106 (SC.flds sc_sWriteShareGroupStateResponseTopicPartition) := mk_flds (l := sc_sWriteShareGroupStateResponseTopicPartition) spT (by kernel_rfl) ⟨rfl, ⟨rfl, ⟨rfl, trivial⟩⟩⟩ fsc_sWriteShareGroupStateResponseTopicPartition

def sc_sWriteShareGroupStateResponseTopic : List SC := [.mk [(0, 7), (2, -1), (3, -1), (4, -1)] none [], .mk [(0, 11), (2, -1), (3, -1), (4, -1), (6, 10)] (some 106) sc_sWriteShareGroupStateResponseTopicPartition]
theorem fsc_sWriteShareGroupStateResponseTopic : FOk Go.Proofs.Try.prog 59 0 (c_flds MS sc_sWriteShareGroupStateResponseTopic) [.var 0] := ⟨Go.Proofs.Try.f59, _, [0], Go.Proofs.Try.func59, rfl, by kernel_rfl, by kernel_rfl, by decide, by kernel_rfl, by kernel_rfl⟩
theorem mk_sWriteShareGroupStateResponseTopic : MkOk Go.Proofs.Try.prog 59 (SC.flds sc_sWriteShareGroupStateResponseTopic) := mk_flds (l := sc_sWriteShareGroupStateResponseTopic) spT (by kernel_rfl) ⟨rfl, ⟨⟨mk_sWriteShareGroupStateResponseTopicPartition, fsc_sWriteShareGroupStateResponseTopicPartition.has⟩, trivial⟩⟩ fsc_sWriteShareGroupStateResponseTopic

def sc_WriteShareGroupStateResponse : List SC := [.mk [(0, 11), (2, -1), (3, -1), (4, -1), (6, 10)] (some 59) sc_sWriteShareGroupStateResponseTopic]
theorem fsc_WriteShareGroupStateResponse : FOk Go.Proofs.Try.prog 26 0 (c_msg MS sc_WriteShareGroupStateResponse (0)) [.cell 0 MS.zao] := ⟨Go.Proofs.Try.f26, _, [0], Go.Proofs.Try.func26, rfl, by kernel_rfl, by kernel_rfl, by decide, by kernel_rfl, by kernel_rfl⟩
theorem lawT : LawMM Go.Proofs.Try.prog NS MS AN LN mfS mS dS 1 26 sc_WriteShareGroupStateResponse (0) := ⟨door, fd_mv, fd_mi, by decide, by decide, by decide, fsc_WriteShareGroupStateResponse, by kernel_rfl, ⟨⟨mk_sWriteShareGroupStateResponseTopic, fsc_sWriteShareGroupStateResponseTopic.has⟩, trivial⟩, by kernel_rfl, by kernel_rfl, by kernel_rfl⟩
theorem fd_law : FOk Go.Proofs.Try.prog 6 2 (c_lawM NS MS LN dS.maxI dS.mkI 26) [.var 3] := ⟨Go.Proofs.Try.f6, _, [0, 1, 3, 4, 10, 5, 13, 6, 7], Go.Proofs.Try.func6, rfl, by kernel_rfl, by kernel_rfl, by decide, by kernel_rfl, by kernel_rfl⟩
end Go.Kf

namespace Go.Proofs.Ytlildailoffclaa.fnMakeWriteShareGroupStateResponse
open Go.ChangeShapes Go.WideShapes Go.ChangeAt Go.RowKit Go.Kf

theorem reads (os : Os) {H : Type} (enc : TypeId × Value → H) : ∃ places, DataW.whole enc Go.Proofs.Try.prog ((World.doorLaid Go.Proofs.Try.prog 400 os).forCall (fun _ _ => 0) ⟨#[], #[.int .u8 0, .agg #[.int .i64 0, .slice none 0 0, .bool false, .slice none 0 0, .slice none 0 0]], []⟩).memory Go.Proofs.Try.f6.params.toList Rows.fnMakeWriteShareGroupStateResponseSpec.vars false #[Value.int .u8 0, .agg #[.int .i64 0, .slice none 0 0, .bool false, .slice none 0 0, .slice none 0 0]].toList 8 = some ([.lit (.int .u8 0), .agg [.lit (.int .i64 0), .nil, .lit (.bool false), .nil, .nil]], [], places) :=
  ⟨[], by kernel_rfl⟩
set_option maxHeartbeats 4000000 in
theorem lifted (os : Os) (started : os.Started) (H : Type) (enc : TypeId × Value → H) (F : Stop.Interp) :
    ReturnsInHanded {} Go.Proofs.Try.checked os 6 .any ((Rows.OpenSpec.upto Rows.fnMakeWriteShareGroupStateResponseSpec).preRow enc Go.Proofs.Try.prog Go.Proofs.Try.f6 Rows.fnMakeWriteShareGroupStateResponseUptoRow.domain false Rows.fnMakeWriteShareGroupStateResponseUptoRow.laid) (((Rows.OpenSpec.upto Rows.fnMakeWriteShareGroupStateResponseSpec).at F).post enc Go.Proofs.Try.prog Go.Proofs.Try.f6 false true false false) := by
  obtain ⟨places, hx⟩ := reads os enc
  refine returnsInHanded_of_row (C := Go.Proofs.Try.checked) (s := Rows.OpenSpec.upto Rows.fnMakeWriteShareGroupStateResponseSpec) own started (by kernel_rfl) Go.Proofs.Try.func6
    ⟨World.doorLaid Go.Proofs.Try.prog 400 os, fun _ _ => 0, ⟨#[], #[.int .u8 0, .agg #[.int .i64 0, .slice none 0 0, .bool false, .slice none 0 0, .slice none 0 0]], []⟩, rfl, shaped os _, rfl, (Input.okWide_of_okWideB (by kernel_rfl)).2,
      OpenSpec.preRow_of_cond 8 hx (by kernel_rfl) (fun k hk => by cases hk; kernel_rfl) (by kernel_rfl) (laidMetH_nil _ _), by
        simp only [Assume.holds]
        exact ⟨by simp, by simp, fun _ => Modest.zero, by simp, by simp⟩⟩ ?_
  intro W base args ds gs before hval0 hW _ hcond _ _ _ _
  have hval : ∀ (j : Nat) t v, Go.Proofs.Try.f6.params[j]? = some t → args[j]? = some v → Value.okWide Go.Proofs.Try.prog W .any base t v := hval0
  have hW' := hW
  obtain ⟨p, q, hA0, hV, rfl, hfz, hnd⟩ := hW
  have hA : DataW.TrodAll enc Go.Proofs.Try.prog W 0 (fun _ => true) true Go.Proofs.Try.f6.params.toList args.toList ds p := hA0
  rw [Go.Proofs.Try.params6] at hA hval
  obtain ⟨v0, vs0, d0, ds0, p0, q0, hargs, rfl, rfl, h0, r0⟩ := trodAll_cons hA
  obtain ⟨v1, vs1, d1, ds1, p1, q1, rfl, rfl, rfl, h1, r1⟩ := trodAll_cons r0
  obtain ⟨rfl, rfl, rfl⟩ := trodAll_nil r1
  obtain rfl : args = #[v0, v1] := by cases args; simp_all
  obtain ⟨rfl, rfl⟩ := trodVars_none hV
  obtain ⟨n0, rfl, rfl, rfl, w0⟩ := open_int Go.Proofs.Try.underlying5 (hval 0 5 v0 rfl rfl) h0
  obtain ⟨t, ct, rfl, ht, hwf, hsz⟩ := treeArg_of treeO baseS specT (bulkF H) (hval 1 26 v1 rfl rfl) h1
  have hc := hcond _ rfl
  have hsz2 : szT t ≤ 1048576 := by
    have hc2 : Rows.uptoBulkAll ([.lit (.int .u8 n0), d1] ++ []) ≤ 1048576 := of_decide_eq_true hc
    simp only [List.cons_append, List.nil_append, Rows.uptoBulkAll] at hc2
    omega
  have lt1 : ∀ x ∈ p1, x.block < W.heap.size := by obtain ⟨m, hm⟩ := h1; exact DataW.trod_lt m _ _ _ hm
  have hn0 : 0 ≤ n0 ∧ n0 ≤ 255 := by
    simp [Lit.wf, IntKind.min, IntKind.max, IntKind.signed, IntKind.bits] at w0
    omega
  clear hA0 hval0
  refine Calls.mono (call_lawM baseS fnsS spT implT trF thSZ thSW apC smk smg (by decide) (by decide) (by decide) lawT fd_law (n := n0) hn0 ht hwf hsz2) fun e W' ⟨v', he, hv', hm⟩ => ?_
  subst he hv'
  have bel := hm.below
  exact ⟨_, rfl, _, _, _, [], _, [], hW', trodAll_mk1 (shut_bool Go.Proofs.Try.underlying4 _), trodAll_cons_mk (shut_int Go.Proofs.Try.underlying5 w0) (trodAll_cons_mk (Below.trod laidOut (by kernel_rfl) (of_decide_eq_true (by kernel_rfl)) h1 bel lt1) trodAll_mk0), rfl, bel.frame _, fun h => by cases h⟩

set_option maxHeartbeats 4000000 in
theorem joined : joinedFacts Go.Proofs.Try.prog 6 Go.Proofs.Try.f6 (Rows.OpenSpec.upto Rows.fnMakeWriteShareGroupStateResponseSpec).bare Rows.fnMakeWriteShareGroupStateResponseUptoRow = true := by
  unfold joinedFacts
  exact bandT (bandT (bandT (bandT (bandT (bandT (bandT (bandT (bandT (bandT (bandT (bandT (bandT (bandT (bandT (bandT (bandT (bandT (bandT (bandT (bandT (bandT (bandT (bandT (bandT (bandT (bandT (bandT (bandT (bandT (bandT (by as_aux_lemma => kernel_rfl) laidOut) mapsRowedS) (by as_aux_lemma => kernel_rfl)) (by as_aux_lemma => kernel_rfl)) (by as_aux_lemma => kernel_rfl)) (by as_aux_lemma => kernel_rfl)) (by as_aux_lemma => kernel_rfl)) (by as_aux_lemma => kernel_rfl)) (by as_aux_lemma => kernel_rfl)) (by as_aux_lemma => kernel_rfl)) (by as_aux_lemma => kernel_rfl)) (by as_aux_lemma => kernel_rfl)) (by as_aux_lemma => kernel_rfl)) (by as_aux_lemma => kernel_rfl)) (by as_aux_lemma => kernel_rfl)) (by as_aux_lemma => kernel_rfl)) (by as_aux_lemma => kernel_rfl)) (by as_aux_lemma => kernel_rfl)) (by as_aux_lemma => kernel_rfl)) (by as_aux_lemma => kernel_rfl)) (by as_aux_lemma => kernel_rfl)) plainKeysS) (by as_aux_lemma => kernel_rfl)) stopsHeardS) bigEnter) bigLifts) bigMake) (by as_aux_lemma => kernel_rfl)) (by as_aux_lemma => kernel_rfl)) (by as_aux_lemma => kernel_rfl)) (by as_aux_lemma => kernel_rfl)
theorem named : Go.Proofs.Try.prog.funcNamed Rows.fnMakeWriteShareGroupStateResponseUptoRow.func = some 6 := by kernel_rfl
theorem isInst : Go.Proofs.Try.f6.isInstance Go.Proofs.Try.prog Rows.fnMakeWriteShareGroupStateResponseUptoRow.origin Rows.fnMakeWriteShareGroupStateResponseUptoRow.targs := of_decide_eq_true (by kernel_rfl)
theorem isWrap : Go.Proofs.Try.f6.isWrapper Go.Proofs.Try.prog Rows.fnMakeWriteShareGroupStateResponseUptoRow.wrapper Rows.fnMakeWriteShareGroupStateResponseUptoRow.mainSum := by unfold Func.isWrapper; first | (rw [if_pos (by decide +kernel)]; kernel_rfl) | (rw [if_neg (by decide +kernel)]; exact ⟨rfl, rfl⟩)
theorem row : Rows.FnMakeWriteShareGroupStateResponseUptoSaid :=
  OpenClaim.holds_of_cond 6 Go.Proofs.Try.f6 rfl rfl rfl rfl rfl rfl rfl ⟨rfl, rfl, rfl, rfl, rfl⟩ rfl rfl rfl rfl rfl named Go.Proofs.Try.func6 joined
    isInst isWrap
    (fun os started H enc _ F => by rw [OpenClaim.pre_eq_preRow]; exact lifted os started H enc F)
#print axioms row
end Go.Proofs.Ytlildailoffclaa.fnMakeWriteShareGroupStateResponse
namespace Go.Proofs.Ytlildailoffclaa
theorem fnMakeWriteShareGroupStateResponse_holds : Rows.FnMakeWriteShareGroupStateResponseUptoSaid := fnMakeWriteShareGroupStateResponse.row
end Go.Proofs.Ytlildailoffclaa
