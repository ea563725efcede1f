/- A message that is set out of a tree is written as the reference writes that tree (laws.FnMakeListOffsetsRequest): the statement's second form is proved, at every version number and every tree whose bulk is at most 1048576; no other condition. -/
import Derived.Test.YtlildailoffclaaKs
set_option linter.unusedSimpArgs false
set_option linter.unusedVariables false
set_option maxRecDepth 100000
namespace Go.Kf
open Go

def rListOffsetsRequestTopicPartition : Fds := .cons .all (.pr .i32 none) (.cons (.ge 4) (.pr .i32 (some (.int .i32 (-1)))) (.cons .all (.pr .i64 none) (.cons (.btw 0 0) (.pr .i32 (some (.int .i32 (1)))) (.tags))))

def rListOffsetsRequestTopic : Fds := .cons .all (.txt .str) (.cons .all (.arr 142 none (.row 150 148 194 (.cons .all (.pr .i32 none) (.cons (.ge 4) (.pr .i32 (some (.int .i32 (-1)))) (.cons .all (.pr .i64 none) (.cons (.btw 0 0) (.pr .i32 (some (.int .i32 (1)))) (.tags))))))) (.tags))
def mfS : TypeId → FuncId := fun t => bif Nat.beq t 150 then 135 else bif Nat.beq t 144 then 113 else 0
theorem fmk_ListOffsetsRequestTopicPartition : FOk Go.Proofs.Try.prog 135 1 (rListOffsetsRequestTopicPartition.mkC NS LN mfS 150) [.cell 2 150] := ⟨Go.Proofs.Try.f135, _, [0, 1, 2, 3, 26, 27, 28, 29, 5], Go.Proofs.Try.func135, rfl, by kernel_rfl, by kernel_rfl, by decide, by kernel_rfl, by kernel_rfl⟩
theorem hf_ListOffsetsRequestTopicPartition : rListOffsetsRequestTopicPartition.hf Go.Proofs.Try.prog 150 0 0 := Fds.hfBs_ok (by kernel_rfl)
theorem aok_ListOffsetsRequestTopicPartition : rListOffsetsRequestTopicPartition.aok Go.Proofs.Try.prog NS AN := ⟨⟨by decide, ⟨(fun h => nomatch h), fun h => absurd h (by decide)⟩⟩, ⟨⟨by decide, ⟨(fun h => nomatch h), fun h => absurd h (by decide)⟩⟩, ⟨⟨by decide, ⟨(fun h => nomatch h), fun h => absurd h (by decide)⟩⟩, ⟨⟨by decide, ⟨(fun h => nomatch h), fun h => absurd h (by decide)⟩⟩, trivial⟩⟩⟩⟩
theorem fok_ListOffsetsRequestTopicPartition : rListOffsetsRequestTopicPartition.fok Go.Proofs.Try.prog NS LN mfS .mk := ⟨⟨(fun h => nomatch h), ⟨(fun h => nomatch h), fun h => absurd h (by decide)⟩, rfl⟩, ⟨⟨(fun h => nomatch h), ⟨(fun h => nomatch h), fun h => absurd h (by decide)⟩, rfl⟩, ⟨⟨(fun h => nomatch h), ⟨(fun h => nomatch h), fun h => absurd h (by decide)⟩, rfl⟩, ⟨⟨(fun h => nomatch h), ⟨(fun h => nomatch h), fun h => absurd h (by decide)⟩, rfl⟩, trivial⟩⟩⟩⟩
theorem mkr_ListOffsetsRequestTopicPartition : MkRow Go.Proofs.Try.prog 135 rListOffsetsRequestTopicPartition := by
  obtain ⟨fs, h⟩ := tsB_ok (P := Go.Proofs.Try.prog) (t := 150) (sz := rListOffsetsRequestTopicPartition.sz) (by' := bytesOf Go.Proofs.Try.prog 150) (z := .agg rListOffsetsRequestTopicPartition.zero.toArray) (by kernel_rfl)
  exact mkRow_of baseS fnsS spT implT trF smg fok_ListOffsetsRequestTopicPartition fmk_ListOffsetsRequestTopicPartition h hf_ListOffsetsRequestTopicPartition (one_of (by kernel_rfl))
theorem fmk_ListOffsetsRequestTopic : FOk Go.Proofs.Try.prog 113 1 (rListOffsetsRequestTopic.mkC NS LN mfS 144) [.cell 2 144] := ⟨Go.Proofs.Try.f113, _, [0, 1, 2, 3, 16, 25, 26, 27, 28, 5, 40, 41, 42, 43, 7], Go.Proofs.Try.func113, rfl, by kernel_rfl, by kernel_rfl, by decide, by kernel_rfl, by kernel_rfl⟩
theorem hf_ListOffsetsRequestTopic : rListOffsetsRequestTopic.hf Go.Proofs.Try.prog 144 0 0 := Fds.hfBs_ok (by kernel_rfl)
theorem aok_ListOffsetsRequestTopic : rListOffsetsRequestTopic.aok Go.Proofs.Try.prog NS AN := ⟨⟨by decide, by decide, fun h => nomatch h⟩, ⟨⟨zih (by kernel_rfl), (tsB_ok (P := Go.Proofs.Try.prog) (t := 150) (sz := rListOffsetsRequestTopicPartition.sz) (by' := bytesOf Go.Proofs.Try.prog 150) (z := .agg rListOffsetsRequestTopicPartition.zero.toArray) (by kernel_rfl)).elim fun _ h => ⟨_, _, _, h⟩, ⟨by decide, by decide⟩, ⟨hf_ListOffsetsRequestTopicPartition, aok_ListOffsetsRequestTopicPartition⟩⟩, trivial⟩⟩
theorem fok_ListOffsetsRequestTopic : rListOffsetsRequestTopic.fok Go.Proofs.Try.prog NS LN mfS .mk := ⟨⟨.inl rfl, (fun h => nomatch h)⟩, ⟨⟨zih (by kernel_rfl), (tsB_ok (P := Go.Proofs.Try.prog) (t := 150) (sz := rListOffsetsRequestTopicPartition.sz) (by' := bytesOf Go.Proofs.Try.prog 150) (z := .agg rListOffsetsRequestTopicPartition.zero.toArray) (by kernel_rfl)).elim fun _ h => ⟨_, _, _, h, by kernel_rfl, of_decide_eq_true (by kernel_rfl)⟩, of_decide_eq_true (by kernel_rfl), of_decide_eq_true (by kernel_rfl), ⟨fmk_ListOffsetsRequestTopicPartition.has, mkr_ListOffsetsRequestTopicPartition⟩⟩, trivial⟩⟩
theorem mkr_ListOffsetsRequestTopic : MkRow Go.Proofs.Try.prog 113 rListOffsetsRequestTopic := by
  obtain ⟨fs, h⟩ := tsB_ok (P := Go.Proofs.Try.prog) (t := 144) (sz := rListOffsetsRequestTopic.sz) (by' := bytesOf Go.Proofs.Try.prog 144) (z := .agg rListOffsetsRequestTopic.zero.toArray) (by kernel_rfl)
  exact mkRow_of baseS fnsS spT implT trF smg fok_ListOffsetsRequestTopic fmk_ListOffsetsRequestTopic h hf_ListOffsetsRequestTopic (one_of (by kernel_rfl))

def mS : Msg := ⟨90, 85, 111, 6, false, .cons .all (.pr .i32 (some (.int .i32 (-1)))) (.cons (.ge 2) (.pr .i8 none) (.cons .all (.arr 88 none (.row 144 147 193 (.cons .all (.txt .str) (.cons .all (.arr 142 none (.row 150 148 194 (.cons .all (.pr .i32 none) (.cons (.ge 4) (.pr .i32 (some (.int .i32 (-1)))) (.cons .all (.pr .i64 none) (.cons (.btw 0 0) (.pr .i32 (some (.int .i32 (1)))) (.tags))))))) (.tags))))) (.cons (.ge 10) (.pr .i32 (some (.int .i32 (30000)))) (.tags))))⟩
def dS : MkN where
  newP := 63
  setV := 66
  maxV := 64
  maxI := 28
  fillI := 67
  app := 68
  mkI := 30
theorem df_m : FOk Go.Proofs.Try.prog 111 1 (seqs (mS.fs.dfl NS mS.tT 1)) [] := ⟨Go.Proofs.Try.f111, _, [0], Go.Proofs.Try.func111, rfl, by kernel_rfl, by kernel_rfl, by decide, by kernel_rfl, by kernel_rfl⟩
theorem fd_new : FOk Go.Proofs.Try.prog 63 0 (c_new NS mS.tT mS.dflt) [.var 0] := ⟨Go.Proofs.Try.f63, _, [0, 1], Go.Proofs.Try.func63, rfl, by kernel_rfl, by kernel_rfl, by decide, by kernel_rfl, by kernel_rfl⟩
theorem fd_set : FOk Go.Proofs.Try.prog 66 2 (c_set NS mS.tT) [] := ⟨Go.Proofs.Try.f66, _, [0, 1], Go.Proofs.Try.func66, rfl, by kernel_rfl, by kernel_rfl, by decide, by kernel_rfl, by kernel_rfl⟩
theorem fd_mv : FOk Go.Proofs.Try.prog 64 1 (c_max 11) [.var 1] := ⟨Go.Proofs.Try.f64, _, [0, 2], Go.Proofs.Try.func64, rfl, by kernel_rfl, by kernel_rfl, by decide, by kernel_rfl, by kernel_rfl⟩
theorem fd_mi : FOk Go.Proofs.Try.prog 28 0 (c_maxI NS mS.pT 63 64) [.var 0] := ⟨Go.Proofs.Try.f28, _, [0], Go.Proofs.Try.func28, rfl, by kernel_rfl, by kernel_rfl, by decide, by kernel_rfl, by kernel_rfl⟩
theorem fd_app : FOk Go.Proofs.Try.prog 68 2 (mS.appC NS AN) [.var 2] := ⟨Go.Proofs.Try.f68, _, [0, 1, 4, 5, 6, 7, 37, 8, 9, 49, 59, 60, 61, 10, 11, 12, 70, 13, 81, 91, 92, 93, 14, 15, 16, 106, 17, 18, 126, 19, 134, 149, 165, 20, 173], Go.Proofs.Try.func68, rfl, by kernel_rfl, by kernel_rfl, by decide, by kernel_rfl, by kernel_rfl⟩
theorem fd_fill : FOk Go.Proofs.Try.prog 67 2 (mS.fillC NS LN mfS) [] := ⟨Go.Proofs.Try.f67, _, [0, 1, 3, 25, 36, 37, 38, 39, 5, 62, 63, 64, 65, 7], Go.Proofs.Try.func67, rfl, by kernel_rfl, by kernel_rfl, by decide, by kernel_rfl, by kernel_rfl⟩
theorem fd_door : FOk Go.Proofs.Try.prog 30 2 (c_doorM NS mS.tT mS.pT 66 67 68) [.var 3] := ⟨Go.Proofs.Try.f30, _, [0, 1, 3, 4, 5], Go.Proofs.Try.func30, rfl, by kernel_rfl, by kernel_rfl, by decide, by kernel_rfl, by kernel_rfl⟩
theorem aokS : mS.fs.aok Go.Proofs.Try.prog NS AN := ⟨⟨by decide, ⟨(fun h => nomatch h), fun h => absurd h (by decide)⟩⟩, ⟨⟨by decide, ⟨(fun h => nomatch h), fun _ => by decide⟩⟩, ⟨⟨zih (by kernel_rfl), (tsB_ok (P := Go.Proofs.Try.prog) (t := 144) (sz := rListOffsetsRequestTopic.sz) (by' := bytesOf Go.Proofs.Try.prog 144) (z := .agg rListOffsetsRequestTopic.zero.toArray) (by kernel_rfl)).elim fun _ h => ⟨_, _, _, h⟩, ⟨by decide, by decide⟩, ⟨hf_ListOffsetsRequestTopic, aok_ListOffsetsRequestTopic⟩⟩, ⟨⟨by decide, ⟨(fun h => nomatch h), fun h => absurd h (by decide)⟩⟩, trivial⟩⟩⟩⟩
theorem fokS : mS.fs.fok Go.Proofs.Try.prog NS LN mfS .fill := ⟨⟨(fun h => nomatch h), ⟨(fun h => nomatch h), fun h => absurd h (by decide)⟩, rfl⟩, ⟨⟨(fun h => nomatch h), ⟨(fun h => nomatch h), fun _ => by decide⟩, rfl⟩, ⟨⟨zih (by kernel_rfl), (tsB_ok (P := Go.Proofs.Try.prog) (t := 144) (sz := rListOffsetsRequestTopic.sz) (by' := bytesOf Go.Proofs.Try.prog 144) (z := .agg rListOffsetsRequestTopic.zero.toArray) (by kernel_rfl)).elim fun _ h => ⟨_, _, _, h, by kernel_rfl, of_decide_eq_true (by kernel_rfl)⟩, of_decide_eq_true (by kernel_rfl), of_decide_eq_true (by kernel_rfl), ⟨fmk_ListOffsetsRequestTopic.has, mkr_ListOffsetsRequestTopic⟩⟩, ⟨⟨(fun h => nomatch h), ⟨(fun h => nomatch h), fun h => absurd h (by decide)⟩, rfl⟩, trivial⟩⟩⟩⟩
theorem door : MkD Go.Proofs.Try.prog NS MS AN LN mfS mS dS := ⟨⟨[(0, 1), (1, 1), (2, 1), (3, 1), (4, 1), (5, 1)], bytesOf Go.Proofs.Try.prog 90, sfB_ok (by kernel_rfl)⟩, one_of (by kernel_rfl), Fds.hfBs_ok (by kernel_rfl), zus (by kernel_rfl), ⟨⟨rfl, ⟨(fun h => nomatch h), fun h => absurd h (by decide)⟩⟩, rfl, ⟨⟨rfl, ⟨(fun h => nomatch h), fun h => absurd h (by decide)⟩⟩, rfl, trivial⟩⟩, df_m, fd_new, fd_set, fd_fill, fokS, fd_app, aokS, fd_door⟩

def sc_sListOffsetsRequestTopicPartition : List SC := [.mk [(0, 3), (2, -1), (3, -1), (4, -1)] none [], .mk [(0, 3), (1, 4), (2, -1), (3, -1), (4, -1), (5, -1)] none [], .mk [(0, 4), (2, -1), (3, -1), (4, -1)] none [], .mk [(0, 3), (2, 0), (3, -1), (4, -1), (5, 1)] none []]
theorem fsc_sListOffsetsRequestTopicPartition : FOk Go.Proofs.Try.prog 112 0 (c_flds MS sc_sListOffsetsRequestTopicPartition) [.var 0] := ⟨Go.Proofs.Try.f112, _, [0], Go.Proofs.Try.func112, rfl, by kernel_rfl, by kernel_rfl, by decide, by kernel_rfl, by kernel_rfl⟩
theorem mk_sListOffsetsRequestTopicPartition : MkOk Go.Proofs.Try.prog 112 (SC.flds sc_sListOffsetsRequestTopicPartition) := mk_flds (l := sc_sListOffsetsRequestTopicPartition) spT (by kernel_rfl) ⟨rfl, ⟨rfl, ⟨rfl, ⟨rfl, trivial⟩⟩⟩⟩ fsc_sListOffsetsRequestTopicPartition

def sc_sListOffsetsRequestTopic : List SC := [.mk [(0, 8), (2, -1), (3, -1), (4, -1)] none [], .mk [(0, 11), (2, -1), (3, -1), (4, -1), (6, 10)] (some 112) sc_sListOffsetsRequestTopicPartition]
theorem fsc_sListOffsetsRequestTopic : FOk Go.Proofs.Try.prog 65 0 (c_flds MS sc_sListOffsetsRequestTopic) [.var 0] := ⟨Go.Proofs.Try.f65, _, [0], Go.Proofs.Try.func65, rfl, by kernel_rfl, by kernel_rfl, by decide, by kernel_rfl, by kernel_rfl⟩
theorem mk_sListOffsetsRequestTopic : MkOk Go.Proofs.Try.prog 65 (SC.flds sc_sListOffsetsRequestTopic) := mk_flds (l := sc_sListOffsetsRequestTopic) spT (by kernel_rfl) ⟨rfl, ⟨⟨mk_sListOffsetsRequestTopicPartition, fsc_sListOffsetsRequestTopicPartition.has⟩, trivial⟩⟩ fsc_sListOffsetsRequestTopic

def sc_ListOffsetsRequest : List SC := [.mk [(0, 3), (2, -1), (3, -1), (4, -1), (5, -1)] none [], .mk [(0, 1), (1, 2), (2, -1), (3, -1), (4, -1)] none [], .mk [(0, 11), (2, -1), (3, -1), (4, -1), (6, 10)] (some 65) sc_sListOffsetsRequestTopic, .mk [(0, 3), (1, 10), (2, -1), (3, -1), (4, -1), (5, 30000)] none []]
theorem fsc_ListOffsetsRequest : FOk Go.Proofs.Try.prog 29 0 (c_msg MS sc_ListOffsetsRequest (6)) [.cell 0 MS.zao] := ⟨Go.Proofs.Try.f29, _, [0], Go.Proofs.Try.func29, rfl, by kernel_rfl, by kernel_rfl, by decide, by kernel_rfl, by kernel_rfl⟩
theorem lawT : LawMM Go.Proofs.Try.prog NS MS AN LN mfS mS dS 11 29 sc_ListOffsetsRequest (6) := ⟨door, fd_mv, fd_mi, by decide, by decide, by decide, fsc_ListOffsetsRequest, by kernel_rfl, ⟨rfl, ⟨rfl, ⟨⟨mk_sListOffsetsRequestTopic, fsc_sListOffsetsRequestTopic.has⟩, ⟨rfl, trivial⟩⟩⟩⟩, by kernel_rfl, by kernel_rfl, by kernel_rfl⟩
theorem fd_law : FOk Go.Proofs.Try.prog 7 2 (c_lawM NS MS LN dS.maxI dS.mkI 29) [.var 3] := ⟨Go.Proofs.Try.f7, _, [0, 1, 3, 4, 10, 5, 13, 6, 7], Go.Proofs.Try.func7, rfl, by kernel_rfl, by kernel_rfl, by decide, by kernel_rfl, by kernel_rfl⟩
end Go.Kf

namespace Go.Proofs.Ytlildailoffclaa.fnMakeListOffsetsRequest
open Go.ChangeShapes Go.WideShapes Go.ChangeAt Go.RowKit Go.Kf

theorem reads (os : Os) {H : Type} (enc : TypeId × Value → H) : ∃ places, DataW.whole enc Go.Proofs.Try.prog ((World.doorLaid Go.Proofs.Try.prog 400 os).forCall (fun _ _ => 0) ⟨#[], #[.int .u8 0, .agg #[.int .i64 0, .slice none 0 0, .bool false, .slice none 0 0, .slice none 0 0]], []⟩).memory Go.Proofs.Try.f7.params.toList Rows.fnMakeListOffsetsRequestSpec.vars false #[Value.int .u8 0, .agg #[.int .i64 0, .slice none 0 0, .bool false, .slice none 0 0, .slice none 0 0]].toList 8 = some ([.lit (.int .u8 0), .agg [.lit (.int .i64 0), .nil, .lit (.bool false), .nil, .nil]], [], places) :=
  ⟨[], by kernel_rfl⟩
set_option maxHeartbeats 4000000 in
theorem lifted (os : Os) (started : os.Started) (H : Type) (enc : TypeId × Value → H) (F : Stop.Interp) :
    ReturnsInHanded {} Go.Proofs.Try.checked os 7 .any ((Rows.OpenSpec.upto Rows.fnMakeListOffsetsRequestSpec).preRow enc Go.Proofs.Try.prog Go.Proofs.Try.f7 Rows.fnMakeListOffsetsRequestUptoRow.domain false Rows.fnMakeListOffsetsRequestUptoRow.laid) (((Rows.OpenSpec.upto Rows.fnMakeListOffsetsRequestSpec).at F).post enc Go.Proofs.Try.prog Go.Proofs.Try.f7 false true false false) := by
  obtain ⟨places, hx⟩ := reads os enc
  refine returnsInHanded_of_row (C := Go.Proofs.Try.checked) (s := Rows.OpenSpec.upto Rows.fnMakeListOffsetsRequestSpec) own started (by kernel_rfl) Go.Proofs.Try.func7
    ⟨World.doorLaid Go.Proofs.Try.prog 400 os, fun _ _ => 0, ⟨#[], #[.int .u8 0, .agg #[.int .i64 0, .slice none 0 0, .bool false, .slice none 0 0, .slice none 0 0]], []⟩, rfl, shaped os _, rfl, (Input.okWide_of_okWideB (by kernel_rfl)).2,
      OpenSpec.preRow_of_cond 8 hx (by kernel_rfl) (fun k hk => by cases hk; kernel_rfl) (by kernel_rfl) (laidMetH_nil _ _), by
        simp only [Assume.holds]
        exact ⟨by simp, by simp, fun _ => Modest.zero, by simp, by simp⟩⟩ ?_
  intro W base args ds gs before hval0 hW _ hcond _ _ _ _
  have hval : ∀ (j : Nat) t v, Go.Proofs.Try.f7.params[j]? = some t → args[j]? = some v → Value.okWide Go.Proofs.Try.prog W .any base t v := hval0
  have hW' := hW
  obtain ⟨p, q, hA0, hV, rfl, hfz, hnd⟩ := hW
  have hA : DataW.TrodAll enc Go.Proofs.Try.prog W 0 (fun _ => true) true Go.Proofs.Try.f7.params.toList args.toList ds p := hA0
  rw [Go.Proofs.Try.params7] at hA hval
  obtain ⟨v0, vs0, d0, ds0, p0, q0, hargs, rfl, rfl, h0, r0⟩ := trodAll_cons hA
  obtain ⟨v1, vs1, d1, ds1, p1, q1, rfl, rfl, rfl, h1, r1⟩ := trodAll_cons r0
  obtain ⟨rfl, rfl, rfl⟩ := trodAll_nil r1
  obtain rfl : args = #[v0, v1] := by cases args; simp_all
  obtain ⟨rfl, rfl⟩ := trodVars_none hV
  obtain ⟨n0, rfl, rfl, rfl, w0⟩ := open_int Go.Proofs.Try.underlying5 (hval 0 5 v0 rfl rfl) h0
  obtain ⟨t, ct, rfl, ht, hwf, hsz⟩ := treeArg_of treeO baseS specT (bulkF H) (hval 1 26 v1 rfl rfl) h1
  have hc := hcond _ rfl
  have hsz2 : szT t ≤ 1048576 := by
    have hc2 : Rows.uptoBulkAll ([.lit (.int .u8 n0), d1] ++ []) ≤ 1048576 := of_decide_eq_true hc
    simp only [List.cons_append, List.nil_append, Rows.uptoBulkAll] at hc2
    omega
  have lt1 : ∀ x ∈ p1, x.block < W.heap.size := by obtain ⟨m, hm⟩ := h1; exact DataW.trod_lt m _ _ _ hm
  have hn0 : 0 ≤ n0 ∧ n0 ≤ 255 := by
    simp [Lit.wf, IntKind.min, IntKind.max, IntKind.signed, IntKind.bits] at w0
    omega
  clear hA0 hval0
  refine Calls.mono (call_lawM baseS fnsS spT implT trF thSZ thSW apC smk smg (by decide) (by decide) (by decide) lawT fd_law (n := n0) hn0 ht hwf hsz2) fun e W' ⟨v', he, hv', hm⟩ => ?_
  subst he hv'
  have bel := hm.below
  exact ⟨_, rfl, _, _, _, [], _, [], hW', trodAll_mk1 (shut_bool Go.Proofs.Try.underlying4 _), trodAll_cons_mk (shut_int Go.Proofs.Try.underlying5 w0) (trodAll_cons_mk (Below.trod laidOut (by kernel_rfl) (of_decide_eq_true (by kernel_rfl)) h1 bel lt1) trodAll_mk0), rfl, bel.frame _, fun h => by cases h⟩

set_option maxHeartbeats 4000000 in
theorem joined : joinedFacts Go.Proofs.Try.prog 7 Go.Proofs.Try.f7 (Rows.OpenSpec.upto Rows.fnMakeListOffsetsRequestSpec).bare Rows.fnMakeListOffsetsRequestUptoRow = true := by
  unfold joinedFacts
  exact bandT (bandT (bandT (bandT (bandT (bandT (bandT (bandT (bandT (bandT (bandT (bandT (bandT (bandT (bandT (bandT (bandT (bandT (bandT (bandT (bandT (bandT (bandT (bandT (bandT (bandT (bandT (bandT (bandT (bandT (bandT (by as_aux_lemma => kernel_rfl) laidOut) mapsRowedS) (by as_aux_lemma => kernel_rfl)) (by as_aux_lemma => kernel_rfl)) (by as_aux_lemma => kernel_rfl)) (by as_aux_lemma => kernel_rfl)) (by as_aux_lemma => kernel_rfl)) (by as_aux_lemma => kernel_rfl)) (by as_aux_lemma => kernel_rfl)) (by as_aux_lemma => kernel_rfl)) (by as_aux_lemma => kernel_rfl)) (by as_aux_lemma => kernel_rfl)) (by as_aux_lemma => kernel_rfl)) (by as_aux_lemma => kernel_rfl)) (by as_aux_lemma => kernel_rfl)) (by as_aux_lemma => kernel_rfl)) (by as_aux_lemma => kernel_rfl)) (by as_aux_lemma => kernel_rfl)) (by as_aux_lemma => kernel_rfl)) (by as_aux_lemma => kernel_rfl)) (by as_aux_lemma => kernel_rfl)) plainKeysS) (by as_aux_lemma => kernel_rfl)) stopsHeardS) bigEnter) bigLifts) bigMake) (by as_aux_lemma => kernel_rfl)) (by as_aux_lemma => kernel_rfl)) (by as_aux_lemma => kernel_rfl)) (by as_aux_lemma => kernel_rfl)
theorem named : Go.Proofs.Try.prog.funcNamed Rows.fnMakeListOffsetsRequestUptoRow.func = some 7 := by kernel_rfl
theorem isInst : Go.Proofs.Try.f7.isInstance Go.Proofs.Try.prog Rows.fnMakeListOffsetsRequestUptoRow.origin Rows.fnMakeListOffsetsRequestUptoRow.targs := of_decide_eq_true (by kernel_rfl)
theorem isWrap : Go.Proofs.Try.f7.isWrapper Go.Proofs.Try.prog Rows.fnMakeListOffsetsRequestUptoRow.wrapper Rows.fnMakeListOffsetsRequestUptoRow.mainSum := by unfold Func.isWrapper; first | (rw [if_pos (by decide +kernel)]; kernel_rfl) | (rw [if_neg (by decide +kernel)]; exact ⟨rfl, rfl⟩)
theorem row : Rows.FnMakeListOffsetsRequestUptoSaid :=
  OpenClaim.holds_of_cond 7 Go.Proofs.Try.f7 rfl rfl rfl rfl rfl rfl rfl ⟨rfl, rfl, rfl, rfl, rfl⟩ rfl rfl rfl rfl rfl named Go.Proofs.Try.func7 joined
    isInst isWrap
    (fun os started H enc _ F => by rw [OpenClaim.pre_eq_preRow]; exact lifted os started H enc F)
#print axioms row
end Go.Proofs.Ytlildailoffclaa.fnMakeListOffsetsRequest
namespace Go.Proofs.Ytlildailoffclaa
theorem fnMakeListOffsetsRequest_holds : Rows.FnMakeListOffsetsRequestUptoSaid := fnMakeListOffsetsRequest.row
end Go.Proofs.Ytlildailoffclaa
