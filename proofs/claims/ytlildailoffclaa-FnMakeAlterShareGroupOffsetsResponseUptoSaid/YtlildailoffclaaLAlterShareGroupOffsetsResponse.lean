/- A message that is set out of a tree is written as the reference writes that tree (laws.FnMakeAlterShareGroupOffsetsResponse): the statement's second form is proved, at every version number and every tree whose bulk is at most 1048576; no other condition. -/
import Derived.Test.YtlildailoffclaaKs
set_option linter.unusedSimpArgs false
set_option linter.unusedVariables false
set_option maxRecDepth 100000
namespace Go.Kf
open Go

def rAlterShareGroupOffsetsResponseTopicPartition : Fds := .cons .all (.pr .i32 none) (.cons .all (.pr .i16 none) (.cons .all (.txt .nstr) (.tags)))

def rAlterShareGroupOffsetsResponseTopic : Fds := .cons .all (.txt .str) (.cons .all (.pr .uuid none) (.cons .all (.arr 153 none (.row 159 158 196 (.cons .all (.pr .i32 none) (.cons .all (.pr .i16 none) (.cons .all (.txt .nstr) (.tags)))))) (.tags)))
def mfS : TypeId → FuncId := fun t => bif Nat.beq t 159 then 137 else bif Nat.beq t 155 then 119 else 0
theorem fmk_AlterShareGroupOffsetsResponseTopicPartition : FOk Go.Proofs.Try.prog 137 1 (rAlterShareGroupOffsetsResponseTopicPartition.mkC NS LN mfS 159) [.cell 2 159] := ⟨Go.Proofs.Try.f137, _, [0, 1, 2, 3, 21, 22, 23, 24, 5], Go.Proofs.Try.func137, rfl, by kernel_rfl, by kernel_rfl, by decide, by kernel_rfl, by kernel_rfl⟩
theorem hf_AlterShareGroupOffsetsResponseTopicPartition : rAlterShareGroupOffsetsResponseTopicPartition.hf Go.Proofs.Try.prog 159 0 0 := Fds.hfBs_ok (by kernel_rfl)
theorem aok_AlterShareGroupOffsetsResponseTopicPartition : rAlterShareGroupOffsetsResponseTopicPartition.aok Go.Proofs.Try.prog NS AN := ⟨⟨by decide, ⟨(fun h => nomatch h), fun h => absurd h (by decide)⟩⟩, ⟨⟨by decide, ⟨(fun h => nomatch h), fun h => absurd h (by decide)⟩⟩, ⟨⟨by decide, by decide, fun _ => by decide⟩, trivial⟩⟩⟩
theorem fok_AlterShareGroupOffsetsResponseTopicPartition : rAlterShareGroupOffsetsResponseTopicPartition.fok Go.Proofs.Try.prog NS LN mfS .mk := ⟨⟨(fun h => nomatch h), ⟨(fun h => nomatch h), fun h => absurd h (by decide)⟩, rfl⟩, ⟨⟨(fun h => nomatch h), ⟨(fun h => nomatch h), fun h => absurd h (by decide)⟩, rfl⟩, ⟨⟨.inr ⟨rfl, by decide⟩, fun _ => by decide⟩, trivial⟩⟩⟩
theorem mkr_AlterShareGroupOffsetsResponseTopicPartition : MkRow Go.Proofs.Try.prog 137 rAlterShareGroupOffsetsResponseTopicPartition := by
  obtain ⟨fs, h⟩ := tsB_ok (P := Go.Proofs.Try.prog) (t := 159) (sz := rAlterShareGroupOffsetsResponseTopicPartition.sz) (by' := bytesOf Go.Proofs.Try.prog 159) (z := .agg rAlterShareGroupOffsetsResponseTopicPartition.zero.toArray) (by kernel_rfl)
  exact mkRow_of baseS fnsS spT implT trF smg fok_AlterShareGroupOffsetsResponseTopicPartition fmk_AlterShareGroupOffsetsResponseTopicPartition h hf_AlterShareGroupOffsetsResponseTopicPartition (one_of (by kernel_rfl))
theorem fmk_AlterShareGroupOffsetsResponseTopic : FOk Go.Proofs.Try.prog 119 1 (rAlterShareGroupOffsetsResponseTopic.mkC NS LN mfS 155) [.cell 2 155] := ⟨Go.Proofs.Try.f119, _, [0, 1, 2, 3, 21, 30, 31, 32, 33, 5, 45, 46, 47, 48, 7], Go.Proofs.Try.func119, rfl, by kernel_rfl, by kernel_rfl, by decide, by kernel_rfl, by kernel_rfl⟩
theorem hf_AlterShareGroupOffsetsResponseTopic : rAlterShareGroupOffsetsResponseTopic.hf Go.Proofs.Try.prog 155 0 0 := Fds.hfBs_ok (by kernel_rfl)
theorem aok_AlterShareGroupOffsetsResponseTopic : rAlterShareGroupOffsetsResponseTopic.aok Go.Proofs.Try.prog NS AN := ⟨⟨by decide, by decide, fun h => nomatch h⟩, ⟨⟨by decide, ⟨fun _ => by decide, fun h => absurd h (by decide)⟩⟩, ⟨⟨zih (by kernel_rfl), (tsB_ok (P := Go.Proofs.Try.prog) (t := 159) (sz := rAlterShareGroupOffsetsResponseTopicPartition.sz) (by' := bytesOf Go.Proofs.Try.prog 159) (z := .agg rAlterShareGroupOffsetsResponseTopicPartition.zero.toArray) (by kernel_rfl)).elim fun _ h => ⟨_, _, _, h⟩, ⟨by decide, by decide⟩, ⟨hf_AlterShareGroupOffsetsResponseTopicPartition, aok_AlterShareGroupOffsetsResponseTopicPartition⟩⟩, trivial⟩⟩⟩
theorem fok_AlterShareGroupOffsetsResponseTopic : rAlterShareGroupOffsetsResponseTopic.fok Go.Proofs.Try.prog NS LN mfS .mk := ⟨⟨.inl rfl, (fun h => nomatch h)⟩, ⟨⟨fun _ => by decide, ⟨fun _ => by decide, fun h => absurd h (by decide)⟩, rfl⟩, ⟨⟨zih (by kernel_rfl), (tsB_ok (P := Go.Proofs.Try.prog) (t := 159) (sz := rAlterShareGroupOffsetsResponseTopicPartition.sz) (by' := bytesOf Go.Proofs.Try.prog 159) (z := .agg rAlterShareGroupOffsetsResponseTopicPartition.zero.toArray) (by kernel_rfl)).elim fun _ h => ⟨_, _, _, h, by kernel_rfl, of_decide_eq_true (by kernel_rfl)⟩, of_decide_eq_true (by kernel_rfl), of_decide_eq_true (by kernel_rfl), ⟨fmk_AlterShareGroupOffsetsResponseTopicPartition.has, mkr_AlterShareGroupOffsetsResponseTopicPartition⟩⟩, trivial⟩⟩⟩
theorem mkr_AlterShareGroupOffsetsResponseTopic : MkRow Go.Proofs.Try.prog 119 rAlterShareGroupOffsetsResponseTopic := by
  obtain ⟨fs, h⟩ := tsB_ok (P := Go.Proofs.Try.prog) (t := 155) (sz := rAlterShareGroupOffsetsResponseTopic.sz) (by' := bytesOf Go.Proofs.Try.prog 155) (z := .agg rAlterShareGroupOffsetsResponseTopic.zero.toArray) (by kernel_rfl)
  exact mkRow_of baseS fnsS spT implT trF smg fok_AlterShareGroupOffsetsResponseTopic fmk_AlterShareGroupOffsetsResponseTopic h hf_AlterShareGroupOffsetsResponseTopic (one_of (by kernel_rfl))

def mS : Msg := ⟨97, 92, 116, 0, false, .cons .all (.pr .i32 none) (.cons .all (.pr .i16 none) (.cons .all (.txt .nstr) (.cons .all (.arr 95 none (.row 155 157 195 (.cons .all (.txt .str) (.cons .all (.pr .uuid none) (.cons .all (.arr 153 none (.row 159 158 196 (.cons .all (.pr .i32 none) (.cons .all (.pr .i16 none) (.cons .all (.txt .nstr) (.tags)))))) (.tags)))))) (.tags))))⟩
def dS : MkN where
  newP := 69
  setV := 72
  maxV := 70
  maxI := 31
  fillI := 73
  app := 74
  mkI := 33
theorem df_m : FOk Go.Proofs.Try.prog 116 1 (seqs (mS.fs.dfl NS mS.tT 1)) [] := ⟨Go.Proofs.Try.f116, _, [0], Go.Proofs.Try.func116, rfl, by kernel_rfl, by kernel_rfl, by decide, by kernel_rfl, by kernel_rfl⟩
theorem fd_new : FOk Go.Proofs.Try.prog 69 0 (c_new NS mS.tT mS.dflt) [.var 0] := ⟨Go.Proofs.Try.f69, _, [0, 1], Go.Proofs.Try.func69, rfl, by kernel_rfl, by kernel_rfl, by decide, by kernel_rfl, by kernel_rfl⟩
theorem fd_set : FOk Go.Proofs.Try.prog 72 2 (c_set NS mS.tT) [] := ⟨Go.Proofs.Try.f72, _, [0, 1], Go.Proofs.Try.func72, rfl, by kernel_rfl, by kernel_rfl, by decide, by kernel_rfl, by kernel_rfl⟩
theorem fd_mv : FOk Go.Proofs.Try.prog 70 1 (c_max 0) [.var 1] := ⟨Go.Proofs.Try.f70, _, [0, 2], Go.Proofs.Try.func70, rfl, by kernel_rfl, by kernel_rfl, by decide, by kernel_rfl, by kernel_rfl⟩
theorem fd_mi : FOk Go.Proofs.Try.prog 31 0 (c_maxI NS mS.pT 69 70) [.var 0] := ⟨Go.Proofs.Try.f31, _, [0], Go.Proofs.Try.func31, rfl, by kernel_rfl, by kernel_rfl, by decide, by kernel_rfl, by kernel_rfl⟩
theorem fd_app : FOk Go.Proofs.Try.prog 74 2 (mS.appC NS AN) [.var 2] := ⟨Go.Proofs.Try.f74, _, [0, 1, 4, 5, 6, 7, 8, 9, 47, 10, 58, 68, 69, 70, 11, 12, 13, 79, 14, 15, 97, 107, 108, 109, 16, 17, 18, 19, 20, 132, 139, 154, 169], Go.Proofs.Try.func74, rfl, by kernel_rfl, by kernel_rfl, by decide, by kernel_rfl, by kernel_rfl⟩
theorem fd_fill : FOk Go.Proofs.Try.prog 73 2 (mS.fillC NS LN mfS) [] := ⟨Go.Proofs.Try.f73, _, [0, 1, 3, 31, 42, 43, 44, 45, 5, 61, 62, 63, 64, 7], Go.Proofs.Try.func73, rfl, by kernel_rfl, by kernel_rfl, by decide, by kernel_rfl, by kernel_rfl⟩
theorem fd_door : FOk Go.Proofs.Try.prog 33 2 (c_doorM NS mS.tT mS.pT 72 73 74) [.var 3] := ⟨Go.Proofs.Try.f33, _, [0, 1, 3, 4, 5], Go.Proofs.Try.func33, rfl, by kernel_rfl, by kernel_rfl, by decide, by kernel_rfl, by kernel_rfl⟩
theorem aokS : mS.fs.aok Go.Proofs.Try.prog NS AN := ⟨⟨by decide, ⟨(fun h => nomatch h), fun h => absurd h (by decide)⟩⟩, ⟨⟨by decide, ⟨(fun h => nomatch h), fun h => absurd h (by decide)⟩⟩, ⟨⟨by decide, by decide, fun _ => by decide⟩, ⟨⟨zih (by kernel_rfl), (tsB_ok (P := Go.Proofs.Try.prog) (t := 155) (sz := rAlterShareGroupOffsetsResponseTopic.sz) (by' := bytesOf Go.Proofs.Try.prog 155) (z := .agg rAlterShareGroupOffsetsResponseTopic.zero.toArray) (by kernel_rfl)).elim fun _ h => ⟨_, _, _, h⟩, ⟨by decide, by decide⟩, ⟨hf_AlterShareGroupOffsetsResponseTopic, aok_AlterShareGroupOffsetsResponseTopic⟩⟩, trivial⟩⟩⟩⟩
theorem fokS : mS.fs.fok Go.Proofs.Try.prog NS LN mfS .fill := ⟨⟨(fun h => nomatch h), ⟨(fun h => nomatch h), fun h => absurd h (by decide)⟩, rfl⟩, ⟨⟨(fun h => nomatch h), ⟨(fun h => nomatch h), fun h => absurd h (by decide)⟩, rfl⟩, ⟨⟨.inr ⟨rfl, by decide⟩, fun _ => by decide⟩, ⟨⟨zih (by kernel_rfl), (tsB_ok (P := Go.Proofs.Try.prog) (t := 155) (sz := rAlterShareGroupOffsetsResponseTopic.sz) (by' := bytesOf Go.Proofs.Try.prog 155) (z := .agg rAlterShareGroupOffsetsResponseTopic.zero.toArray) (by kernel_rfl)).elim fun _ h => ⟨_, _, _, h, by kernel_rfl, of_decide_eq_true (by kernel_rfl)⟩, of_decide_eq_true (by kernel_rfl), of_decide_eq_true (by kernel_rfl), ⟨fmk_AlterShareGroupOffsetsResponseTopic.has, mkr_AlterShareGroupOffsetsResponseTopic⟩⟩, trivial⟩⟩⟩⟩
theorem door : MkD Go.Proofs.Try.prog NS MS AN LN mfS mS dS := ⟨⟨[(0, 1), (1, 1), (2, 1), (3, 1), (4, 1), (5, 1)], bytesOf Go.Proofs.Try.prog 97, sfB_ok (by kernel_rfl)⟩, one_of (by kernel_rfl), Fds.hfBs_ok (by kernel_rfl), zus (by kernel_rfl), trivial, df_m, fd_new, fd_set, fd_fill, fokS, fd_app, aokS, fd_door⟩

def sc_sAlterShareGroupOffsetsResponseTopicPartition : List SC := [.mk [(0, 3), (2, -1), (3, -1), (4, -1)] none [], .mk [(0, 2), (2, -1), (3, -1), (4, -1)] none [], .mk [(0, 8), (2, -1), (3, 0), (4, -1)] none []]
theorem fsc_sAlterShareGroupOffsetsResponseTopicPartition : FOk Go.Proofs.Try.prog 117 0 (c_flds MS sc_sAlterShareGroupOffsetsResponseTopicPartition) [.var 0] := ⟨Go.Proofs.Try.f117, _, [0], Go.Proofs.Try.func117, rfl, by kernel_rfl, by kernel_rfl, by decide, by kernel_rfl, by kernel_rfl⟩
theorem mk_sAlterShareGroupOffsetsResponseTopicPartition : MkOk Go.Proofs.Try.prog 117 (SC.flds sc_sAlterShareGroupOffsetsResponseTopicPartition) := mk_flds (l := sc_sAlterShareGroupOffsetsResponseTopicPartition) spT (by kernel_rfl) ⟨rfl, ⟨rfl, ⟨rfl, trivial⟩⟩⟩ fsc_sAlterShareGroupOffsetsResponseTopicPartition

def sc_sAlterShareGroupOffsetsResponseTopic : List SC := [.mk [(0, 8), (2, -1), (3, -1), (4, -1)] none [], .mk [(0, 7), (2, -1), (3, -1), (4, -1)] none [], .mk [(0, 11), (2, -1), (3, -1), (4, -1), (6, 10)] (some 117) sc_sAlterShareGroupOffsetsResponseTopicPartition]
theorem fsc_sAlterShareGroupOffsetsResponseTopic : FOk Go.Proofs.Try.prog 71 0 (c_flds MS sc_sAlterShareGroupOffsetsResponseTopic) [.var 0] := ⟨Go.Proofs.Try.f71, _, [0], Go.Proofs.Try.func71, rfl, by kernel_rfl, by kernel_rfl, by decide, by kernel_rfl, by kernel_rfl⟩
theorem mk_sAlterShareGroupOffsetsResponseTopic : MkOk Go.Proofs.Try.prog 71 (SC.flds sc_sAlterShareGroupOffsetsResponseTopic) := mk_flds (l := sc_sAlterShareGroupOffsetsResponseTopic) spT (by kernel_rfl) ⟨rfl, ⟨rfl, ⟨⟨mk_sAlterShareGroupOffsetsResponseTopicPartition, fsc_sAlterShareGroupOffsetsResponseTopicPartition.has⟩, trivial⟩⟩⟩ fsc_sAlterShareGroupOffsetsResponseTopic

def sc_AlterShareGroupOffsetsResponse : List SC := [.mk [(0, 3), (2, -1), (3, -1), (4, -1)] none [], .mk [(0, 2), (2, -1), (3, -1), (4, -1)] none [], .mk [(0, 8), (2, -1), (3, 0), (4, -1)] none [], .mk [(0, 11), (2, -1), (3, -1), (4, -1), (6, 10)] (some 71) sc_sAlterShareGroupOffsetsResponseTopic]
theorem fsc_AlterShareGroupOffsetsResponse : FOk Go.Proofs.Try.prog 32 0 (c_msg MS sc_AlterShareGroupOffsetsResponse (0)) [.cell 0 MS.zao] := ⟨Go.Proofs.Try.f32, _, [0], Go.Proofs.Try.func32, rfl, by kernel_rfl, by kernel_rfl, by decide, by kernel_rfl, by kernel_rfl⟩
theorem lawT : LawMM Go.Proofs.Try.prog NS MS AN LN mfS mS dS 0 32 sc_AlterShareGroupOffsetsResponse (0) := ⟨door, fd_mv, fd_mi, by decide, by decide, by decide, fsc_AlterShareGroupOffsetsResponse, by kernel_rfl, ⟨rfl, ⟨rfl, ⟨rfl, ⟨⟨mk_sAlterShareGroupOffsetsResponseTopic, fsc_sAlterShareGroupOffsetsResponseTopic.has⟩, trivial⟩⟩⟩⟩, by kernel_rfl, by kernel_rfl, by kernel_rfl⟩
theorem fd_law : FOk Go.Proofs.Try.prog 8 2 (c_lawM NS MS LN dS.maxI dS.mkI 32) [.var 3] := ⟨Go.Proofs.Try.f8, _, [0, 1, 3, 4, 10, 5, 13, 6, 7], Go.Proofs.Try.func8, rfl, by kernel_rfl, by kernel_rfl, by decide, by kernel_rfl, by kernel_rfl⟩
end Go.Kf

namespace Go.Proofs.Ytlildailoffclaa.fnMakeAlterShareGroupOffsetsResponse
open Go.ChangeShapes Go.WideShapes Go.ChangeAt Go.RowKit Go.Kf

theorem reads (os : Os) {H : Type} (enc : TypeId × Value → H) : ∃ places, DataW.whole enc Go.Proofs.Try.prog ((World.doorLaid Go.Proofs.Try.prog 400 os).forCall (fun _ _ => 0) ⟨#[], #[.int .u8 0, .agg #[.int .i64 0, .slice none 0 0, .bool false, .slice none 0 0, .slice none 0 0]], []⟩).memory Go.Proofs.Try.f8.params.toList Rows.fnMakeAlterShareGroupOffsetsResponseSpec.vars false #[Value.int .u8 0, .agg #[.int .i64 0, .slice none 0 0, .bool false, .slice none 0 0, .slice none 0 0]].toList 8 = some ([.lit (.int .u8 0), .agg [.lit (.int .i64 0), .nil, .lit (.bool false), .nil, .nil]], [], places) :=
  ⟨[], by kernel_rfl⟩
set_option maxHeartbeats 4000000 in
theorem lifted (os : Os) (started : os.Started) (H : Type) (enc : TypeId × Value → H) (F : Stop.Interp) :
    ReturnsInHanded {} Go.Proofs.Try.checked os 8 .any ((Rows.OpenSpec.upto Rows.fnMakeAlterShareGroupOffsetsResponseSpec).preRow enc Go.Proofs.Try.prog Go.Proofs.Try.f8 Rows.fnMakeAlterShareGroupOffsetsResponseUptoRow.domain false Rows.fnMakeAlterShareGroupOffsetsResponseUptoRow.laid) (((Rows.OpenSpec.upto Rows.fnMakeAlterShareGroupOffsetsResponseSpec).at F).post enc Go.Proofs.Try.prog Go.Proofs.Try.f8 false true false false) := by
  obtain ⟨places, hx⟩ := reads os enc
  refine returnsInHanded_of_row (C := Go.Proofs.Try.checked) (s := Rows.OpenSpec.upto Rows.fnMakeAlterShareGroupOffsetsResponseSpec) own started (by kernel_rfl) Go.Proofs.Try.func8
    ⟨World.doorLaid Go.Proofs.Try.prog 400 os, fun _ _ => 0, ⟨#[], #[.int .u8 0, .agg #[.int .i64 0, .slice none 0 0, .bool false, .slice none 0 0, .slice none 0 0]], []⟩, rfl, shaped os _, rfl, (Input.okWide_of_okWideB (by kernel_rfl)).2,
      OpenSpec.preRow_of_cond 8 hx (by kernel_rfl) (fun k hk => by cases hk; kernel_rfl) (by kernel_rfl) (laidMetH_nil _ _), by
        simp only [Assume.holds]
        exact ⟨by simp, by simp, fun _ => Modest.zero, by simp, by simp⟩⟩ ?_
  intro W base args ds gs before hval0 hW _ hcond _ _ _ _
  have hval : ∀ (j : Nat) t v, Go.Proofs.Try.f8.params[j]? = some t → args[j]? = some v → Value.okWide Go.Proofs.Try.prog W .any base t v := hval0
  have hW' := hW
  obtain ⟨p, q, hA0, hV, rfl, hfz, hnd⟩ := hW
  have hA : DataW.TrodAll enc Go.Proofs.Try.prog W 0 (fun _ => true) true Go.Proofs.Try.f8.params.toList args.toList ds p := hA0
  rw [Go.Proofs.Try.params8] at hA hval
  obtain ⟨v0, vs0, d0, ds0, p0, q0, hargs, rfl, rfl, h0, r0⟩ := trodAll_cons hA
  obtain ⟨v1, vs1, d1, ds1, p1, q1, rfl, rfl, rfl, h1, r1⟩ := trodAll_cons r0
  obtain ⟨rfl, rfl, rfl⟩ := trodAll_nil r1
  obtain rfl : args = #[v0, v1] := by cases args; simp_all
  obtain ⟨rfl, rfl⟩ := trodVars_none hV
  obtain ⟨n0, rfl, rfl, rfl, w0⟩ := open_int Go.Proofs.Try.underlying5 (hval 0 5 v0 rfl rfl) h0
  obtain ⟨t, ct, rfl, ht, hwf, hsz⟩ := treeArg_of treeO baseS specT (bulkF H) (hval 1 26 v1 rfl rfl) h1
  have hc := hcond _ rfl
  have hsz2 : szT t ≤ 1048576 := by
    have hc2 : Rows.uptoBulkAll ([.lit (.int .u8 n0), d1] ++ []) ≤ 1048576 := of_decide_eq_true hc
    simp only [List.cons_append, List.nil_append, Rows.uptoBulkAll] at hc2
    omega
  have lt1 : ∀ x ∈ p1, x.block < W.heap.size := by obtain ⟨m, hm⟩ := h1; exact DataW.trod_lt m _ _ _ hm
  have hn0 : 0 ≤ n0 ∧ n0 ≤ 255 := by
    simp [Lit.wf, IntKind.min, IntKind.max, IntKind.signed, IntKind.bits] at w0
    omega
  clear hA0 hval0
  refine Calls.mono (call_lawM baseS fnsS spT implT trF thSZ thSW apC smk smg (by decide) (by decide) (by decide) lawT fd_law (n := n0) hn0 ht hwf hsz2) fun e W' ⟨v', he, hv', hm⟩ => ?_
  subst he hv'
  have bel := hm.below
  exact ⟨_, rfl, _, _, _, [], _, [], hW', trodAll_mk1 (shut_bool Go.Proofs.Try.underlying4 _), trodAll_cons_mk (shut_int Go.Proofs.Try.underlying5 w0) (trodAll_cons_mk (Below.trod laidOut (by kernel_rfl) (of_decide_eq_true (by kernel_rfl)) h1 bel lt1) trodAll_mk0), rfl, bel.frame _, fun h => by cases h⟩

set_option maxHeartbeats 4000000 in
theorem joined : joinedFacts Go.Proofs.Try.prog 8 Go.Proofs.Try.f8 (Rows.OpenSpec.upto Rows.fnMakeAlterShareGroupOffsetsResponseSpec).bare Rows.fnMakeAlterShareGroupOffsetsResponseUptoRow = true := by
  unfold joinedFacts
  exact bandT (bandT (bandT (bandT (bandT (bandT (bandT (bandT (bandT (bandT (bandT (bandT (bandT (bandT (bandT (bandT (bandT (bandT (bandT (bandT (bandT (bandT (bandT (bandT (bandT (bandT (bandT (bandT (bandT (bandT (bandT (by as_aux_lemma => kernel_rfl) laidOut) mapsRowedS) (by as_aux_lemma => kernel_rfl)) (by as_aux_lemma => kernel_rfl)) (by as_aux_lemma => kernel_rfl)) (by as_aux_lemma => kernel_rfl)) (by as_aux_lemma => kernel_rfl)) (by as_aux_lemma => kernel_rfl)) (by as_aux_lemma => kernel_rfl)) (by as_aux_lemma => kernel_rfl)) (by as_aux_lemma => kernel_rfl)) (by as_aux_lemma => kernel_rfl)) (by as_aux_lemma => kernel_rfl)) (by as_aux_lemma => kernel_rfl)) (by as_aux_lemma => kernel_rfl)) (by as_aux_lemma => kernel_rfl)) (by as_aux_lemma => kernel_rfl)) (by as_aux_lemma => kernel_rfl)) (by as_aux_lemma => kernel_rfl)) (by as_aux_lemma => kernel_rfl)) (by as_aux_lemma => kernel_rfl)) plainKeysS) (by as_aux_lemma => kernel_rfl)) stopsHeardS) bigEnter) bigLifts) bigMake) (by as_aux_lemma => kernel_rfl)) (by as_aux_lemma => kernel_rfl)) (by as_aux_lemma => kernel_rfl)) (by as_aux_lemma => kernel_rfl)
theorem named : Go.Proofs.Try.prog.funcNamed Rows.fnMakeAlterShareGroupOffsetsResponseUptoRow.func = some 8 := by kernel_rfl
theorem isInst : Go.Proofs.Try.f8.isInstance Go.Proofs.Try.prog Rows.fnMakeAlterShareGroupOffsetsResponseUptoRow.origin Rows.fnMakeAlterShareGroupOffsetsResponseUptoRow.targs := of_decide_eq_true (by kernel_rfl)
theorem isWrap : Go.Proofs.Try.f8.isWrapper Go.Proofs.Try.prog Rows.fnMakeAlterShareGroupOffsetsResponseUptoRow.wrapper Rows.fnMakeAlterShareGroupOffsetsResponseUptoRow.mainSum := by unfold Func.isWrapper; first | (rw [if_pos (by decide +kernel)]; kernel_rfl) | (rw [if_neg (by decide +kernel)]; exact ⟨rfl, rfl⟩)
theorem row : Rows.FnMakeAlterShareGroupOffsetsResponseUptoSaid :=
  OpenClaim.holds_of_cond 8 Go.Proofs.Try.f8 rfl rfl rfl rfl rfl rfl rfl ⟨rfl, rfl, rfl, rfl, rfl⟩ rfl rfl rfl rfl rfl named Go.Proofs.Try.func8 joined
    isInst isWrap
    (fun os started H enc _ F => by rw [OpenClaim.pre_eq_preRow]; exact lifted os started H enc F)
#print axioms row
end Go.Proofs.Ytlildailoffclaa.fnMakeAlterShareGroupOffsetsResponse
namespace Go.Proofs.Ytlildailoffclaa
theorem fnMakeAlterShareGroupOffsetsResponse_holds : Rows.FnMakeAlterShareGroupOffsetsResponseUptoSaid := fnMakeAlterShareGroupOffsetsResponse.row
end Go.Proofs.Ytlildailoffclaa
