/- A message that is written behind octets leaves these as they are, and follows them (laws.FnBehindLeaderAndISRResponse): the second form's tied card is proved, at every version number, all octets ahead and every tree whose bulk is at most 1048576; no other condition. -/
import Derived.Test.YtgmhkfdpdbecmaaGreatDoorKs
set_option linter.unusedSimpArgs false
set_option linter.unusedVariables false
set_option maxRecDepth 100000
namespace Go.Kf
open Go

def rLeaderAndISRResponseTopicPartition : Fds := .cons (.btw 0 4) (.txt .str) (.cons .all (.pr .i32 none) (.cons .all (.pr .i16 none) (.tags)))
theorem df_LeaderAndISRResponseTopicPartition : FOk Go.Proofs.Tryz.prog 205 1 (seqs (rLeaderAndISRResponseTopicPartition.dfl NS 144 0)) [] := ⟨Go.Proofs.Tryz.f205, _, [0], Go.Proofs.Tryz.func205, rfl, by kernel_rfl, by kernel_rfl, by decide, by kernel_rfl, by kernel_rfl⟩

def rLeaderAndISRResponseTopic : Fds := .cons .all (.pr .uuid none) (.cons .all (.arr 138 none (.row 144 142 205 (.cons (.btw 0 4) (.txt .str) (.cons .all (.pr .i32 none) (.cons .all (.pr .i16 none) (.tags)))))) (.tags))
theorem df_LeaderAndISRResponseTopic : FOk Go.Proofs.Tryz.prog 206 1 (seqs (rLeaderAndISRResponseTopic.dfl NS 147 0)) [] := ⟨Go.Proofs.Tryz.f206, _, [0], Go.Proofs.Tryz.func206, rfl, by kernel_rfl, by kernel_rfl, by decide, by kernel_rfl, by kernel_rfl⟩

def mS : Msg := ⟨141, 63, 157, 4, false, .cons .all (.pr .i16 none) (.cons (.btw 0 4) (.arr 138 none (.row 144 142 205 (.cons (.btw 0 4) (.txt .str) (.cons .all (.pr .i32 none) (.cons .all (.pr .i16 none) (.tags)))))) (.cons (.ge 5) (.arr 139 none (.row 147 145 206 (.cons .all (.pr .uuid none) (.cons .all (.arr 138 none (.row 144 142 205 (.cons (.btw 0 4) (.txt .str) (.cons .all (.pr .i32 none) (.cons .all (.pr .i16 none) (.tags)))))) (.tags))))) (.tags)))⟩
def dS : zyt where
  newP := 88
  setV := 92
  maxV := 89
  readF := 93
  readf := 158
  maxI := 36
  tellI := 38
theorem rd_m : FOk Go.Proofs.Tryz.prog 158 3 (mS.gen NS true) [.var 3] := ⟨Go.Proofs.Tryz.f158, _, [0, 1, 2, 6, 7, 8, 9, 10, 11, 60, 12, 13, 14, 66, 70, 75, 15, 81, 16, 17, 95, 18, 96, 97, 100, 19, 20, 117, 128, 21, 22, 23, 134, 138, 143, 24, 149, 25, 26, 27, 28, 29, 30, 168, 172, 177, 31, 183, 32, 33, 197, 34, 198, 199, 202, 35, 36, 219, 229, 239], Go.Proofs.Tryz.func158, rfl, by kernel_rfl, by kernel_rfl, by decide, by kernel_rfl, by kernel_rfl⟩
theorem df_m : FOk Go.Proofs.Tryz.prog 157 1 (seqs (mS.fs.dfl NS mS.tT 1)) [] := ⟨Go.Proofs.Tryz.f157, _, [0], Go.Proofs.Tryz.func157, rfl, by kernel_rfl, by kernel_rfl, by decide, by kernel_rfl, by kernel_rfl⟩
theorem mt : MsgT Go.Proofs.Tryz.prog NS mS true := msgT_of baseS fnsS (by kernel_rfl) (by kernel_rfl) (by kernel_rfl) ⟨trivial, ⟨⟨df_LeaderAndISRResponseTopicPartition, ⟨trivial, ⟨trivial, ⟨trivial, trivial⟩⟩⟩⟩, ⟨⟨df_LeaderAndISRResponseTopic, ⟨trivial, ⟨⟨df_LeaderAndISRResponseTopicPartition, ⟨trivial, ⟨trivial, ⟨trivial, trivial⟩⟩⟩⟩, trivial⟩⟩⟩, trivial⟩⟩⟩ df_m
theorem fd_new : FOk Go.Proofs.Tryz.prog 88 0 (c_new NS mS.tT mS.dflt) [.var 0] := ⟨Go.Proofs.Tryz.f88, _, [0, 1], Go.Proofs.Tryz.func88, rfl, by kernel_rfl, by kernel_rfl, by decide, by kernel_rfl, by kernel_rfl⟩
theorem fd_set : FOk Go.Proofs.Tryz.prog 92 2 (c_set NS mS.tT) [] := ⟨Go.Proofs.Tryz.f92, _, [0, 1], Go.Proofs.Tryz.func92, rfl, by kernel_rfl, by kernel_rfl, by decide, by kernel_rfl, by kernel_rfl⟩
theorem door : DoorT Go.Proofs.Tryz.prog NS mS true dS where
  msg := mt
  vin := rfl
  ti := (tsB_ok (by' := bytesOf Go.Proofs.Tryz.prog 141) (by kernel_rfl)).imp fun _ h => ⟨_, h⟩
  newP := fd_new
  setV := fd_set
  readf := rd_m
  tell := fun h => absurd rfl h
  dok := ⟨⟨_, rfl, by decide⟩, ⟨⟨⟨_, rfl, by decide⟩, ⟨⟨_, rfl, by decide⟩, trivial⟩⟩, ⟨⟨⟨List.replicate 16 0, rfl, rfl⟩, ⟨⟨⟨_, rfl, by decide⟩, ⟨⟨_, rfl, by decide⟩, trivial⟩⟩, trivial⟩⟩, trivial⟩⟩⟩
  shB := by kernel_rfl
  cnt := by decide
theorem fd_rf : FOk Go.Proofs.Tryz.prog 93 2 (c_rf NS mS.pT 158 false) [.var 2] := ⟨Go.Proofs.Tryz.f93, _, [0, 1, 4], Go.Proofs.Tryz.func93, rfl, by kernel_rfl, by kernel_rfl, by decide, by kernel_rfl, by kernel_rfl⟩
theorem fd_mv : FOk Go.Proofs.Tryz.prog 89 1 (c_max 7) [.var 1] := ⟨Go.Proofs.Tryz.f89, _, [0, 2], Go.Proofs.Tryz.func89, rfl, by kernel_rfl, by kernel_rfl, by decide, by kernel_rfl, by kernel_rfl⟩
theorem fd_mi : FOk Go.Proofs.Tryz.prog 36 0 (c_maxI NS mS.pT 88 89) [.var 0] := ⟨Go.Proofs.Tryz.f36, _, [0], Go.Proofs.Tryz.func36, rfl, by kernel_rfl, by kernel_rfl, by decide, by kernel_rfl, by kernel_rfl⟩
theorem fd_tellI : FOk Go.Proofs.Tryz.prog 38 3 (zzv NS mS.pT 88 92 93 94) [.var 3, .var 4] := ⟨Go.Proofs.Tryz.f38, _, [0, 1, 2, 6, 7, 8, 18], Go.Proofs.Tryz.func38, rfl, by kernel_rfl, by kernel_rfl, by decide, by kernel_rfl, by kernel_rfl⟩
theorem fd_app : FOk Go.Proofs.Tryz.prog 94 2 (mS.appC NS AN) [.var 2] := ⟨Go.Proofs.Tryz.f94, _, [0, 1, 4, 5, 6, 7, 44, 8, 49, 59, 60, 61, 9, 10, 71, 11, 76, 12, 13, 97, 113, 14, 118, 128, 129, 130, 15, 16, 17, 18, 146, 156, 157, 158, 19, 20, 168, 21, 173, 22, 23, 194, 209, 224], Go.Proofs.Tryz.func94, rfl, by kernel_rfl, by kernel_rfl, by decide, by kernel_rfl, by kernel_rfl⟩
theorem aokS : mS.fs.aok Go.Proofs.Tryz.prog NS AN := ⟨⟨by decide, fun h => nomatch h⟩, ⟨⟨zij (by kernel_rfl), el_ti (fx := true) baseS fnsS _ (by kernel_rfl) ⟨df_LeaderAndISRResponseTopicPartition, ⟨trivial, ⟨trivial, ⟨trivial, trivial⟩⟩⟩⟩, ⟨by decide, by decide⟩, ⟨(Fds.ok_of (fx := true) (Tt := 144) (idx := 0) (off := 0) baseS fnsS rLeaderAndISRResponseTopicPartition (by kernel_rfl) ⟨trivial, ⟨trivial, ⟨trivial, trivial⟩⟩⟩).2.1, ⟨⟨by decide, by decide, fun h => nomatch h⟩, ⟨⟨by decide, fun h => nomatch h⟩, ⟨⟨by decide, fun h => nomatch h⟩, trivial⟩⟩⟩⟩⟩, ⟨⟨zij (by kernel_rfl), el_ti (fx := true) baseS fnsS _ (by kernel_rfl) ⟨df_LeaderAndISRResponseTopic, ⟨trivial, ⟨⟨df_LeaderAndISRResponseTopicPartition, ⟨trivial, ⟨trivial, ⟨trivial, trivial⟩⟩⟩⟩, trivial⟩⟩⟩, ⟨by decide, by decide⟩, ⟨(Fds.ok_of (fx := true) (Tt := 147) (idx := 0) (off := 0) baseS fnsS rLeaderAndISRResponseTopic (by kernel_rfl) ⟨trivial, ⟨⟨df_LeaderAndISRResponseTopicPartition, ⟨trivial, ⟨trivial, ⟨trivial, trivial⟩⟩⟩⟩, trivial⟩⟩).2.1, ⟨⟨by decide, fun _ => by decide⟩, ⟨⟨zij (by kernel_rfl), el_ti (fx := true) baseS fnsS _ (by kernel_rfl) ⟨df_LeaderAndISRResponseTopicPartition, ⟨trivial, ⟨trivial, ⟨trivial, trivial⟩⟩⟩⟩, ⟨by decide, by decide⟩, ⟨(Fds.ok_of (fx := true) (Tt := 144) (idx := 0) (off := 0) baseS fnsS rLeaderAndISRResponseTopicPartition (by kernel_rfl) ⟨trivial, ⟨trivial, ⟨trivial, trivial⟩⟩⟩).2.1, ⟨⟨by decide, by decide, fun h => nomatch h⟩, ⟨⟨by decide, fun h => nomatch h⟩, ⟨⟨by decide, fun h => nomatch h⟩, trivial⟩⟩⟩⟩⟩, trivial⟩⟩⟩⟩, trivial⟩⟩⟩

def sc_sLeaderAndISRResponseTopicPartition : List SC := [.mk [(0, 8), (2, 4), (3, -1), (4, -1)] none [], .mk [(0, 3), (2, -1), (3, -1), (4, -1)] none [], .mk [(0, 2), (2, -1), (3, -1), (4, -1)] none []]
theorem fsc_sLeaderAndISRResponseTopicPartition : FOk Go.Proofs.Tryz.prog 90 0 (c_flds MS sc_sLeaderAndISRResponseTopicPartition) [.var 0] := ⟨Go.Proofs.Tryz.f90, _, [0], Go.Proofs.Tryz.func90, rfl, by kernel_rfl, by kernel_rfl, by decide, by kernel_rfl, by kernel_rfl⟩
theorem mk_sLeaderAndISRResponseTopicPartition : MkOk Go.Proofs.Tryz.prog 90 (SC.flds sc_sLeaderAndISRResponseTopicPartition) := mk_flds (l := sc_sLeaderAndISRResponseTopicPartition) spT (by kernel_rfl) ⟨rfl, ⟨rfl, ⟨rfl, trivial⟩⟩⟩ fsc_sLeaderAndISRResponseTopicPartition

def sc_sLeaderAndISRResponseTopic : List SC := [.mk [(0, 7), (2, -1), (3, -1), (4, -1)] none [], .mk [(0, 11), (2, -1), (3, -1), (4, -1), (6, 10)] (some 90) sc_sLeaderAndISRResponseTopicPartition]
theorem fsc_sLeaderAndISRResponseTopic : FOk Go.Proofs.Tryz.prog 91 0 (c_flds MS sc_sLeaderAndISRResponseTopic) [.var 0] := ⟨Go.Proofs.Tryz.f91, _, [0], Go.Proofs.Tryz.func91, rfl, by kernel_rfl, by kernel_rfl, by decide, by kernel_rfl, by kernel_rfl⟩
theorem mk_sLeaderAndISRResponseTopic : MkOk Go.Proofs.Tryz.prog 91 (SC.flds sc_sLeaderAndISRResponseTopic) := mk_flds (l := sc_sLeaderAndISRResponseTopic) spT (by kernel_rfl) ⟨rfl, ⟨⟨mk_sLeaderAndISRResponseTopicPartition, fsc_sLeaderAndISRResponseTopicPartition.has⟩, trivial⟩⟩ fsc_sLeaderAndISRResponseTopic

def sc_LeaderAndISRResponse : List SC := [.mk [(0, 2), (2, -1), (3, -1), (4, -1)] none [], .mk [(0, 11), (2, 4), (3, -1), (4, -1), (6, 10)] (some 90) sc_sLeaderAndISRResponseTopicPartition, .mk [(0, 11), (1, 5), (2, -1), (3, -1), (4, -1), (6, 10)] (some 91) sc_sLeaderAndISRResponseTopic]
theorem fsc_LeaderAndISRResponse : FOk Go.Proofs.Tryz.prog 37 0 (c_msg MS sc_LeaderAndISRResponse (4)) [.cell 0 MS.zas] := ⟨Go.Proofs.Tryz.f37, _, [0], Go.Proofs.Tryz.func37, rfl, by kernel_rfl, by kernel_rfl, by decide, by kernel_rfl, by kernel_rfl⟩
theorem lawT : LawBB Go.Proofs.Tryz.prog NS MS AN mS dS 94 7 37 sc_LeaderAndISRResponse (4) := ⟨door, fd_rf, fd_mv, fd_mi, fd_tellI, fd_app, aokS, by decide, by decide, by decide, fsc_LeaderAndISRResponse, by kernel_rfl, ⟨rfl, ⟨⟨mk_sLeaderAndISRResponseTopicPartition, fsc_sLeaderAndISRResponseTopicPartition.has⟩, ⟨⟨mk_sLeaderAndISRResponseTopic, fsc_sLeaderAndISRResponseTopic.has⟩, trivial⟩⟩⟩, by kernel_rfl, by kernel_rfl⟩
theorem fd_law : FOk Go.Proofs.Tryz.prog 9 3 (c_lawB NS MS 35 dS.maxI dS.tellI 37) [.var 4] := ⟨Go.Proofs.Tryz.f9, _, [0, 1, 2, 5, 6, 20, 7, 23, 8, 9, 30, 10, 11, 12], Go.Proofs.Tryz.func9, rfl, by kernel_rfl, by kernel_rfl, by decide, by kernel_rfl, by kernel_rfl⟩
end Go.Kf

namespace Go.Proofs.YtgmhkfdpdbecmaaGreatDoor.fnBehindLeaderAndISRResponse
open Go.ChangeShapes Go.WideShapes Go.ChangeAt Go.RowKit Go.Kf

theorem reads (os : Os) {H : Type} (enc : TypeId × Value → H) : ∃ places, DataW.whole enc Go.Proofs.Tryz.prog ((World.doorLaid Go.Proofs.Tryz.prog 400 os).forCall (fun _ _ => 0) ⟨#[], #[.int .u8 0, .slice none 0 0, .agg #[.int .i64 0, .slice none 0 0, .bool false, .slice none 0 0, .slice none 0 0]], []⟩).memory Go.Proofs.Tryz.f9.params.toList Rows.fnBehindLeaderAndISRResponseSpec.vars false #[Value.int .u8 0, .slice none 0 0, .agg #[.int .i64 0, .slice none 0 0, .bool false, .slice none 0 0, .slice none 0 0]].toList 8 = some ([.lit (.int .u8 0), .nil, .agg [.lit (.int .i64 0), .nil, .lit (.bool false), .nil, .nil]], [], places) :=
  ⟨[], by kernel_rfl⟩
set_option maxHeartbeats 4000000 in
theorem lifted (os : Os) (started : os.Started) (H : Type) (enc : TypeId × Value → H) (F : Stop.Interp) :
    ReturnsInHanded {} Go.Proofs.Tryz.checked os 9 .any ((Rows.OpenSpec.upto Rows.fnBehindLeaderAndISRResponseSpec).preRow enc Go.Proofs.Tryz.prog Go.Proofs.Tryz.f9 Rows.fnBehindLeaderAndISRResponseUptoRow.domain false Rows.fnBehindLeaderAndISRResponseUptoRow.laid) (((Rows.OpenSpec.upto Rows.fnBehindLeaderAndISRResponseSpec).at F).post enc Go.Proofs.Tryz.prog Go.Proofs.Tryz.f9 false true false false) := by
  obtain ⟨places, hx⟩ := reads os enc
  refine returnsInHanded_of_row (C := Go.Proofs.Tryz.checked) (s := Rows.OpenSpec.upto Rows.fnBehindLeaderAndISRResponseSpec) own started (by kernel_rfl) Go.Proofs.Tryz.func9
    ⟨World.doorLaid Go.Proofs.Tryz.prog 400 os, fun _ _ => 0, ⟨#[], #[.int .u8 0, .slice none 0 0, .agg #[.int .i64 0, .slice none 0 0, .bool false, .slice none 0 0, .slice none 0 0]], []⟩, rfl, shaped os _, rfl, (Input.okWide_of_okWideB (by kernel_rfl)).2,
      OpenSpec.preRow_of_cond 8 hx (by kernel_rfl) (fun k hk => by cases hk; kernel_rfl) (by kernel_rfl) (door_met os _), by
        simp only [Assume.holds]
        exact ⟨by simp, by simp, fun _ => Modest.zero, by simp, by simp⟩⟩ ?_
  intro W base args ds gs before hval0 hW _ hcond _ hL _ _
  have hval : ∀ (j : Nat) t v, Go.Proofs.Tryz.f9.params[j]? = some t → args[j]? = some v → Value.okWide Go.Proofs.Tryz.prog W .any base t v := hval0
  have hW' := hW
  obtain ⟨p, q, hA0, hV, rfl, hfz, hnd⟩ := hW
  have hA : DataW.TrodAll enc Go.Proofs.Tryz.prog W 0 (fun _ => true) true Go.Proofs.Tryz.f9.params.toList args.toList ds p := hA0
  rw [Go.Proofs.Tryz.params9] at hA hval
  obtain ⟨v0, vs0, d0, ds0, p0, q0, hargs, rfl, rfl, h0, r0⟩ := trodAll_cons hA
  obtain ⟨v1, vs1, d1, ds1, p1, q1, rfl, rfl, rfl, h1, r1⟩ := trodAll_cons r0
  obtain ⟨v2, vs2, d2, ds2, p2, q2, rfl, rfl, rfl, h2, r2⟩ := trodAll_cons r1
  obtain ⟨rfl, rfl, rfl⟩ := trodAll_nil r2
  obtain rfl : args = #[v0, v1, v2] := by cases args; simp_all
  obtain ⟨rfl, rfl⟩ := trodVars_none hV
  obtain ⟨n0, rfl, rfl, rfl, w0⟩ := open_int Go.Proofs.Tryz.underlying5 (hval 0 5 v0 rfl rfl) h0
  obtain ⟨dl, had⟩ := argOct_of Go.Proofs.Tryz.underlying22 Go.Proofs.Tryz.underlying5 (by kernel_rfl) (hval 1 22 v1 rfl rfl) h1
  obtain ⟨t, ct, rfl, ht, hwf, hsz⟩ := treeArg_of treeO baseS specT (bulkF H) (hval 2 26 v2 rfl rfl) h2
  have hc := hcond _ rfl
  have hsz2 : szT t ≤ 1048576 := by
    have hc2 : Rows.uptoBulkAll ([.lit (.int .u8 n0), d1, d2] ++ []) ≤ 1048576 := of_decide_eq_true hc
    simp only [List.cons_append, List.nil_append, Rows.uptoBulkAll] at hc2
    omega
  have lt1 : ∀ x ∈ p1, x.block < W.heap.size := by obtain ⟨m, hm⟩ := h1; exact DataW.trod_lt m _ _ _ hm
  have lt2 : ∀ x ∈ p2, x.block < W.heap.size := by obtain ⟨m, hm⟩ := h2; exact DataW.trod_lt m _ _ _ hm
  rw [MakeChecks.laidMetH_plain _ _ _ (by kernel_rfl)] at hL
  obtain ⟨a1, s1, hv1, _⟩ := laid_sentinel hL gO gT Go.Proofs.Tryz.underlying49 rowP Go.Proofs.Tryz.underlying264 Go.Proofs.Tryz.underlying282 rfl rfl Go.Proofs.Tryz.underlying9 cS cStr
  have hg : W.cell? ⟨0, 0, none⟩ = some (.iface 264 (.pointer (some a1))) := by simpa using World.var?_cell gO hv1 0
  have hn0 : 0 ≤ n0 ∧ n0 ≤ 255 := by
    simp [Lit.wf, IntKind.min, IntKind.max, IntKind.signed, IntKind.bits] at w0
    omega
  clear hA0 hval0
  refine Calls.mono (call_lawB baseS fnsS spT thSZ thSW apC (by decide) (by decide) lawT fd_law (n := n0) hn0 had ht hwf hsz2 hg) fun e W' ⟨v', he, hv', hm⟩ => ?_
  subst he hv'
  have bel := hm.below
  exact ⟨_, rfl, _, _, _, [], _, [], hW', trodAll_mk1 (shut_bool Go.Proofs.Tryz.underlying4 _), trodAll_cons_mk (shut_int Go.Proofs.Tryz.underlying5 w0) (trodAll_cons_mk (Below.trod laidOut (by kernel_rfl) (of_decide_eq_true (by kernel_rfl)) h1 bel lt1) (trodAll_cons_mk (Below.trod laidOut (by kernel_rfl) (of_decide_eq_true (by kernel_rfl)) h2 bel lt2) trodAll_mk0)), rfl, bel.frame _, fun h => by cases h⟩

set_option maxHeartbeats 4000000 in
theorem joined : joinedFacts Go.Proofs.Tryz.prog 9 Go.Proofs.Tryz.f9 (Rows.OpenSpec.upto Rows.fnBehindLeaderAndISRResponseSpec).bare Rows.fnBehindLeaderAndISRResponseUptoRow = true := by
  unfold joinedFacts
  exact bandT (bandT (bandT (bandT (bandT (bandT (bandT (bandT (bandT (bandT (bandT (bandT (bandT (bandT (bandT (bandT (bandT (bandT (bandT (bandT (bandT (bandT (bandT (bandT (bandT (bandT (bandT (bandT (bandT (bandT (bandT (by as_aux_lemma => kernel_rfl) laidOut) mapsRowedS) (by as_aux_lemma => kernel_rfl)) (by as_aux_lemma => kernel_rfl)) (by as_aux_lemma => kernel_rfl)) (by as_aux_lemma => kernel_rfl)) (by as_aux_lemma => kernel_rfl)) (by as_aux_lemma => kernel_rfl)) (by as_aux_lemma => kernel_rfl)) (by as_aux_lemma => kernel_rfl)) (by as_aux_lemma => kernel_rfl)) (by as_aux_lemma => kernel_rfl)) (by as_aux_lemma => kernel_rfl)) (by as_aux_lemma => kernel_rfl)) (by as_aux_lemma => kernel_rfl)) (by as_aux_lemma => kernel_rfl)) (by as_aux_lemma => kernel_rfl)) (by as_aux_lemma => kernel_rfl)) (by as_aux_lemma => kernel_rfl)) (by as_aux_lemma => kernel_rfl)) (by as_aux_lemma => kernel_rfl)) plainKeysS) (by as_aux_lemma => kernel_rfl)) stopsHeardS) bigEnter) bigLifts) bigMake) (by as_aux_lemma => kernel_rfl)) (by as_aux_lemma => kernel_rfl)) (by as_aux_lemma => kernel_rfl)) (by as_aux_lemma => kernel_rfl)
theorem named : Go.Proofs.Tryz.prog.funcNamed Rows.fnBehindLeaderAndISRResponseUptoRow.func = some 9 := by kernel_rfl
theorem isInst : Go.Proofs.Tryz.f9.isInstance Go.Proofs.Tryz.prog Rows.fnBehindLeaderAndISRResponseUptoRow.origin Rows.fnBehindLeaderAndISRResponseUptoRow.targs := of_decide_eq_true (by kernel_rfl)
theorem isWrap : Go.Proofs.Tryz.f9.isWrapper Go.Proofs.Tryz.prog Rows.fnBehindLeaderAndISRResponseUptoRow.wrapper Rows.fnBehindLeaderAndISRResponseUptoRow.mainSum := by unfold Func.isWrapper; first | (rw [if_pos (by decide +kernel)]; kernel_rfl) | (rw [if_neg (by decide +kernel)]; exact ⟨rfl, rfl⟩)
theorem row : Rows.FnBehindLeaderAndISRResponseUptoSaid :=
  OpenClaim.holds_of_cond 9 Go.Proofs.Tryz.f9 rfl rfl rfl rfl rfl rfl rfl ⟨rfl, rfl, rfl, rfl, rfl⟩ rfl rfl rfl rfl rfl named Go.Proofs.Tryz.func9 joined
    isInst isWrap
    (fun os started H enc _ F => by rw [OpenClaim.pre_eq_preRow]; exact lifted os started H enc F)
end Go.Proofs.YtgmhkfdpdbecmaaGreatDoor.fnBehindLeaderAndISRResponse

namespace Go.Proofs.YtgmhkfdpdbecmaaGreatDoor
open Go.Kf
set_option maxHeartbeats 4000000 in
theorem fnBehindLeaderAndISRResponse_card : Rows.FnBehindLeaderAndISRResponseUptoCardSaid :=
  Claim7.holds_tied_plain_at .later [] [.sentinel] true Rows.fnBehindLeaderAndISRResponseUptoCard.stood.harness false
    fnBehindLeaderAndISRResponse.row (fun _ h => by cases h) (by as_aux_lemma => kernel_rfl) (fun _ h => by cases h) fnBehindLeaderAndISRResponseUpto_row_tie rfl ⟨rfl, rfl⟩ mainS rfl
    (fun f fn hf hfn => by
      obtain rfl : f = 9 := Option.some.inj (fnBehindLeaderAndISRResponse.named.symm.trans hf) |>.symm
      obtain rfl : fn = Go.Proofs.Tryz.f9 := (Option.some.inj (Go.Proofs.Tryz.func9.symm.trans hfn)).symm
      refine ⟨looksS, fun j t ht => ?_⟩
      rw [Go.Proofs.Tryz.params9] at ht
      rcases j with _ | _ | _ | j
      · obtain rfl : 5 = t := by simpa using ht
        exact (show Go.Proofs.Tryz.prog.wantsStandIn 5 = false by kernel_rfl)
      · obtain rfl : 22 = t := by simpa using ht
        exact (show Go.Proofs.Tryz.prog.wantsStandIn 22 = false by kernel_rfl)
      · obtain rfl : 26 = t := by simpa using ht
        exact (show Go.Proofs.Tryz.prog.wantsStandIn 26 = false by kernel_rfl)
      · simp at ht)
    (by as_aux_lemma => kernel_rfl)
#print axioms fnBehindLeaderAndISRResponse_card
end Go.Proofs.YtgmhkfdpdbecmaaGreatDoor
