/- Of a message that is written by the protocol just its fields are told (laws.FnTellDescribeClusterResponse): the second form's tied card is proved, at every version number and every tree whose bulk is at most 1048576; no other condition. -/
import Derived.Test.YtccgofjnacenhaaGreatDoorKs
set_option linter.unusedSimpArgs false
set_option linter.unusedVariables false
set_option maxRecDepth 100000
namespace Go.Kf
open Go

def tf : TypeId → FuncId × FuncId := fun | 100 => (88, 141) | _ => (0, 0)

def rDescribeClusterResponseBroker : Fds := .cons .all (.pr .i32 none) (.cons .all (.txt .str) (.cons .all (.pr .i32 none) (.cons .all (.txt .nstr) (.cons (.ge 2) (.pr .bool none) (.tags)))))
theorem df_DescribeClusterResponseBroker : FOk Go.Proofs.Tryz.prog 138 1 (seqs (rDescribeClusterResponseBroker.dfl NS 100 0)) [] := ⟨Go.Proofs.Tryz.f138, _, [0], Go.Proofs.Tryz.func138, rfl, by kernel_rfl, by kernel_rfl, by decide, by kernel_rfl, by kernel_rfl⟩
theorem ft_DescribeClusterResponseBroker : FOk Go.Proofs.Tryz.prog 88 1 (tellC NS tf 100 0 141 rDescribeClusterResponseBroker) [.cell 1 NS.zab] := ⟨Go.Proofs.Tryz.f88, _, [0, 2, 3], Go.Proofs.Tryz.func88, rfl, by kernel_rfl, by kernel_rfl, by decide, by kernel_rfl, by kernel_rfl⟩
theorem fc_DescribeClusterResponseBroker : FOk Go.Proofs.Tryz.prog 141 3 (cTagFn NS) [] := ⟨Go.Proofs.Tryz.f141, _, [0, 1, 2], Go.Proofs.Tryz.func141, rfl, by kernel_rfl, by kernel_rfl, by decide, by kernel_rfl, by kernel_rfl⟩
theorem tl_DescribeClusterResponseBroker : TellP Go.Proofs.Tryz.prog 88 0 rDescribeClusterResponseBroker := tellP baseS fnsS implT tellN (tf := tf) (Tt := 100) (idx0 := 0) ft_DescribeClusterResponseBroker (fun _ => fc_DescribeClusterResponseBroker) ⟨trivial, ⟨trivial, ⟨trivial, ⟨⟨by decide, by decide⟩, ⟨(show NS.zhb ≠ 0 by decide), trivial⟩⟩⟩⟩⟩ (Fds.ok_of (fx := true) (Tt := 100) (idx := 0) (off := 0) baseS fnsS rDescribeClusterResponseBroker (by kernel_rfl) ⟨trivial, ⟨trivial, ⟨trivial, ⟨trivial, ⟨trivial, trivial⟩⟩⟩⟩⟩).2.1 (by decide)

def mS : Msg := ⟨94, 48, 85, 0, false, .cons .all (.pr .i32 none) (.cons .all (.pr .i16 none) (.cons .all (.txt .nstr) (.cons (.ge 1) (.pr .i8 (some (.int .i8 (1)))) (.cons .all (.txt .str) (.cons .all (.pr .i32 (some (.int .i32 (-1)))) (.cons .all (.arr 89 none (.row 100 98 138 (.cons .all (.pr .i32 none) (.cons .all (.txt .str) (.cons .all (.pr .i32 none) (.cons .all (.txt .nstr) (.cons (.ge 2) (.pr .bool none) (.tags)))))))) (.cons .all (.pr .i32 (some (.int .i32 (-2147483648)))) (.tags))))))))⟩
def dS : zvm where
  newP := 35
  setV := 38
  maxV := 36
  readF := 39
  readf := 86
  tell := 40
  maxI := 10
  tellI := 13
theorem rd_m : FOk Go.Proofs.Tryz.prog 86 3 (mS.gen NS true) [.var 3] := ⟨Go.Proofs.Tryz.f86, _, [0, 1, 2, 6, 7, 8, 9, 10, 11, 12, 13, 52, 53, 56, 64, 14, 15, 70, 71, 74, 16, 17, 18, 19, 91, 95, 100, 20, 106, 21, 22, 23, 24, 120, 121, 124, 25, 26, 136, 137, 140, 148, 27, 154, 28, 169], Go.Proofs.Tryz.func86, rfl, by kernel_rfl, by kernel_rfl, by decide, by kernel_rfl, by kernel_rfl⟩
theorem df_m : FOk Go.Proofs.Tryz.prog 85 1 (seqs (mS.fs.dfl NS mS.tT 1)) [] := ⟨Go.Proofs.Tryz.f85, _, [0], Go.Proofs.Tryz.func85, rfl, by kernel_rfl, by kernel_rfl, by decide, by kernel_rfl, by kernel_rfl⟩
theorem mt : MsgT Go.Proofs.Tryz.prog NS mS true := msgT_of baseS fnsS (by kernel_rfl) (by kernel_rfl) (by kernel_rfl) ⟨trivial, ⟨trivial, ⟨trivial, ⟨trivial, ⟨trivial, ⟨trivial, ⟨⟨df_DescribeClusterResponseBroker, ⟨trivial, ⟨trivial, ⟨trivial, ⟨trivial, ⟨trivial, trivial⟩⟩⟩⟩⟩⟩, ⟨trivial, trivial⟩⟩⟩⟩⟩⟩⟩⟩ df_m
theorem ft_DescribeClusterResponse : FOk Go.Proofs.Tryz.prog 40 1 (tellC NS tf 94 1 90 mS.fs) [.cell 1 NS.zab] := ⟨Go.Proofs.Tryz.f40, _, [0, 2, 3, 73, 74, 75, 4, 78, 90, 91, 93], Go.Proofs.Tryz.func40, rfl, by kernel_rfl, by kernel_rfl, by decide, by kernel_rfl, by kernel_rfl⟩
theorem fc_DescribeClusterResponse : FOk Go.Proofs.Tryz.prog 90 3 (cTagFn NS) [] := ⟨Go.Proofs.Tryz.f90, _, [0, 1, 2], Go.Proofs.Tryz.func90, rfl, by kernel_rfl, by kernel_rfl, by decide, by kernel_rfl, by kernel_rfl⟩
theorem tl_DescribeClusterResponse : TellP Go.Proofs.Tryz.prog 40 1 mS.fs := tellP baseS fnsS implT tellN (tf := tf) (Tt := 94) (idx0 := 1) ft_DescribeClusterResponse (fun _ => fc_DescribeClusterResponse) ⟨trivial, ⟨trivial, ⟨⟨by decide, by decide⟩, ⟨trivial, ⟨trivial, ⟨trivial, ⟨⟨zhq (by kernel_rfl), el_ti (fx := true) baseS fnsS _ (by kernel_rfl) ⟨df_DescribeClusterResponseBroker, ⟨trivial, ⟨trivial, ⟨trivial, ⟨trivial, ⟨trivial, trivial⟩⟩⟩⟩⟩⟩, tl_DescribeClusterResponseBroker⟩, ⟨trivial, trivial⟩⟩⟩⟩⟩⟩⟩⟩ mt.hf (by decide)
theorem fd_new : FOk Go.Proofs.Tryz.prog 35 0 (c_new NS mS.tT mS.dflt) [.var 0] := ⟨Go.Proofs.Tryz.f35, _, [0, 1], Go.Proofs.Tryz.func35, rfl, by kernel_rfl, by kernel_rfl, by decide, by kernel_rfl, by kernel_rfl⟩
theorem fd_set : FOk Go.Proofs.Tryz.prog 38 2 (c_set NS mS.tT) [] := ⟨Go.Proofs.Tryz.f38, _, [0, 1], Go.Proofs.Tryz.func38, rfl, by kernel_rfl, by kernel_rfl, by decide, by kernel_rfl, by kernel_rfl⟩
theorem door : zys Go.Proofs.Tryz.prog NS mS true dS where
  msg := mt
  vin := rfl
  ti := (tsB_ok (by' := bytesOf Go.Proofs.Tryz.prog 94) (by kernel_rfl)).imp fun _ h => ⟨_, h⟩
  newP := fd_new
  setV := fd_set
  readf := rd_m
  tell := tl_DescribeClusterResponse
  dok := ⟨⟨_, rfl, by decide⟩, ⟨⟨_, rfl, by decide⟩, ⟨⟨_, rfl, by decide⟩, ⟨⟨_, rfl, by decide⟩, ⟨⟨⟨_, rfl, by decide⟩, ⟨⟨_, rfl, by decide⟩, ⟨⟨_, rfl⟩, trivial⟩⟩⟩, ⟨⟨_, rfl, by decide⟩, trivial⟩⟩⟩⟩⟩⟩
  shB := by kernel_rfl
  cnt := by decide
theorem fd_rf : FOk Go.Proofs.Tryz.prog 39 2 (c_rf NS mS.pT 86 false) [.var 2] := ⟨Go.Proofs.Tryz.f39, _, [0, 1, 4], Go.Proofs.Tryz.func39, rfl, by kernel_rfl, by kernel_rfl, by decide, by kernel_rfl, by kernel_rfl⟩
theorem fd_mv : FOk Go.Proofs.Tryz.prog 36 1 (c_max 2) [.var 1] := ⟨Go.Proofs.Tryz.f36, _, [0, 2], Go.Proofs.Tryz.func36, rfl, by kernel_rfl, by kernel_rfl, by decide, by kernel_rfl, by kernel_rfl⟩
theorem fd_mi : FOk Go.Proofs.Tryz.prog 10 0 (c_maxI NS mS.pT 35 36) [.var 0] := ⟨Go.Proofs.Tryz.f10, _, [0], Go.Proofs.Tryz.func10, rfl, by kernel_rfl, by kernel_rfl, by decide, by kernel_rfl, by kernel_rfl⟩
theorem fd_tellI : FOk Go.Proofs.Tryz.prog 13 2 (c_door NS mS.pT 35 38 39 40) [.cell 2 NS.zab, .var 3] := ⟨Go.Proofs.Tryz.f13, _, [0, 1, 4, 5, 6, 16], Go.Proofs.Tryz.func13, rfl, by kernel_rfl, by kernel_rfl, by decide, by kernel_rfl, by kernel_rfl⟩

def sc_sDescribeClusterResponseBroker : List SC := [.mk [(0, 3), (2, -1), (3, -1), (4, -1)] none [], .mk [(0, 8), (2, -1), (3, -1), (4, -1)] none [], .mk [(0, 3), (2, -1), (3, -1), (4, -1)] none [], .mk [(0, 8), (2, -1), (3, 0), (4, -1)] none [], .mk [(0, 0), (1, 2), (2, -1), (3, -1), (4, -1)] none []]
theorem fsc_sDescribeClusterResponseBroker : FOk Go.Proofs.Tryz.prog 37 0 (c_flds MS sc_sDescribeClusterResponseBroker) [.var 0] := ⟨Go.Proofs.Tryz.f37, _, [0], Go.Proofs.Tryz.func37, rfl, by kernel_rfl, by kernel_rfl, by decide, by kernel_rfl, by kernel_rfl⟩
theorem mk_sDescribeClusterResponseBroker : MkOk Go.Proofs.Tryz.prog 37 (SC.flds sc_sDescribeClusterResponseBroker) := mk_flds (l := sc_sDescribeClusterResponseBroker) spT (by kernel_rfl) ⟨rfl, ⟨rfl, ⟨rfl, ⟨rfl, ⟨rfl, trivial⟩⟩⟩⟩⟩ fsc_sDescribeClusterResponseBroker

def sc_DescribeClusterResponse : List SC := [.mk [(0, 3), (2, -1), (3, -1), (4, -1)] none [], .mk [(0, 2), (2, -1), (3, -1), (4, -1)] none [], .mk [(0, 8), (2, -1), (3, 0), (4, -1)] none [], .mk [(0, 1), (1, 1), (2, -1), (3, -1), (4, -1), (5, 1)] none [], .mk [(0, 8), (2, -1), (3, -1), (4, -1)] none [], .mk [(0, 3), (2, -1), (3, -1), (4, -1), (5, -1)] none [], .mk [(0, 11), (2, -1), (3, -1), (4, -1), (6, 10)] (some 37) sc_sDescribeClusterResponseBroker, .mk [(0, 3), (2, -1), (3, -1), (4, -1), (5, -2147483648)] none []]
theorem fsc_DescribeClusterResponse : FOk Go.Proofs.Tryz.prog 11 0 (c_msg MS sc_DescribeClusterResponse (0)) [.cell 0 MS.zam] := ⟨Go.Proofs.Tryz.f11, _, [0], Go.Proofs.Tryz.func11, rfl, by kernel_rfl, by kernel_rfl, by decide, by kernel_rfl, by kernel_rfl⟩
theorem lawT : LawTT Go.Proofs.Tryz.prog NS MS mS true dS 2 11 sc_DescribeClusterResponse (0) := ⟨door, fd_rf, fd_mv, fd_mi, fd_tellI, by decide, by decide, by decide, fsc_DescribeClusterResponse, by kernel_rfl, ⟨rfl, ⟨rfl, ⟨rfl, ⟨rfl, ⟨rfl, ⟨rfl, ⟨⟨mk_sDescribeClusterResponseBroker, fsc_sDescribeClusterResponseBroker.has⟩, ⟨rfl, trivial⟩⟩⟩⟩⟩⟩⟩⟩, by kernel_rfl, by kernel_rfl, by kernel_rfl⟩
theorem fd_law : FOk Go.Proofs.Tryz.prog 3 2 (c_lawT NS MS 38 dS.maxI dS.tellI 11) [.var 3] := ⟨Go.Proofs.Tryz.f3, _, [0, 1, 3, 4, 12, 5, 15, 6, 7, 8, 9], Go.Proofs.Tryz.func3, rfl, by kernel_rfl, by kernel_rfl, by decide, by kernel_rfl, by kernel_rfl⟩
end Go.Kf

namespace Go.Proofs.YtccgofjnacenhaaGreatDoor.fnTellDescribeClusterResponse
open Go.ChangeShapes Go.WideShapes Go.ChangeAt Go.RowKit Go.Kf

theorem reads (os : Os) {H : Type} (enc : TypeId × Value → H) : ∃ places, DataW.whole enc Go.Proofs.Tryz.prog ((World.doorLaid Go.Proofs.Tryz.prog 400 os).forCall (fun _ _ => 0) ⟨#[], #[.int .u8 0, .agg #[.int .i64 0, .slice none 0 0, .bool false, .slice none 0 0, .slice none 0 0]], []⟩).memory Go.Proofs.Tryz.f3.params.toList Rows.fnTellDescribeClusterResponseSpec.vars false #[Value.int .u8 0, .agg #[.int .i64 0, .slice none 0 0, .bool false, .slice none 0 0, .slice none 0 0]].toList 8 = some ([.lit (.int .u8 0), .agg [.lit (.int .i64 0), .nil, .lit (.bool false), .nil, .nil]], [], places) :=
  ⟨[], by kernel_rfl⟩
set_option maxHeartbeats 4000000 in
theorem lifted (os : Os) (started : os.Started) (H : Type) (enc : TypeId × Value → H) (F : Stop.Interp) :
    ReturnsInHanded {} Go.Proofs.Tryz.checked os 3 .any ((Rows.OpenSpec.upto Rows.fnTellDescribeClusterResponseSpec).preRow enc Go.Proofs.Tryz.prog Go.Proofs.Tryz.f3 Rows.fnTellDescribeClusterResponseUptoRow.domain false Rows.fnTellDescribeClusterResponseUptoRow.laid) (((Rows.OpenSpec.upto Rows.fnTellDescribeClusterResponseSpec).at F).post enc Go.Proofs.Tryz.prog Go.Proofs.Tryz.f3 false true false false) := by
  obtain ⟨places, hx⟩ := reads os enc
  refine returnsInHanded_of_row (C := Go.Proofs.Tryz.checked) (s := Rows.OpenSpec.upto Rows.fnTellDescribeClusterResponseSpec) own started (by kernel_rfl) Go.Proofs.Tryz.func3
    ⟨World.doorLaid Go.Proofs.Tryz.prog 400 os, fun _ _ => 0, ⟨#[], #[.int .u8 0, .agg #[.int .i64 0, .slice none 0 0, .bool false, .slice none 0 0, .slice none 0 0]], []⟩, rfl, shaped os _, rfl, (Input.okWide_of_okWideB (by kernel_rfl)).2,
      OpenSpec.preRow_of_cond 8 hx (by kernel_rfl) (fun k hk => by cases hk; kernel_rfl) (by kernel_rfl) (door_met os _), by
        simp only [Assume.holds]
        exact ⟨by simp, by simp, fun _ => Modest.zero, by simp, by simp⟩⟩ ?_
  intro W base args ds gs before hval0 hW _ hcond _ hL _ _
  have hval : ∀ (j : Nat) t v, Go.Proofs.Tryz.f3.params[j]? = some t → args[j]? = some v → Value.okWide Go.Proofs.Tryz.prog W .any base t v := hval0
  have hW' := hW
  obtain ⟨p, q, hA0, hV, rfl, hfz, hnd⟩ := hW
  have hA : DataW.TrodAll enc Go.Proofs.Tryz.prog W 0 (fun _ => true) true Go.Proofs.Tryz.f3.params.toList args.toList ds p := hA0
  rw [Go.Proofs.Tryz.params3] at hA hval
  obtain ⟨v0, vs0, d0, ds0, p0, q0, hargs, rfl, rfl, h0, r0⟩ := trodAll_cons hA
  obtain ⟨v1, vs1, d1, ds1, p1, q1, rfl, rfl, rfl, h1, r1⟩ := trodAll_cons r0
  obtain ⟨rfl, rfl, rfl⟩ := trodAll_nil r1
  obtain rfl : args = #[v0, v1] := by cases args; simp_all
  obtain ⟨rfl, rfl⟩ := trodVars_none hV
  obtain ⟨n0, rfl, rfl, rfl, w0⟩ := open_int Go.Proofs.Tryz.underlying5 (hval 0 5 v0 rfl rfl) h0
  obtain ⟨t, ct, rfl, ht, hwf, hsz⟩ := treeArg_of treeO baseS specT (bulkF H) (hval 1 26 v1 rfl rfl) h1
  have hc := hcond _ rfl
  have hsz2 : szT t ≤ 1048576 := by
    have hc2 : Rows.uptoBulkAll ([.lit (.int .u8 n0), d1] ++ []) ≤ 1048576 := of_decide_eq_true hc
    simp only [List.cons_append, List.nil_append, Rows.uptoBulkAll] at hc2
    omega
  have lt1 : ∀ x ∈ p1, x.block < W.heap.size := by obtain ⟨m, hm⟩ := h1; exact DataW.trod_lt m _ _ _ hm
  rw [MakeChecks.laidMetH_plain _ _ _ (by kernel_rfl)] at hL
  obtain ⟨a1, s1, hv1, _⟩ := laid_sentinel hL gO gT Go.Proofs.Tryz.underlying56 rowP Go.Proofs.Tryz.underlying247 Go.Proofs.Tryz.underlying265 rfl rfl Go.Proofs.Tryz.underlying9 cS cStr
  have hg : W.cell? ⟨1, 0, none⟩ = some (.iface 247 (.pointer (some a1))) := by simpa using World.var?_cell gO hv1 0
  have hn0 : 0 ≤ n0 ∧ n0 ≤ 255 := by
    simp [Lit.wf, IntKind.min, IntKind.max, IntKind.signed, IntKind.bits] at w0
    omega
  clear hA0 hval0
  refine Calls.mono (call_lawT baseS fnsS implT spT thSZ thSW thSTo (by decide) (by decide) (by decide) lawT fd_law (n := n0) hn0 ht hwf hsz2 hg) fun e W' ⟨v', he, hv', hm⟩ => ?_
  subst he hv'
  have bel := hm.below
  exact ⟨_, rfl, _, _, _, [], _, [], hW', trodAll_mk1 (shut_bool Go.Proofs.Tryz.underlying4 _), trodAll_cons_mk (shut_int Go.Proofs.Tryz.underlying5 w0) (trodAll_cons_mk (Below.trod laidOut (by kernel_rfl) (of_decide_eq_true (by kernel_rfl)) h1 bel lt1) trodAll_mk0), rfl, bel.frame _, fun h => by cases h⟩

set_option maxHeartbeats 4000000 in
theorem joined : joinedFacts Go.Proofs.Tryz.prog 3 Go.Proofs.Tryz.f3 (Rows.OpenSpec.upto Rows.fnTellDescribeClusterResponseSpec).bare Rows.fnTellDescribeClusterResponseUptoRow = true := by
  unfold joinedFacts
  exact bandT (bandT (bandT (bandT (bandT (bandT (bandT (bandT (bandT (bandT (bandT (bandT (bandT (bandT (bandT (bandT (bandT (bandT (bandT (bandT (bandT (bandT (bandT (bandT (bandT (bandT (bandT (bandT (bandT (bandT (bandT (by as_aux_lemma => kernel_rfl) laidOut) mapsRowedS) (by as_aux_lemma => kernel_rfl)) (by as_aux_lemma => kernel_rfl)) (by as_aux_lemma => kernel_rfl)) (by as_aux_lemma => kernel_rfl)) (by as_aux_lemma => kernel_rfl)) (by as_aux_lemma => kernel_rfl)) (by as_aux_lemma => kernel_rfl)) (by as_aux_lemma => kernel_rfl)) (by as_aux_lemma => kernel_rfl)) (by as_aux_lemma => kernel_rfl)) (by as_aux_lemma => kernel_rfl)) (by as_aux_lemma => kernel_rfl)) (by as_aux_lemma => kernel_rfl)) (by as_aux_lemma => kernel_rfl)) (by as_aux_lemma => kernel_rfl)) (by as_aux_lemma => kernel_rfl)) (by as_aux_lemma => kernel_rfl)) (by as_aux_lemma => kernel_rfl)) (by as_aux_lemma => kernel_rfl)) plainKeysS) (by as_aux_lemma => kernel_rfl)) stopsHeardS) bigEnter) bigLifts) bigMake) (by as_aux_lemma => kernel_rfl)) (by as_aux_lemma => kernel_rfl)) (by as_aux_lemma => kernel_rfl)) (by as_aux_lemma => kernel_rfl)
theorem named : Go.Proofs.Tryz.prog.funcNamed Rows.fnTellDescribeClusterResponseUptoRow.func = some 3 := by kernel_rfl
theorem isInst : Go.Proofs.Tryz.f3.isInstance Go.Proofs.Tryz.prog Rows.fnTellDescribeClusterResponseUptoRow.origin Rows.fnTellDescribeClusterResponseUptoRow.targs := of_decide_eq_true (by kernel_rfl)
theorem isWrap : Go.Proofs.Tryz.f3.isWrapper Go.Proofs.Tryz.prog Rows.fnTellDescribeClusterResponseUptoRow.wrapper Rows.fnTellDescribeClusterResponseUptoRow.mainSum := by unfold Func.isWrapper; first | (rw [if_pos (by decide +kernel)]; kernel_rfl) | (rw [if_neg (by decide +kernel)]; exact ⟨rfl, rfl⟩)
theorem row : Rows.FnTellDescribeClusterResponseUptoSaid :=
  OpenClaim.holds_of_cond 3 Go.Proofs.Tryz.f3 rfl rfl rfl rfl rfl rfl rfl ⟨rfl, rfl, rfl, rfl, rfl⟩ rfl rfl rfl rfl rfl named Go.Proofs.Tryz.func3 joined
    isInst isWrap
    (fun os started H enc _ F => by rw [OpenClaim.pre_eq_preRow]; exact lifted os started H enc F)
end Go.Proofs.YtccgofjnacenhaaGreatDoor.fnTellDescribeClusterResponse

namespace Go.Proofs.YtccgofjnacenhaaGreatDoor
open Go.Kf
set_option maxHeartbeats 4000000 in
theorem fnTellDescribeClusterResponse_card : Rows.FnTellDescribeClusterResponseUptoCardSaid :=
  Claim7.holds_tied_plain_at .later [] [.sentinel] true Rows.fnTellDescribeClusterResponseUptoCard.stood.harness false
    fnTellDescribeClusterResponse.row (fun _ h => by cases h) (by as_aux_lemma => kernel_rfl) (fun _ h => by cases h) fnTellDescribeClusterResponseUpto_row_tie rfl ⟨rfl, rfl⟩ mainS rfl
    (fun f fn hf hfn => by
      obtain rfl : f = 3 := Option.some.inj (fnTellDescribeClusterResponse.named.symm.trans hf) |>.symm
      obtain rfl : fn = Go.Proofs.Tryz.f3 := (Option.some.inj (Go.Proofs.Tryz.func3.symm.trans hfn)).symm
      refine ⟨looksS, fun j t ht => ?_⟩
      rw [Go.Proofs.Tryz.params3] at ht
      rcases j with _ | _ | j
      · obtain rfl : 5 = t := by simpa using ht
        exact (show Go.Proofs.Tryz.prog.wantsStandIn 5 = false by kernel_rfl)
      · obtain rfl : 26 = t := by simpa using ht
        exact (show Go.Proofs.Tryz.prog.wantsStandIn 26 = false by kernel_rfl)
      · simp at ht)
    (by as_aux_lemma => kernel_rfl)
#print axioms fnTellDescribeClusterResponse_card
end Go.Proofs.YtccgofjnacenhaaGreatDoor
