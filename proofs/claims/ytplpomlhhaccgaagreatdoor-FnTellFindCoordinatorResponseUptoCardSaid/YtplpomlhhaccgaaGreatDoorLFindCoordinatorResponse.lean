/- Of a message that is written by the protocol just its fields are told (laws.FnTellFindCoordinatorResponse): the second form's tied card is proved, at every version number and every tree whose bulk is at most 1048576; no other condition. -/
import Derived.Test.YtplpomlhhaccgaaGreatDoorKs
set_option linter.unusedSimpArgs false
set_option linter.unusedVariables false
set_option maxRecDepth 100000
namespace Go.Kf
open Go

def tf : TypeId → FuncId × FuncId := fun | 147 => (124, 168) | _ => (0, 0)

def rFindCoordinatorResponseCoordinator : Fds := .cons .all (.txt .str) (.cons .all (.pr .i32 none) (.cons .all (.txt .str) (.cons .all (.pr .i32 none) (.cons .all (.pr .i16 none) (.cons .all (.txt .nstr) (.tags))))))
theorem df_FindCoordinatorResponseCoordinator : FOk Go.Proofs.Tryz.prog 167 1 (seqs (rFindCoordinatorResponseCoordinator.dfl NS 147 0)) [] := ⟨Go.Proofs.Tryz.f167, _, [0], Go.Proofs.Tryz.func167, rfl, by kernel_rfl, by kernel_rfl, by decide, by kernel_rfl, by kernel_rfl⟩
theorem ft_FindCoordinatorResponseCoordinator : FOk Go.Proofs.Tryz.prog 124 1 (tellC NS tf 147 0 168 rFindCoordinatorResponseCoordinator) [.cell 1 NS.zab] := ⟨Go.Proofs.Tryz.f124, _, [0, 2, 3], Go.Proofs.Tryz.func124, rfl, by kernel_rfl, by kernel_rfl, by decide, by kernel_rfl, by kernel_rfl⟩
theorem fc_FindCoordinatorResponseCoordinator : FOk Go.Proofs.Tryz.prog 168 3 (cTagFn NS) [] := ⟨Go.Proofs.Tryz.f168, _, [0, 1, 2], Go.Proofs.Tryz.func168, rfl, by kernel_rfl, by kernel_rfl, by decide, by kernel_rfl, by kernel_rfl⟩
theorem tl_FindCoordinatorResponseCoordinator : TellP Go.Proofs.Tryz.prog 124 0 rFindCoordinatorResponseCoordinator := tellP baseS fnsS implT tellN (tf := tf) (Tt := 147) (idx0 := 0) ft_FindCoordinatorResponseCoordinator (fun _ => fc_FindCoordinatorResponseCoordinator) ⟨trivial, ⟨trivial, ⟨trivial, ⟨trivial, ⟨trivial, ⟨⟨by decide, by decide⟩, trivial⟩⟩⟩⟩⟩⟩ (Fds.ok_of (fx := true) (Tt := 147) (idx := 0) (off := 0) baseS fnsS rFindCoordinatorResponseCoordinator (by kernel_rfl) ⟨trivial, ⟨trivial, ⟨trivial, ⟨trivial, ⟨trivial, ⟨trivial, trivial⟩⟩⟩⟩⟩⟩).2.1 (by decide)

def mS : Msg := ⟨143, 82, 122, 3, false, .cons (.ge 1) (.pr .i32 none) (.cons (.btw 0 3) (.pr .i16 none) (.cons (.btw 1 3) (.txt .nstr) (.cons (.btw 0 3) (.pr .i32 none) (.cons (.btw 0 3) (.txt .str) (.cons (.btw 0 3) (.pr .i32 none) (.cons (.ge 4) (.arr 141 none (.row 147 145 167 (.cons .all (.txt .str) (.cons .all (.pr .i32 none) (.cons .all (.txt .str) (.cons .all (.pr .i32 none) (.cons .all (.pr .i16 none) (.cons .all (.txt .nstr) (.tags))))))))) (.tags)))))))⟩
def dS : zvm where
  newP := 76
  setV := 79
  maxV := 77
  readF := 80
  readf := 123
  tell := 81
  maxI := 31
  tellI := 33
theorem rd_m : FOk Go.Proofs.Tryz.prog 123 3 (mS.gen NS true) [.var 3] := ⟨Go.Proofs.Tryz.f123, _, [0, 1, 2, 6, 7, 8, 9, 10, 43, 11, 54, 12, 65, 13, 66, 67, 70, 82, 14, 93, 15, 94, 95, 98, 110, 16, 117, 17, 18, 19, 123, 127, 132, 20, 138, 21, 22, 23, 147, 148, 151, 24, 25, 163, 164, 167, 26, 27, 28, 184, 185, 188, 195, 205], Go.Proofs.Tryz.func123, rfl, by kernel_rfl, by kernel_rfl, by decide, by kernel_rfl, by kernel_rfl⟩
theorem df_m : FOk Go.Proofs.Tryz.prog 122 1 (seqs (mS.fs.dfl NS mS.tT 1)) [] := ⟨Go.Proofs.Tryz.f122, _, [0], Go.Proofs.Tryz.func122, rfl, by kernel_rfl, by kernel_rfl, by decide, by kernel_rfl, by kernel_rfl⟩
theorem mt : MsgT Go.Proofs.Tryz.prog NS mS true := msgT_of baseS fnsS (by kernel_rfl) (by kernel_rfl) (by kernel_rfl) ⟨trivial, ⟨trivial, ⟨trivial, ⟨trivial, ⟨trivial, ⟨trivial, ⟨⟨df_FindCoordinatorResponseCoordinator, ⟨trivial, ⟨trivial, ⟨trivial, ⟨trivial, ⟨trivial, ⟨trivial, trivial⟩⟩⟩⟩⟩⟩⟩, trivial⟩⟩⟩⟩⟩⟩⟩ df_m
theorem ft_FindCoordinatorResponse : FOk Go.Proofs.Tryz.prog 81 1 (tellC NS tf 143 1 125 mS.fs) [.cell 1 NS.zab] := ⟨Go.Proofs.Tryz.f81, _, [0, 2, 3, 73, 74, 75, 4, 78, 90, 91, 93], Go.Proofs.Tryz.func81, rfl, by kernel_rfl, by kernel_rfl, by decide, by kernel_rfl, by kernel_rfl⟩
theorem fc_FindCoordinatorResponse : FOk Go.Proofs.Tryz.prog 125 3 (cTagFn NS) [] := ⟨Go.Proofs.Tryz.f125, _, [0, 1, 2], Go.Proofs.Tryz.func125, rfl, by kernel_rfl, by kernel_rfl, by decide, by kernel_rfl, by kernel_rfl⟩
theorem tl_FindCoordinatorResponse : TellP Go.Proofs.Tryz.prog 81 1 mS.fs := tellP baseS fnsS implT tellN (tf := tf) (Tt := 143) (idx0 := 1) ft_FindCoordinatorResponse (fun _ => fc_FindCoordinatorResponse) ⟨trivial, ⟨trivial, ⟨⟨by decide, by decide⟩, ⟨trivial, ⟨trivial, ⟨trivial, ⟨⟨zhq (by kernel_rfl), el_ti (fx := true) baseS fnsS _ (by kernel_rfl) ⟨df_FindCoordinatorResponseCoordinator, ⟨trivial, ⟨trivial, ⟨trivial, ⟨trivial, ⟨trivial, ⟨trivial, trivial⟩⟩⟩⟩⟩⟩⟩, tl_FindCoordinatorResponseCoordinator⟩, trivial⟩⟩⟩⟩⟩⟩⟩ mt.hf (by decide)
theorem fd_new : FOk Go.Proofs.Tryz.prog 76 0 (c_new NS mS.tT mS.dflt) [.var 0] := ⟨Go.Proofs.Tryz.f76, _, [0, 1], Go.Proofs.Tryz.func76, rfl, by kernel_rfl, by kernel_rfl, by decide, by kernel_rfl, by kernel_rfl⟩
theorem fd_set : FOk Go.Proofs.Tryz.prog 79 2 (c_set NS mS.tT) [] := ⟨Go.Proofs.Tryz.f79, _, [0, 1], Go.Proofs.Tryz.func79, rfl, by kernel_rfl, by kernel_rfl, by decide, by kernel_rfl, by kernel_rfl⟩
theorem door : zys Go.Proofs.Tryz.prog NS mS true dS where
  msg := mt
  vin := rfl
  ti := (tsB_ok (by' := bytesOf Go.Proofs.Tryz.prog 143) (by kernel_rfl)).imp fun _ h => ⟨_, h⟩
  newP := fd_new
  setV := fd_set
  readf := rd_m
  tell := tl_FindCoordinatorResponse
  dok := ⟨⟨_, rfl, by decide⟩, ⟨⟨_, rfl, by decide⟩, ⟨⟨_, rfl, by decide⟩, ⟨⟨_, rfl, by decide⟩, ⟨⟨⟨_, rfl, by decide⟩, ⟨⟨_, rfl, by decide⟩, ⟨⟨_, rfl, by decide⟩, trivial⟩⟩⟩, trivial⟩⟩⟩⟩⟩
  shB := by kernel_rfl
  cnt := by decide
theorem fd_rf : FOk Go.Proofs.Tryz.prog 80 2 (c_rf NS mS.pT 123 false) [.var 2] := ⟨Go.Proofs.Tryz.f80, _, [0, 1, 4], Go.Proofs.Tryz.func80, rfl, by kernel_rfl, by kernel_rfl, by decide, by kernel_rfl, by kernel_rfl⟩
theorem fd_mv : FOk Go.Proofs.Tryz.prog 77 1 (c_max 6) [.var 1] := ⟨Go.Proofs.Tryz.f77, _, [0, 2], Go.Proofs.Tryz.func77, rfl, by kernel_rfl, by kernel_rfl, by decide, by kernel_rfl, by kernel_rfl⟩
theorem fd_mi : FOk Go.Proofs.Tryz.prog 31 0 (c_maxI NS mS.pT 76 77) [.var 0] := ⟨Go.Proofs.Tryz.f31, _, [0], Go.Proofs.Tryz.func31, rfl, by kernel_rfl, by kernel_rfl, by decide, by kernel_rfl, by kernel_rfl⟩
theorem fd_tellI : FOk Go.Proofs.Tryz.prog 33 2 (c_door NS mS.pT 76 79 80 81) [.cell 2 NS.zab, .var 3] := ⟨Go.Proofs.Tryz.f33, _, [0, 1, 4, 5, 6, 16], Go.Proofs.Tryz.func33, rfl, by kernel_rfl, by kernel_rfl, by decide, by kernel_rfl, by kernel_rfl⟩

def sc_sFindCoordinatorResponseCoordinator : List SC := [.mk [(0, 8), (2, -1), (3, -1), (4, -1)] none [], .mk [(0, 3), (2, -1), (3, -1), (4, -1)] none [], .mk [(0, 8), (2, -1), (3, -1), (4, -1)] none [], .mk [(0, 3), (2, -1), (3, -1), (4, -1)] none [], .mk [(0, 2), (2, -1), (3, -1), (4, -1)] none [], .mk [(0, 8), (2, -1), (3, 0), (4, -1)] none []]
theorem fsc_sFindCoordinatorResponseCoordinator : FOk Go.Proofs.Tryz.prog 78 0 (c_flds MS sc_sFindCoordinatorResponseCoordinator) [.var 0] := ⟨Go.Proofs.Tryz.f78, _, [0], Go.Proofs.Tryz.func78, rfl, by kernel_rfl, by kernel_rfl, by decide, by kernel_rfl, by kernel_rfl⟩
theorem mk_sFindCoordinatorResponseCoordinator : MkOk Go.Proofs.Tryz.prog 78 (SC.flds sc_sFindCoordinatorResponseCoordinator) := mk_flds (l := sc_sFindCoordinatorResponseCoordinator) spT (by kernel_rfl) ⟨rfl, ⟨rfl, ⟨rfl, ⟨rfl, ⟨rfl, ⟨rfl, trivial⟩⟩⟩⟩⟩⟩ fsc_sFindCoordinatorResponseCoordinator

def sc_FindCoordinatorResponse : List SC := [.mk [(0, 3), (1, 1), (2, -1), (3, -1), (4, -1)] none [], .mk [(0, 2), (2, 3), (3, -1), (4, -1)] none [], .mk [(0, 8), (1, 1), (2, 3), (3, 1), (4, -1)] none [], .mk [(0, 3), (2, 3), (3, -1), (4, -1)] none [], .mk [(0, 8), (2, 3), (3, -1), (4, -1)] none [], .mk [(0, 3), (2, 3), (3, -1), (4, -1)] none [], .mk [(0, 11), (1, 4), (2, -1), (3, -1), (4, -1), (6, 10)] (some 78) sc_sFindCoordinatorResponseCoordinator]
theorem fsc_FindCoordinatorResponse : FOk Go.Proofs.Tryz.prog 32 0 (c_msg MS sc_FindCoordinatorResponse (3)) [.cell 0 MS.zam] := ⟨Go.Proofs.Tryz.f32, _, [0], Go.Proofs.Tryz.func32, rfl, by kernel_rfl, by kernel_rfl, by decide, by kernel_rfl, by kernel_rfl⟩
theorem lawT : LawTT Go.Proofs.Tryz.prog NS MS mS true dS 6 32 sc_FindCoordinatorResponse (3) := ⟨door, fd_rf, fd_mv, fd_mi, fd_tellI, by decide, by decide, by decide, fsc_FindCoordinatorResponse, by kernel_rfl, ⟨rfl, ⟨rfl, ⟨rfl, ⟨rfl, ⟨rfl, ⟨rfl, ⟨⟨mk_sFindCoordinatorResponseCoordinator, fsc_sFindCoordinatorResponseCoordinator.has⟩, trivial⟩⟩⟩⟩⟩⟩⟩, by kernel_rfl, by kernel_rfl, by kernel_rfl⟩
theorem fd_law : FOk Go.Proofs.Tryz.prog 8 2 (c_lawT NS MS 38 dS.maxI dS.tellI 32) [.var 3] := ⟨Go.Proofs.Tryz.f8, _, [0, 1, 3, 4, 12, 5, 15, 6, 7, 8, 9], Go.Proofs.Tryz.func8, rfl, by kernel_rfl, by kernel_rfl, by decide, by kernel_rfl, by kernel_rfl⟩
end Go.Kf

namespace Go.Proofs.YtplpomlhhaccgaaGreatDoor.fnTellFindCoordinatorResponse
open Go.ChangeShapes Go.WideShapes Go.ChangeAt Go.RowKit Go.Kf

theorem reads (os : Os) {H : Type} (enc : TypeId × Value → H) : ∃ places, DataW.whole enc Go.Proofs.Tryz.prog ((World.doorLaid Go.Proofs.Tryz.prog 400 os).forCall (fun _ _ => 0) ⟨#[], #[.int .u8 0, .agg #[.int .i64 0, .slice none 0 0, .bool false, .slice none 0 0, .slice none 0 0]], []⟩).memory Go.Proofs.Tryz.f8.params.toList Rows.fnTellFindCoordinatorResponseSpec.vars false #[Value.int .u8 0, .agg #[.int .i64 0, .slice none 0 0, .bool false, .slice none 0 0, .slice none 0 0]].toList 8 = some ([.lit (.int .u8 0), .agg [.lit (.int .i64 0), .nil, .lit (.bool false), .nil, .nil]], [], places) :=
  ⟨[], by kernel_rfl⟩
set_option maxHeartbeats 4000000 in
theorem lifted (os : Os) (started : os.Started) (H : Type) (enc : TypeId × Value → H) (F : Stop.Interp) :
    ReturnsInHanded {} Go.Proofs.Tryz.checked os 8 .any ((Rows.OpenSpec.upto Rows.fnTellFindCoordinatorResponseSpec).preRow enc Go.Proofs.Tryz.prog Go.Proofs.Tryz.f8 Rows.fnTellFindCoordinatorResponseUptoRow.domain false Rows.fnTellFindCoordinatorResponseUptoRow.laid) (((Rows.OpenSpec.upto Rows.fnTellFindCoordinatorResponseSpec).at F).post enc Go.Proofs.Tryz.prog Go.Proofs.Tryz.f8 false true false false) := by
  obtain ⟨places, hx⟩ := reads os enc
  refine returnsInHanded_of_row (C := Go.Proofs.Tryz.checked) (s := Rows.OpenSpec.upto Rows.fnTellFindCoordinatorResponseSpec) own started (by kernel_rfl) Go.Proofs.Tryz.func8
    ⟨World.doorLaid Go.Proofs.Tryz.prog 400 os, fun _ _ => 0, ⟨#[], #[.int .u8 0, .agg #[.int .i64 0, .slice none 0 0, .bool false, .slice none 0 0, .slice none 0 0]], []⟩, rfl, shaped os _, rfl, (Input.okWide_of_okWideB (by kernel_rfl)).2,
      OpenSpec.preRow_of_cond 8 hx (by kernel_rfl) (fun k hk => by cases hk; kernel_rfl) (by kernel_rfl) (door_met os _), by
        simp only [Assume.holds]
        exact ⟨by simp, by simp, fun _ => Modest.zero, by simp, by simp⟩⟩ ?_
  intro W base args ds gs before hval0 hW _ hcond _ hL _ _
  have hval : ∀ (j : Nat) t v, Go.Proofs.Tryz.f8.params[j]? = some t → args[j]? = some v → Value.okWide Go.Proofs.Tryz.prog W .any base t v := hval0
  have hW' := hW
  obtain ⟨p, q, hA0, hV, rfl, hfz, hnd⟩ := hW
  have hA : DataW.TrodAll enc Go.Proofs.Tryz.prog W 0 (fun _ => true) true Go.Proofs.Tryz.f8.params.toList args.toList ds p := hA0
  rw [Go.Proofs.Tryz.params8] at hA hval
  obtain ⟨v0, vs0, d0, ds0, p0, q0, hargs, rfl, rfl, h0, r0⟩ := trodAll_cons hA
  obtain ⟨v1, vs1, d1, ds1, p1, q1, rfl, rfl, rfl, h1, r1⟩ := trodAll_cons r0
  obtain ⟨rfl, rfl, rfl⟩ := trodAll_nil r1
  obtain rfl : args = #[v0, v1] := by cases args; simp_all
  obtain ⟨rfl, rfl⟩ := trodVars_none hV
  obtain ⟨n0, rfl, rfl, rfl, w0⟩ := open_int Go.Proofs.Tryz.underlying5 (hval 0 5 v0 rfl rfl) h0
  obtain ⟨t, ct, rfl, ht, hwf, hsz⟩ := treeArg_of treeO baseS specT (bulkF H) (hval 1 26 v1 rfl rfl) h1
  have hc := hcond _ rfl
  have hsz2 : szT t ≤ 1048576 := by
    have hc2 : Rows.uptoBulkAll ([.lit (.int .u8 n0), d1] ++ []) ≤ 1048576 := of_decide_eq_true hc
    simp only [List.cons_append, List.nil_append, Rows.uptoBulkAll] at hc2
    omega
  have lt1 : ∀ x ∈ p1, x.block < W.heap.size := by obtain ⟨m, hm⟩ := h1; exact DataW.trod_lt m _ _ _ hm
  rw [MakeChecks.laidMetH_plain _ _ _ (by kernel_rfl)] at hL
  obtain ⟨a1, s1, hv1, _⟩ := laid_sentinel hL gO gT Go.Proofs.Tryz.underlying54 rowP Go.Proofs.Tryz.underlying236 Go.Proofs.Tryz.underlying254 rfl rfl Go.Proofs.Tryz.underlying9 cS cStr
  have hg : W.cell? ⟨1, 0, none⟩ = some (.iface 236 (.pointer (some a1))) := by simpa using World.var?_cell gO hv1 0
  have hn0 : 0 ≤ n0 ∧ n0 ≤ 255 := by
    simp [Lit.wf, IntKind.min, IntKind.max, IntKind.signed, IntKind.bits] at w0
    omega
  clear hA0 hval0
  refine Calls.mono (call_lawT baseS fnsS implT spT thSZ thSW thSTo (by decide) (by decide) (by decide) lawT fd_law (n := n0) hn0 ht hwf hsz2 hg) fun e W' ⟨v', he, hv', hm⟩ => ?_
  subst he hv'
  have bel := hm.below
  exact ⟨_, rfl, _, _, _, [], _, [], hW', trodAll_mk1 (shut_bool Go.Proofs.Tryz.underlying4 _), trodAll_cons_mk (shut_int Go.Proofs.Tryz.underlying5 w0) (trodAll_cons_mk (Below.trod laidOut (by kernel_rfl) (of_decide_eq_true (by kernel_rfl)) h1 bel lt1) trodAll_mk0), rfl, bel.frame _, fun h => by cases h⟩

set_option maxHeartbeats 4000000 in
theorem joined : joinedFacts Go.Proofs.Tryz.prog 8 Go.Proofs.Tryz.f8 (Rows.OpenSpec.upto Rows.fnTellFindCoordinatorResponseSpec).bare Rows.fnTellFindCoordinatorResponseUptoRow = true := by
  unfold joinedFacts
  exact bandT (bandT (bandT (bandT (bandT (bandT (bandT (bandT (bandT (bandT (bandT (bandT (bandT (bandT (bandT (bandT (bandT (bandT (bandT (bandT (bandT (bandT (bandT (bandT (bandT (bandT (bandT (bandT (bandT (bandT (bandT (by as_aux_lemma => kernel_rfl) laidOut) mapsRowedS) (by as_aux_lemma => kernel_rfl)) (by as_aux_lemma => kernel_rfl)) (by as_aux_lemma => kernel_rfl)) (by as_aux_lemma => kernel_rfl)) (by as_aux_lemma => kernel_rfl)) (by as_aux_lemma => kernel_rfl)) (by as_aux_lemma => kernel_rfl)) (by as_aux_lemma => kernel_rfl)) (by as_aux_lemma => kernel_rfl)) (by as_aux_lemma => kernel_rfl)) (by as_aux_lemma => kernel_rfl)) (by as_aux_lemma => kernel_rfl)) (by as_aux_lemma => kernel_rfl)) (by as_aux_lemma => kernel_rfl)) (by as_aux_lemma => kernel_rfl)) (by as_aux_lemma => kernel_rfl)) (by as_aux_lemma => kernel_rfl)) (by as_aux_lemma => kernel_rfl)) (by as_aux_lemma => kernel_rfl)) plainKeysS) (by as_aux_lemma => kernel_rfl)) stopsHeardS) bigEnter) bigLifts) bigMake) (by as_aux_lemma => kernel_rfl)) (by as_aux_lemma => kernel_rfl)) (by as_aux_lemma => kernel_rfl)) (by as_aux_lemma => kernel_rfl)
theorem named : Go.Proofs.Tryz.prog.funcNamed Rows.fnTellFindCoordinatorResponseUptoRow.func = some 8 := by kernel_rfl
theorem isInst : Go.Proofs.Tryz.f8.isInstance Go.Proofs.Tryz.prog Rows.fnTellFindCoordinatorResponseUptoRow.origin Rows.fnTellFindCoordinatorResponseUptoRow.targs := of_decide_eq_true (by kernel_rfl)
theorem isWrap : Go.Proofs.Tryz.f8.isWrapper Go.Proofs.Tryz.prog Rows.fnTellFindCoordinatorResponseUptoRow.wrapper Rows.fnTellFindCoordinatorResponseUptoRow.mainSum := by unfold Func.isWrapper; first | (rw [if_pos (by decide +kernel)]; kernel_rfl) | (rw [if_neg (by decide +kernel)]; exact ⟨rfl, rfl⟩)
theorem row : Rows.FnTellFindCoordinatorResponseUptoSaid :=
  OpenClaim.holds_of_cond 8 Go.Proofs.Tryz.f8 rfl rfl rfl rfl rfl rfl rfl ⟨rfl, rfl, rfl, rfl, rfl⟩ rfl rfl rfl rfl rfl named Go.Proofs.Tryz.func8 joined
    isInst isWrap
    (fun os started H enc _ F => by rw [OpenClaim.pre_eq_preRow]; exact lifted os started H enc F)
end Go.Proofs.YtplpomlhhaccgaaGreatDoor.fnTellFindCoordinatorResponse

namespace Go.Proofs.YtplpomlhhaccgaaGreatDoor
open Go.Kf
set_option maxHeartbeats 4000000 in
theorem fnTellFindCoordinatorResponse_card : Rows.FnTellFindCoordinatorResponseUptoCardSaid :=
  Claim7.holds_tied_plain_at .later [] [.sentinel] true Rows.fnTellFindCoordinatorResponseUptoCard.stood.harness false
    fnTellFindCoordinatorResponse.row (fun _ h => by cases h) (by as_aux_lemma => kernel_rfl) (fun _ h => by cases h) fnTellFindCoordinatorResponseUpto_row_tie rfl ⟨rfl, rfl⟩ mainS rfl
    (fun f fn hf hfn => by
      obtain rfl : f = 8 := Option.some.inj (fnTellFindCoordinatorResponse.named.symm.trans hf) |>.symm
      obtain rfl : fn = Go.Proofs.Tryz.f8 := (Option.some.inj (Go.Proofs.Tryz.func8.symm.trans hfn)).symm
      refine ⟨looksS, fun j t ht => ?_⟩
      rw [Go.Proofs.Tryz.params8] at ht
      rcases j with _ | _ | j
      · obtain rfl : 5 = t := by simpa using ht
        exact (show Go.Proofs.Tryz.prog.wantsStandIn 5 = false by kernel_rfl)
      · obtain rfl : 26 = t := by simpa using ht
        exact (show Go.Proofs.Tryz.prog.wantsStandIn 26 = false by kernel_rfl)
      · simp at ht)
    (by as_aux_lemma => kernel_rfl)
#print axioms fnTellFindCoordinatorResponse_card
end Go.Proofs.YtplpomlhhaccgaaGreatDoor
