/- Default sets the fields that have a default, whatever was read ahead (laws.FnDefaultCreatePartitionsRequest): the second form's tied card is proved, at every version number and every tree whose bulk is at most 1048576; no other condition. -/
import Derived.Test.YtccgofjnacenhaaGreatDoorDs
set_option linter.unusedSimpArgs false
set_option linter.unusedVariables false
set_option maxRecDepth 100000
namespace Go.Kf
open Go

def tf : TypeId → FuncId × FuncId := fun | 200 => (171, 190) | 159 => (121, 172) | _ => (0, 0)

def rCreatePartitionsRequestTopicAssignment : Fds := .cons .all (.arr 198 none (.pr .i32)) (.tags)
theorem df_CreatePartitionsRequestTopicAssignment : FOk Go.Proofs.Tryz.prog 170 1 (seqs (rCreatePartitionsRequestTopicAssignment.dfl NS 200 0)) [] := ⟨Go.Proofs.Tryz.f170, _, [0], Go.Proofs.Tryz.func170, rfl, by kernel_rfl, by kernel_rfl, by decide, by kernel_rfl, by kernel_rfl⟩
theorem ft_CreatePartitionsRequestTopicAssignment : FOk Go.Proofs.Tryz.prog 171 1 (tellC NS tf 200 0 190 rCreatePartitionsRequestTopicAssignment) [.cell 1 NS.zz] := ⟨Go.Proofs.Tryz.f171, _, [0, 2, 3, 20, 21, 22, 4, 25, 39, 40, 42], Go.Proofs.Tryz.func171, rfl, by kernel_rfl, by kernel_rfl, by decide, by kernel_rfl, by kernel_rfl⟩
theorem fc_CreatePartitionsRequestTopicAssignment : FOk Go.Proofs.Tryz.prog 190 3 (cTagFn NS) [] := ⟨Go.Proofs.Tryz.f190, _, [0, 1, 2], Go.Proofs.Tryz.func190, rfl, by kernel_rfl, by kernel_rfl, by decide, by kernel_rfl, by kernel_rfl⟩
theorem tl_CreatePartitionsRequestTopicAssignment : TellP Go.Proofs.Tryz.prog 171 0 rCreatePartitionsRequestTopicAssignment := tellP baseS fnsS implT tellN (tf := tf) (Tt := 200) (idx0 := 0) ft_CreatePartitionsRequestTopicAssignment (fun _ => fc_CreatePartitionsRequestTopicAssignment) ⟨⟨zhi (by kernel_rfl), el_ti (fx := true) baseS fnsS _ (by kernel_rfl) trivial, trivial⟩, trivial⟩ (Fds.ok_of (fx := true) (Tt := 200) (idx := 0) (off := 0) baseS fnsS rCreatePartitionsRequestTopicAssignment (by kernel_rfl) ⟨trivial, trivial⟩).2.1 (by decide)

def rCreatePartitionsRequestTopic : Fds := .cons .all (.txt .str) (.cons .all (.pr .i32 none) (.cons .all (.arr 157 (some (0)) (.row 200 197 170 (.cons .all (.arr 198 none (.pr .i32)) (.tags)))) (.tags)))
theorem df_CreatePartitionsRequestTopic : FOk Go.Proofs.Tryz.prog 169 1 (seqs (rCreatePartitionsRequestTopic.dfl NS 159 0)) [] := ⟨Go.Proofs.Tryz.f169, _, [0], Go.Proofs.Tryz.func169, rfl, by kernel_rfl, by kernel_rfl, by decide, by kernel_rfl, by kernel_rfl⟩
theorem ft_CreatePartitionsRequestTopic : FOk Go.Proofs.Tryz.prog 121 1 (tellC NS tf 159 0 172 rCreatePartitionsRequestTopic) [.cell 1 NS.zz] := ⟨Go.Proofs.Tryz.f121, _, [0, 2, 3, 38, 39, 40, 4, 43, 55, 56, 58], Go.Proofs.Tryz.func121, rfl, by kernel_rfl, by kernel_rfl, by decide, by kernel_rfl, by kernel_rfl⟩
theorem fc_CreatePartitionsRequestTopic : FOk Go.Proofs.Tryz.prog 172 3 (cTagFn NS) [] := ⟨Go.Proofs.Tryz.f172, _, [0, 1, 2], Go.Proofs.Tryz.func172, rfl, by kernel_rfl, by kernel_rfl, by decide, by kernel_rfl, by kernel_rfl⟩
theorem tl_CreatePartitionsRequestTopic : TellP Go.Proofs.Tryz.prog 121 0 rCreatePartitionsRequestTopic := tellP baseS fnsS implT tellN (tf := tf) (Tt := 159) (idx0 := 0) ft_CreatePartitionsRequestTopic (fun _ => fc_CreatePartitionsRequestTopic) ⟨trivial, ⟨trivial, ⟨⟨zhi (by kernel_rfl), el_ti (fx := true) baseS fnsS _ (by kernel_rfl) ⟨df_CreatePartitionsRequestTopicAssignment, ⟨trivial, trivial⟩⟩, tl_CreatePartitionsRequestTopicAssignment⟩, trivial⟩⟩⟩ (Fds.ok_of (fx := true) (Tt := 159) (idx := 0) (off := 0) baseS fnsS rCreatePartitionsRequestTopic (by kernel_rfl) ⟨trivial, ⟨trivial, ⟨⟨df_CreatePartitionsRequestTopicAssignment, ⟨trivial, trivial⟩⟩, trivial⟩⟩⟩).2.1 (by decide)

def mS : Msg := ⟨154, 83, 82, 2, false, .cons .all (.arr 152 none (.row 159 156 169 (.cons .all (.txt .str) (.cons .all (.pr .i32 none) (.cons .all (.arr 157 (some (0)) (.row 200 197 170 (.cons .all (.arr 198 none (.pr .i32)) (.tags)))) (.tags)))))) (.cons .all (.pr .i32 (some (.int .i32 (15000)))) (.cons .all (.pr .bool none) (.tags)))⟩
def dS : zwj where
  newP := 77
  setV := 80
  maxV := 78
  readF := 81
  readf := 120
  tell := 83
  maxI := 31
  tellI := 33
theorem rd_m : FOk Go.Proofs.Tryz.prog 120 3 (mS.gen NS true) [.var 3] := ⟨Go.Proofs.Tryz.f120, _, [0, 1, 2, 6, 7, 8, 9, 10, 11, 12, 13, 50, 54, 59, 14, 65, 15, 16, 17, 74, 75, 78, 18, 19, 20, 21, 95, 103, 106, 111, 22, 117, 23, 24, 25, 26, 27, 131, 135, 140, 28, 146, 29, 159, 169, 30, 31, 189], Go.Proofs.Tryz.func120, rfl, by kernel_rfl, by kernel_rfl, by decide, by kernel_rfl, by kernel_rfl⟩
theorem df_m : FOk Go.Proofs.Tryz.prog 82 1 (seqs (mS.fs.dfl NS mS.tT 1)) [] := ⟨Go.Proofs.Tryz.f82, _, [0], Go.Proofs.Tryz.func82, rfl, by kernel_rfl, by kernel_rfl, by decide, by kernel_rfl, by kernel_rfl⟩
theorem mt : MsgT Go.Proofs.Tryz.prog NS mS true := msgT_of baseS fnsS (by kernel_rfl) (by kernel_rfl) (by kernel_rfl) ⟨⟨df_CreatePartitionsRequestTopic, ⟨trivial, ⟨trivial, ⟨⟨df_CreatePartitionsRequestTopicAssignment, ⟨trivial, trivial⟩⟩, trivial⟩⟩⟩⟩, ⟨trivial, ⟨trivial, trivial⟩⟩⟩ df_m
theorem ft_CreatePartitionsRequest : FOk Go.Proofs.Tryz.prog 83 1 (tellC NS tf 154 1 122 mS.fs) [.cell 1 NS.zz] := ⟨Go.Proofs.Tryz.f83, _, [0, 2, 3, 20, 21, 22, 4, 25, 37, 38, 40], Go.Proofs.Tryz.func83, rfl, by kernel_rfl, by kernel_rfl, by decide, by kernel_rfl, by kernel_rfl⟩
theorem fc_CreatePartitionsRequest : FOk Go.Proofs.Tryz.prog 122 3 (cTagFn NS) [] := ⟨Go.Proofs.Tryz.f122, _, [0, 1, 2], Go.Proofs.Tryz.func122, rfl, by kernel_rfl, by kernel_rfl, by decide, by kernel_rfl, by kernel_rfl⟩
theorem tl_CreatePartitionsRequest : TellP Go.Proofs.Tryz.prog 83 1 mS.fs := tellP baseS fnsS implT tellN (tf := tf) (Tt := 154) (idx0 := 1) ft_CreatePartitionsRequest (fun _ => fc_CreatePartitionsRequest) ⟨⟨zhi (by kernel_rfl), el_ti (fx := true) baseS fnsS _ (by kernel_rfl) ⟨df_CreatePartitionsRequestTopic, ⟨trivial, ⟨trivial, ⟨⟨df_CreatePartitionsRequestTopicAssignment, ⟨trivial, trivial⟩⟩, trivial⟩⟩⟩⟩, tl_CreatePartitionsRequestTopic⟩, ⟨trivial, ⟨(show NS.zgt ≠ 0 by decide), trivial⟩⟩⟩ mt.hf (by decide)
theorem fd_new : FOk Go.Proofs.Tryz.prog 77 0 (c_new NS mS.tT mS.dflt) [.var 0] := ⟨Go.Proofs.Tryz.f77, _, [0, 1], Go.Proofs.Tryz.func77, rfl, by kernel_rfl, by kernel_rfl, by decide, by kernel_rfl, by kernel_rfl⟩
theorem fd_set : FOk Go.Proofs.Tryz.prog 80 2 (c_set NS mS.tT) [] := ⟨Go.Proofs.Tryz.f80, _, [0, 1], Go.Proofs.Tryz.func80, rfl, by kernel_rfl, by kernel_rfl, by decide, by kernel_rfl, by kernel_rfl⟩
theorem door : DoorT Go.Proofs.Tryz.prog NS mS true dS where
  msg := mt
  vin := rfl
  ti := (tsB_ok (by' := bytesOf Go.Proofs.Tryz.prog 154) (by kernel_rfl)).imp fun _ h => ⟨_, h⟩
  newP := fd_new
  setV := fd_set
  readf := rd_m
  tell := tl_CreatePartitionsRequest
  dok := ⟨⟨⟨_, rfl, by decide⟩, ⟨⟨trivial, trivial⟩, trivial⟩⟩, ⟨⟨_, rfl, by decide⟩, ⟨⟨_, rfl⟩, trivial⟩⟩⟩
  shB := by kernel_rfl
  cnt := by decide
theorem fd_rf : FOk Go.Proofs.Tryz.prog 81 2 (c_rf NS mS.pT 120 false) [.var 2] := ⟨Go.Proofs.Tryz.f81, _, [0, 1, 4], Go.Proofs.Tryz.func81, rfl, by kernel_rfl, by kernel_rfl, by decide, by kernel_rfl, by kernel_rfl⟩
theorem fd_mv : FOk Go.Proofs.Tryz.prog 78 1 (c_max 3) [.var 1] := ⟨Go.Proofs.Tryz.f78, _, [0, 2], Go.Proofs.Tryz.func78, rfl, by kernel_rfl, by kernel_rfl, by decide, by kernel_rfl, by kernel_rfl⟩
theorem fd_mi : FOk Go.Proofs.Tryz.prog 31 0 (c_maxI NS mS.pT 77 78) [.var 0] := ⟨Go.Proofs.Tryz.f31, _, [0], Go.Proofs.Tryz.func31, rfl, by kernel_rfl, by kernel_rfl, by decide, by kernel_rfl, by kernel_rfl⟩
theorem fd_tellI : FOk Go.Proofs.Tryz.prog 33 2 (zxl NS mS.pT 77 80 81 83 82) [.cell 2 NS.zz, .var 3] := ⟨Go.Proofs.Tryz.f33, _, [0, 1, 4, 5, 6, 16], Go.Proofs.Tryz.func33, rfl, by kernel_rfl, by kernel_rfl, by decide, by kernel_rfl, by kernel_rfl⟩

def sc_sCreatePartitionsRequestTopicAssignment : List SC := [.mk [(0, 11), (2, -1), (3, -1), (4, -1), (6, 3)] none []]
theorem fsc_sCreatePartitionsRequestTopicAssignment : FOk Go.Proofs.Tryz.prog 119 0 (c_flds MS sc_sCreatePartitionsRequestTopicAssignment) [.var 0] := ⟨Go.Proofs.Tryz.f119, _, [0], Go.Proofs.Tryz.func119, rfl, by kernel_rfl, by kernel_rfl, by decide, by kernel_rfl, by kernel_rfl⟩
theorem mk_sCreatePartitionsRequestTopicAssignment : MkOk Go.Proofs.Tryz.prog 119 (SC.flds sc_sCreatePartitionsRequestTopicAssignment) := mk_flds (l := sc_sCreatePartitionsRequestTopicAssignment) spT (by kernel_rfl) ⟨rfl, trivial⟩ fsc_sCreatePartitionsRequestTopicAssignment

def sc_sCreatePartitionsRequestTopic : List SC := [.mk [(0, 8), (2, -1), (3, -1), (4, -1)] none [], .mk [(0, 3), (2, -1), (3, -1), (4, -1)] none [], .mk [(0, 11), (2, -1), (3, 0), (4, -1), (6, 10)] (some 119) sc_sCreatePartitionsRequestTopicAssignment]
theorem fsc_sCreatePartitionsRequestTopic : FOk Go.Proofs.Tryz.prog 79 0 (c_flds MS sc_sCreatePartitionsRequestTopic) [.var 0] := ⟨Go.Proofs.Tryz.f79, _, [0], Go.Proofs.Tryz.func79, rfl, by kernel_rfl, by kernel_rfl, by decide, by kernel_rfl, by kernel_rfl⟩
theorem mk_sCreatePartitionsRequestTopic : MkOk Go.Proofs.Tryz.prog 79 (SC.flds sc_sCreatePartitionsRequestTopic) := mk_flds (l := sc_sCreatePartitionsRequestTopic) spT (by kernel_rfl) ⟨rfl, ⟨rfl, ⟨⟨mk_sCreatePartitionsRequestTopicAssignment, fsc_sCreatePartitionsRequestTopicAssignment.has⟩, trivial⟩⟩⟩ fsc_sCreatePartitionsRequestTopic

def sc_CreatePartitionsRequest : List SC := [.mk [(0, 11), (2, -1), (3, -1), (4, -1), (6, 10)] (some 79) sc_sCreatePartitionsRequestTopic, .mk [(0, 3), (2, -1), (3, -1), (4, -1), (5, 15000)] none [], .mk [(0, 0), (2, -1), (3, -1), (4, -1)] none []]
theorem fsc_CreatePartitionsRequest : FOk Go.Proofs.Tryz.prog 32 0 (c_msg MS sc_CreatePartitionsRequest (2)) [.cell 0 MS.zas] := ⟨Go.Proofs.Tryz.f32, _, [0], Go.Proofs.Tryz.func32, rfl, by kernel_rfl, by kernel_rfl, by decide, by kernel_rfl, by kernel_rfl⟩
theorem lawT : LawDD Go.Proofs.Tryz.prog NS MS mS true dS 3 32 30 sc_CreatePartitionsRequest (2) := ⟨door, fd_rf, fd_mv, fd_mi, fd_tellI, by decide, by decide, by decide, fsc_CreatePartitionsRequest, by kernel_rfl, ⟨⟨mk_sCreatePartitionsRequestTopic, fsc_sCreatePartitionsRequestTopic.has⟩, ⟨rfl, ⟨rfl, trivial⟩⟩⟩, by kernel_rfl, by kernel_rfl, sp_df, fpT, sp_spec_number, by kernel_rfl⟩
theorem fd_law : FOk Go.Proofs.Tryz.prog 8 2 (c_lawD NS MS 38 dS.maxI dS.tellI 32 30) [.var 3] := ⟨Go.Proofs.Tryz.f8, _, [0, 1, 3, 4, 12, 5, 15, 6, 7, 8, 9], Go.Proofs.Tryz.func8, rfl, by kernel_rfl, by kernel_rfl, by decide, by kernel_rfl, by kernel_rfl⟩
end Go.Kf

namespace Go.Proofs.YtccgofjnacenhaaGreatDoor.fnDefaultCreatePartitionsRequest
open Go.ChangeShapes Go.WideShapes Go.ChangeAt Go.RowKit Go.Kf

theorem reads (os : Os) {H : Type} (enc : TypeId × Value → H) : ∃ places, DataW.whole enc Go.Proofs.Tryz.prog ((World.doorLaid Go.Proofs.Tryz.prog 400 os).forCall (fun _ _ => 0) ⟨#[], #[.int .u8 0, .agg #[.int .i64 0, .slice none 0 0, .bool false, .slice none 0 0, .slice none 0 0]], []⟩).memory Go.Proofs.Tryz.f8.params.toList Rows.fnDefaultCreatePartitionsRequestSpec.vars false #[Value.int .u8 0, .agg #[.int .i64 0, .slice none 0 0, .bool false, .slice none 0 0, .slice none 0 0]].toList 8 = some ([.lit (.int .u8 0), .agg [.lit (.int .i64 0), .nil, .lit (.bool false), .nil, .nil]], [], places) :=
  ⟨[], by kernel_rfl⟩
set_option maxHeartbeats 4000000 in
theorem lifted (os : Os) (started : os.Started) (H : Type) (enc : TypeId × Value → H) (F : Stop.Interp) :
    ReturnsInHanded {} Go.Proofs.Tryz.checked os 8 .any ((Rows.OpenSpec.upto Rows.fnDefaultCreatePartitionsRequestSpec).preRow enc Go.Proofs.Tryz.prog Go.Proofs.Tryz.f8 Rows.fnDefaultCreatePartitionsRequestUptoRow.domain false Rows.fnDefaultCreatePartitionsRequestUptoRow.laid) (((Rows.OpenSpec.upto Rows.fnDefaultCreatePartitionsRequestSpec).at F).post enc Go.Proofs.Tryz.prog Go.Proofs.Tryz.f8 false true false false) := by
  obtain ⟨places, hx⟩ := reads os enc
  refine returnsInHanded_of_row (C := Go.Proofs.Tryz.checked) (s := Rows.OpenSpec.upto Rows.fnDefaultCreatePartitionsRequestSpec) own started (by kernel_rfl) Go.Proofs.Tryz.func8
    ⟨World.doorLaid Go.Proofs.Tryz.prog 400 os, fun _ _ => 0, ⟨#[], #[.int .u8 0, .agg #[.int .i64 0, .slice none 0 0, .bool false, .slice none 0 0, .slice none 0 0]], []⟩, rfl, shaped os _, rfl, (Input.okWide_of_okWideB (by kernel_rfl)).2,
      OpenSpec.preRow_of_cond 8 hx (by kernel_rfl) (fun k hk => by cases hk; kernel_rfl) (by kernel_rfl) (door_met os _), by
        simp only [Assume.holds]
        exact ⟨by simp, by simp, fun _ => Modest.zero, by simp, by simp⟩⟩ ?_
  intro W base args ds gs before hval0 hW _ hcond _ hL _ _
  have hval : ∀ (j : Nat) t v, Go.Proofs.Tryz.f8.params[j]? = some t → args[j]? = some v → Value.okWide Go.Proofs.Tryz.prog W .any base t v := hval0
  have hW' := hW
  obtain ⟨p, q, hA0, hV, rfl, hfz, hnd⟩ := hW
  have hA : DataW.TrodAll enc Go.Proofs.Tryz.prog W 0 (fun _ => true) true Go.Proofs.Tryz.f8.params.toList args.toList ds p := hA0
  rw [Go.Proofs.Tryz.params8] at hA hval
  obtain ⟨v0, vs0, d0, ds0, p0, q0, hargs, rfl, rfl, h0, r0⟩ := trodAll_cons hA
  obtain ⟨v1, vs1, d1, ds1, p1, q1, rfl, rfl, rfl, h1, r1⟩ := trodAll_cons r0
  obtain ⟨rfl, rfl, rfl⟩ := trodAll_nil r1
  obtain rfl : args = #[v0, v1] := by cases args; simp_all
  obtain ⟨rfl, rfl⟩ := trodVars_none hV
  obtain ⟨n0, rfl, rfl, rfl, w0⟩ := open_int Go.Proofs.Tryz.underlying5 (hval 0 5 v0 rfl rfl) h0
  obtain ⟨t, ct, rfl, ht, hwf, hsz⟩ := treeArg_of treeO baseS specT (bulkF H) (hval 1 26 v1 rfl rfl) h1
  have hc := hcond _ rfl
  have hsz2 : szT t ≤ 1048576 := by
    have hc2 : Rows.uptoBulkAll ([.lit (.int .u8 n0), d1] ++ []) ≤ 1048576 := of_decide_eq_true hc
    simp only [List.cons_append, List.nil_append, Rows.uptoBulkAll] at hc2
    omega
  have lt1 : ∀ x ∈ p1, x.block < W.heap.size := by obtain ⟨m, hm⟩ := h1; exact DataW.trod_lt m _ _ _ hm
  rw [MakeChecks.laidMetH_plain _ _ _ (by kernel_rfl)] at hL
  obtain ⟨a1, s1, hv1, _⟩ := laid_sentinel hL gO gT Go.Proofs.Tryz.underlying56 rowP Go.Proofs.Tryz.underlying247 Go.Proofs.Tryz.underlying265 rfl rfl Go.Proofs.Tryz.underlying9 cS cStr
  have hg : W.cell? ⟨1, 0, none⟩ = some (.iface 247 (.pointer (some a1))) := by simpa using World.var?_cell gO hv1 0
  have hn0 : 0 ≤ n0 ∧ n0 ≤ 255 := by
    simp [Lit.wf, IntKind.min, IntKind.max, IntKind.signed, IntKind.bits] at w0
    omega
  clear hA0 hval0
  refine Calls.mono (call_lawD baseS fnsS implT spT thSZ thSW (by decide) (by decide) lawT fd_law (n := n0) hn0 ht hwf hsz2 hg) fun e W' ⟨v', he, hv', hm⟩ => ?_
  subst he hv'
  have bel := hm.below
  exact ⟨_, rfl, _, _, _, [], _, [], hW', trodAll_mk1 (shut_bool Go.Proofs.Tryz.underlying4 _), trodAll_cons_mk (shut_int Go.Proofs.Tryz.underlying5 w0) (trodAll_cons_mk (Below.trod laidOut (by kernel_rfl) (of_decide_eq_true (by kernel_rfl)) h1 bel lt1) trodAll_mk0), rfl, bel.frame _, fun h => by cases h⟩

set_option maxHeartbeats 4000000 in
theorem joined : joinedFacts Go.Proofs.Tryz.prog 8 Go.Proofs.Tryz.f8 (Rows.OpenSpec.upto Rows.fnDefaultCreatePartitionsRequestSpec).bare Rows.fnDefaultCreatePartitionsRequestUptoRow = true := by
  unfold joinedFacts
  exact bandT (bandT (bandT (bandT (bandT (bandT (bandT (bandT (bandT (bandT (bandT (bandT (bandT (bandT (bandT (bandT (bandT (bandT (bandT (bandT (bandT (bandT (bandT (bandT (bandT (bandT (bandT (bandT (bandT (bandT (bandT (by as_aux_lemma => kernel_rfl) laidOut) mapsRowedS) (by as_aux_lemma => kernel_rfl)) (by as_aux_lemma => kernel_rfl)) (by as_aux_lemma => kernel_rfl)) (by as_aux_lemma => kernel_rfl)) (by as_aux_lemma => kernel_rfl)) (by as_aux_lemma => kernel_rfl)) (by as_aux_lemma => kernel_rfl)) (by as_aux_lemma => kernel_rfl)) (by as_aux_lemma => kernel_rfl)) (by as_aux_lemma => kernel_rfl)) (by as_aux_lemma => kernel_rfl)) (by as_aux_lemma => kernel_rfl)) (by as_aux_lemma => kernel_rfl)) (by as_aux_lemma => kernel_rfl)) (by as_aux_lemma => kernel_rfl)) (by as_aux_lemma => kernel_rfl)) (by as_aux_lemma => kernel_rfl)) (by as_aux_lemma => kernel_rfl)) (by as_aux_lemma => kernel_rfl)) plainKeysS) (by as_aux_lemma => kernel_rfl)) stopsHeardS) bigEnter) bigLifts) bigMake) (by as_aux_lemma => kernel_rfl)) (by as_aux_lemma => kernel_rfl)) (by as_aux_lemma => kernel_rfl)) (by as_aux_lemma => kernel_rfl)
theorem named : Go.Proofs.Tryz.prog.funcNamed Rows.fnDefaultCreatePartitionsRequestUptoRow.func = some 8 := by kernel_rfl
theorem isInst : Go.Proofs.Tryz.f8.isInstance Go.Proofs.Tryz.prog Rows.fnDefaultCreatePartitionsRequestUptoRow.origin Rows.fnDefaultCreatePartitionsRequestUptoRow.targs := of_decide_eq_true (by kernel_rfl)
theorem isWrap : Go.Proofs.Tryz.f8.isWrapper Go.Proofs.Tryz.prog Rows.fnDefaultCreatePartitionsRequestUptoRow.wrapper Rows.fnDefaultCreatePartitionsRequestUptoRow.mainSum := by unfold Func.isWrapper; first | (rw [if_pos (by decide +kernel)]; kernel_rfl) | (rw [if_neg (by decide +kernel)]; exact ⟨rfl, rfl⟩)
theorem row : Rows.FnDefaultCreatePartitionsRequestUptoSaid :=
  OpenClaim.holds_of_cond 8 Go.Proofs.Tryz.f8 rfl rfl rfl rfl rfl rfl rfl ⟨rfl, rfl, rfl, rfl, rfl⟩ rfl rfl rfl rfl rfl named Go.Proofs.Tryz.func8 joined
    isInst isWrap
    (fun os started H enc _ F => by rw [OpenClaim.pre_eq_preRow]; exact lifted os started H enc F)
end Go.Proofs.YtccgofjnacenhaaGreatDoor.fnDefaultCreatePartitionsRequest

namespace Go.Proofs.YtccgofjnacenhaaGreatDoor
open Go.Kf
set_option maxHeartbeats 4000000 in
theorem fnDefaultCreatePartitionsRequest_card : Rows.FnDefaultCreatePartitionsRequestUptoCardSaid :=
  Claim7.holds_tied_plain_at .later [] [.sentinel] true Rows.fnDefaultCreatePartitionsRequestUptoCard.stood.harness false
    fnDefaultCreatePartitionsRequest.row (fun _ h => by cases h) (by as_aux_lemma => kernel_rfl) (fun _ h => by cases h) fnDefaultCreatePartitionsRequestUpto_row_tie rfl ⟨rfl, rfl⟩ mainS rfl
    (fun f fn hf hfn => by
      obtain rfl : f = 8 := Option.some.inj (fnDefaultCreatePartitionsRequest.named.symm.trans hf) |>.symm
      obtain rfl : fn = Go.Proofs.Tryz.f8 := (Option.some.inj (Go.Proofs.Tryz.func8.symm.trans hfn)).symm
      refine ⟨looksS, fun j t ht => ?_⟩
      rw [Go.Proofs.Tryz.params8] at ht
      rcases j with _ | _ | j
      · obtain rfl : 5 = t := by simpa using ht
        exact (show Go.Proofs.Tryz.prog.wantsStandIn 5 = false by kernel_rfl)
      · obtain rfl : 26 = t := by simpa using ht
        exact (show Go.Proofs.Tryz.prog.wantsStandIn 26 = false by kernel_rfl)
      · simp at ht)
    (by as_aux_lemma => kernel_rfl)
#print axioms fnDefaultCreatePartitionsRequest_card
end Go.Proofs.YtccgofjnacenhaaGreatDoor
