/- Of a message that is written by the protocol just its fields are told (laws.FnTellConnectMemberAssignment): the second form's tied card is proved, at every version number and every tree whose bulk is at most 1048576; no other condition. -/
import Derived.Test.YtdlfgheckhmgiaaDoorWs
set_option linter.unusedSimpArgs false
set_option linter.unusedVariables false
set_option maxRecDepth 100000
namespace Go.Kf
open Go

def tf : TypeId → FuncId × FuncId := fun | 117 => (121, 0) | 120 => (122, 0) | _ => (0, 0)

def rConnectMemberAssignmentAssignment : Fds := .cons .all (.txt .str) (.cons .all (.arr 115 none (.pr .i16)) (.nil))
theorem df_ConnectMemberAssignmentAssignment : FOk Go.Proofs.Tryd.prog 178 1 (seqs (rConnectMemberAssignmentAssignment.dfl NS 117 0)) [] := ⟨Go.Proofs.Tryd.f178, _, [0], Go.Proofs.Tryd.func178, rfl, by kernel_rfl, by kernel_rfl, by decide, by kernel_rfl, by kernel_rfl⟩
theorem ft_ConnectMemberAssignmentAssignment : FOk Go.Proofs.Tryd.prog 121 1 (tellC NS tf 117 0 0 rConnectMemberAssignmentAssignment) [.cell 1 NS.zz] := ⟨Go.Proofs.Tryd.f121, _, [0, 2, 3, 29, 30, 31, 4, 34, 48, 49, 51], Go.Proofs.Tryd.func121, rfl, by kernel_rfl, by kernel_rfl, by decide, by kernel_rfl, by kernel_rfl⟩
theorem tl_ConnectMemberAssignmentAssignment : TellP Go.Proofs.Tryd.prog 121 0 rConnectMemberAssignmentAssignment := tellP baseS fnsS implT tellN (tf := tf) (Tt := 117) (idx0 := 0) ft_ConnectMemberAssignmentAssignment (fun h => absurd rfl h) ⟨trivial, ⟨⟨zhr (by kernel_rfl), el_ti (fx := false) baseS fnsS _ (by kernel_rfl) trivial, trivial⟩, trivial⟩⟩ (Fds.ok_of (fx := false) (Tt := 117) (idx := 0) (off := 0) baseS fnsS rConnectMemberAssignmentAssignment (by kernel_rfl) ⟨trivial, ⟨trivial, trivial⟩⟩).2.1 (by decide)

def rConnectMemberAssignmentRevoked : Fds := .cons .all (.txt .str) (.cons .all (.arr 115 none (.pr .i16)) (.nil))
theorem df_ConnectMemberAssignmentRevoked : FOk Go.Proofs.Tryd.prog 179 1 (seqs (rConnectMemberAssignmentRevoked.dfl NS 120 0)) [] := ⟨Go.Proofs.Tryd.f179, _, [0], Go.Proofs.Tryd.func179, rfl, by kernel_rfl, by kernel_rfl, by decide, by kernel_rfl, by kernel_rfl⟩
theorem ft_ConnectMemberAssignmentRevoked : FOk Go.Proofs.Tryd.prog 122 1 (tellC NS tf 120 0 0 rConnectMemberAssignmentRevoked) [.cell 1 NS.zz] := ⟨Go.Proofs.Tryd.f122, _, [0, 2, 3, 29, 30, 31, 4, 34, 48, 49, 51], Go.Proofs.Tryd.func122, rfl, by kernel_rfl, by kernel_rfl, by decide, by kernel_rfl, by kernel_rfl⟩
theorem tl_ConnectMemberAssignmentRevoked : TellP Go.Proofs.Tryd.prog 122 0 rConnectMemberAssignmentRevoked := tellP baseS fnsS implT tellN (tf := tf) (Tt := 120) (idx0 := 0) ft_ConnectMemberAssignmentRevoked (fun h => absurd rfl h) ⟨trivial, ⟨⟨zhr (by kernel_rfl), el_ti (fx := false) baseS fnsS _ (by kernel_rfl) trivial, trivial⟩, trivial⟩⟩ (Fds.ok_of (fx := false) (Tt := 120) (idx := 0) (off := 0) baseS fnsS rConnectMemberAssignmentRevoked (by kernel_rfl) ⟨trivial, ⟨trivial, trivial⟩⟩).2.1 (by decide)

def mS : Msg := ⟨57, 63, 119, 0, true, .cons .all (.pr .i16 none) (.cons .all (.txt .str) (.cons .all (.txt .str) (.cons .all (.pr .i64 none) (.cons .all (.arr 54 none (.row 117 114 178 (.cons .all (.txt .str) (.cons .all (.arr 115 none (.pr .i16)) (.nil))))) (.cons (.ge 1) (.arr 55 none (.row 120 119 179 (.cons .all (.txt .str) (.cons .all (.arr 115 none (.pr .i16)) (.nil))))) (.cons (.ge 1) (.pr .i32 none) (.nil)))))))⟩
def dS : zzb where
  newP := 52
  readF := 53
  readf := 120
  tell := 54
  tellI := 15
theorem rd_m : FOk Go.Proofs.Tryd.prog 120 3 (mS.gen NS false) [.var 3] := ⟨Go.Proofs.Tryd.f120, _, [0, 1, 2, 6, 7, 8, 9, 10, 11, 58, 12, 65, 13, 14, 15, 16, 84, 89, 17, 95, 18, 19, 20, 104, 21, 22, 23, 118, 123, 24, 129, 25, 148, 26, 27, 28, 156, 161, 29, 167, 30, 31, 32, 176, 33, 34, 35, 190, 195, 36, 201, 37, 220, 38], Go.Proofs.Tryd.func120, rfl, by kernel_rfl, by kernel_rfl, by decide, by kernel_rfl, by kernel_rfl⟩
theorem df_m : FOk Go.Proofs.Tryd.prog 119 1 (seqs (mS.fs.dfl NS mS.tT 1)) [] := ⟨Go.Proofs.Tryd.f119, _, [0], Go.Proofs.Tryd.func119, rfl, by kernel_rfl, by kernel_rfl, by decide, by kernel_rfl, by kernel_rfl⟩
theorem mt : MsgT Go.Proofs.Tryd.prog NS mS false := msgT_of baseS fnsS (by kernel_rfl) (by kernel_rfl) (by kernel_rfl) ⟨trivial, ⟨trivial, ⟨trivial, ⟨trivial, ⟨⟨df_ConnectMemberAssignmentAssignment, ⟨trivial, ⟨trivial, trivial⟩⟩⟩, ⟨⟨df_ConnectMemberAssignmentRevoked, ⟨trivial, ⟨trivial, trivial⟩⟩⟩, ⟨trivial, trivial⟩⟩⟩⟩⟩⟩⟩ df_m
theorem ft_ConnectMemberAssignment : FOk Go.Proofs.Tryd.prog 54 1 (tellC NS tf 57 1 0 mS.fs) [.cell 1 NS.zz] := ⟨Go.Proofs.Tryd.f54, _, [0, 2, 3, 56, 57, 58, 4, 61, 73, 74, 76, 112, 113, 114, 5, 117, 129, 130, 132], Go.Proofs.Tryd.func54, rfl, by kernel_rfl, by kernel_rfl, by decide, by kernel_rfl, by kernel_rfl⟩
theorem tl_ConnectMemberAssignment : TellP Go.Proofs.Tryd.prog 54 1 mS.fs := tellP baseS fnsS implT tellN (tf := tf) (Tt := 57) (idx0 := 1) ft_ConnectMemberAssignment (fun h => absurd rfl h) ⟨trivial, ⟨trivial, ⟨trivial, ⟨trivial, ⟨⟨zhr (by kernel_rfl), el_ti (fx := false) baseS fnsS _ (by kernel_rfl) ⟨df_ConnectMemberAssignmentAssignment, ⟨trivial, ⟨trivial, trivial⟩⟩⟩, tl_ConnectMemberAssignmentAssignment⟩, ⟨⟨zhr (by kernel_rfl), el_ti (fx := false) baseS fnsS _ (by kernel_rfl) ⟨df_ConnectMemberAssignmentRevoked, ⟨trivial, ⟨trivial, trivial⟩⟩⟩, tl_ConnectMemberAssignmentRevoked⟩, ⟨trivial, trivial⟩⟩⟩⟩⟩⟩⟩ mt.hf (by decide)
theorem fd_new : FOk Go.Proofs.Tryd.prog 52 0 (c_newV NS mS.tT mS.dflt) [.cell 0 57] := ⟨Go.Proofs.Tryd.f52, _, [0, 1], Go.Proofs.Tryd.func52, rfl, by kernel_rfl, by kernel_rfl, by decide, by kernel_rfl, by kernel_rfl⟩
theorem door : DoorV Go.Proofs.Tryd.prog NS mS false dS where
  msg := mt
  vin := rfl
  i16 := by decide
  ti := (tsB_ok (by' := bytesOf Go.Proofs.Tryd.prog 57) (by kernel_rfl)).imp fun _ h => ⟨_, h⟩
  newP := fd_new
  readf := rd_m
  tell := tl_ConnectMemberAssignment
  dok := ⟨⟨_, rfl, by decide⟩, ⟨⟨_, rfl, by decide⟩, ⟨⟨trivial, trivial⟩, ⟨⟨trivial, trivial⟩, ⟨⟨_, rfl, by decide⟩, trivial⟩⟩⟩⟩⟩
  shB := by kernel_rfl
  cnt := by decide
  il := by kernel_rfl
  io := by kernel_rfl
  zo := by kernel_rfl
theorem fd_rf : FOk Go.Proofs.Tryd.prog 53 2 (c_rf NS mS.pT 120 false) [.var 2] := ⟨Go.Proofs.Tryd.f53, _, [0, 1, 4], Go.Proofs.Tryd.func53, rfl, by kernel_rfl, by kernel_rfl, by decide, by kernel_rfl, by kernel_rfl⟩
theorem fd_tellI : FOk Go.Proofs.Tryd.prog 15 1 (zyu NS mS.tT mS.pT 52 53 54) [.cell 1 NS.zz, .var 2] := ⟨Go.Proofs.Tryd.f15, _, [0, 2, 3, 4, 10, 5], Go.Proofs.Tryd.func15, rfl, by kernel_rfl, by kernel_rfl, by decide, by kernel_rfl, by kernel_rfl⟩
theorem fd_kept : FOk Go.Proofs.Tryd.prog 16 3 (c_Kept NS MS) [.var 5] := ⟨Go.Proofs.Tryd.f16, _, [0, 1, 2, 3, 5, 6], Go.Proofs.Tryd.func16, rfl, by kernel_rfl, by kernel_rfl, by decide, by kernel_rfl, by kernel_rfl⟩

def sc_sConnectMemberAssignmentAssignment : List SC := [.mk [(0, 8), (2, -1), (3, -1), (4, -1)] none [], .mk [(0, 11), (2, -1), (3, -1), (4, -1), (6, 2)] none []]
theorem fsc_sConnectMemberAssignmentAssignment : FOk Go.Proofs.Tryd.prog 50 0 (c_flds MS sc_sConnectMemberAssignmentAssignment) [.var 0] := ⟨Go.Proofs.Tryd.f50, _, [0], Go.Proofs.Tryd.func50, rfl, by kernel_rfl, by kernel_rfl, by decide, by kernel_rfl, by kernel_rfl⟩
theorem mk_sConnectMemberAssignmentAssignment : MkOk Go.Proofs.Tryd.prog 50 (SC.flds sc_sConnectMemberAssignmentAssignment) := mk_flds (l := sc_sConnectMemberAssignmentAssignment) spT (by kernel_rfl) ⟨rfl, ⟨rfl, trivial⟩⟩ fsc_sConnectMemberAssignmentAssignment

def sc_sConnectMemberAssignmentRevoked : List SC := [.mk [(0, 8), (2, -1), (3, -1), (4, -1)] none [], .mk [(0, 11), (2, -1), (3, -1), (4, -1), (6, 2)] none []]
theorem fsc_sConnectMemberAssignmentRevoked : FOk Go.Proofs.Tryd.prog 51 0 (c_flds MS sc_sConnectMemberAssignmentRevoked) [.var 0] := ⟨Go.Proofs.Tryd.f51, _, [0], Go.Proofs.Tryd.func51, rfl, by kernel_rfl, by kernel_rfl, by decide, by kernel_rfl, by kernel_rfl⟩
theorem mk_sConnectMemberAssignmentRevoked : MkOk Go.Proofs.Tryd.prog 51 (SC.flds sc_sConnectMemberAssignmentRevoked) := mk_flds (l := sc_sConnectMemberAssignmentRevoked) spT (by kernel_rfl) ⟨rfl, ⟨rfl, trivial⟩⟩ fsc_sConnectMemberAssignmentRevoked

def sc_ConnectMemberAssignment : List SC := [.mk [(0, 2), (2, -1), (3, -1), (4, -1)] none [], .mk [(0, 8), (2, -1), (3, -1), (4, -1)] none [], .mk [(0, 8), (2, -1), (3, -1), (4, -1)] none [], .mk [(0, 4), (2, -1), (3, -1), (4, -1)] none [], .mk [(0, 11), (2, -1), (3, -1), (4, -1), (6, 10)] (some 50) sc_sConnectMemberAssignmentAssignment, .mk [(0, 11), (1, 1), (2, -1), (3, -1), (4, -1), (6, 10)] (some 51) sc_sConnectMemberAssignmentRevoked, .mk [(0, 3), (1, 1), (2, -1), (3, -1), (4, -1)] none []]
theorem fsc_ConnectMemberAssignment : FOk Go.Proofs.Tryd.prog 14 0 (c_msg MS sc_ConnectMemberAssignment (-1)) [.cell 0 MS.zai] := ⟨Go.Proofs.Tryd.f14, _, [0], Go.Proofs.Tryd.func14, rfl, by kernel_rfl, by kernel_rfl, by decide, by kernel_rfl, by kernel_rfl⟩
theorem lawT : LawTV Go.Proofs.Tryd.prog NS MS mS false dS 1 14 16 sc_ConnectMemberAssignment (-1) := ⟨door, fd_rf, fd_tellI, by decide, fsc_ConnectMemberAssignment, fd_kept, by kernel_rfl, ⟨rfl, ⟨rfl, ⟨rfl, ⟨rfl, ⟨⟨mk_sConnectMemberAssignmentAssignment, fsc_sConnectMemberAssignmentAssignment.has⟩, ⟨⟨mk_sConnectMemberAssignmentRevoked, fsc_sConnectMemberAssignmentRevoked.has⟩, ⟨rfl, trivial⟩⟩⟩⟩⟩⟩⟩, by kernel_rfl, by kernel_rfl, by kernel_rfl⟩
theorem fd_law : FOk Go.Proofs.Tryd.prog 3 2 (c_lawTV NS MS 36 dS.tellI 14 16 (((1 : Nat) : Int) + 1)) [.var 3] := ⟨Go.Proofs.Tryd.f3, _, [0, 1, 3, 4, 11, 5, 6, 7, 8], Go.Proofs.Tryd.func3, rfl, by kernel_rfl, by kernel_rfl, by decide, by kernel_rfl, by kernel_rfl⟩
end Go.Kf

namespace Go.Proofs.YtdlfgheckhmgiaaDoor.fnTellConnectMemberAssignment
open Go.ChangeShapes Go.WideShapes Go.ChangeAt Go.RowKit Go.Kf

theorem reads (os : Os) {H : Type} (enc : TypeId × Value → H) : ∃ places, DataW.whole enc Go.Proofs.Tryd.prog ((World.doorLaid Go.Proofs.Tryd.prog 400 os).forCall (fun _ _ => 0) ⟨#[], #[.int .u8 0, .agg #[.int .i64 0, .slice none 0 0, .bool false, .slice none 0 0, .slice none 0 0]], []⟩).memory Go.Proofs.Tryd.f3.params.toList Rows.fnTellConnectMemberAssignmentSpec.vars false #[Value.int .u8 0, .agg #[.int .i64 0, .slice none 0 0, .bool false, .slice none 0 0, .slice none 0 0]].toList 8 = some ([.lit (.int .u8 0), .agg [.lit (.int .i64 0), .nil, .lit (.bool false), .nil, .nil]], [], places) :=
  ⟨[], by kernel_rfl⟩
set_option maxHeartbeats 4000000 in
theorem lifted (os : Os) (started : os.Started) (H : Type) (enc : TypeId × Value → H) (F : Stop.Interp) :
    ReturnsInHanded {} Go.Proofs.Tryd.checked os 3 .any ((Rows.OpenSpec.upto Rows.fnTellConnectMemberAssignmentSpec).preRow enc Go.Proofs.Tryd.prog Go.Proofs.Tryd.f3 Rows.fnTellConnectMemberAssignmentUptoRow.domain false Rows.fnTellConnectMemberAssignmentUptoRow.laid) (((Rows.OpenSpec.upto Rows.fnTellConnectMemberAssignmentSpec).at F).post enc Go.Proofs.Tryd.prog Go.Proofs.Tryd.f3 false true false false) := by
  obtain ⟨places, hx⟩ := reads os enc
  refine returnsInHanded_of_row (C := Go.Proofs.Tryd.checked) (s := Rows.OpenSpec.upto Rows.fnTellConnectMemberAssignmentSpec) own started (by kernel_rfl) Go.Proofs.Tryd.func3
    ⟨World.doorLaid Go.Proofs.Tryd.prog 400 os, fun _ _ => 0, ⟨#[], #[.int .u8 0, .agg #[.int .i64 0, .slice none 0 0, .bool false, .slice none 0 0, .slice none 0 0]], []⟩, rfl, shaped os _, rfl, (Input.okWide_of_okWideB (by kernel_rfl)).2,
      OpenSpec.preRow_of_cond 8 hx (by kernel_rfl) (fun k hk => by cases hk; kernel_rfl) (by kernel_rfl) (door_met os _), by
        simp only [Assume.holds]
        exact ⟨by simp, by simp, fun _ => Modest.zero, by simp, by simp⟩⟩ ?_
  intro W base args ds gs before hval0 hW _ hcond _ hL _ _
  have hval : ∀ (j : Nat) t v, Go.Proofs.Tryd.f3.params[j]? = some t → args[j]? = some v → Value.okWide Go.Proofs.Tryd.prog W .any base t v := hval0
  have hW' := hW
  obtain ⟨p, q, hA0, hV, rfl, hfz, hnd⟩ := hW
  have hA : DataW.TrodAll enc Go.Proofs.Tryd.prog W 0 (fun _ => true) true Go.Proofs.Tryd.f3.params.toList args.toList ds p := hA0
  rw [Go.Proofs.Tryd.params3] at hA hval
  obtain ⟨v0, vs0, d0, ds0, p0, q0, hargs, rfl, rfl, h0, r0⟩ := trodAll_cons hA
  obtain ⟨v1, vs1, d1, ds1, p1, q1, rfl, rfl, rfl, h1, r1⟩ := trodAll_cons r0
  obtain ⟨rfl, rfl, rfl⟩ := trodAll_nil r1
  obtain rfl : args = #[v0, v1] := by cases args; simp_all
  obtain ⟨rfl, rfl⟩ := trodVars_none hV
  obtain ⟨n0, rfl, rfl, rfl, w0⟩ := open_int Go.Proofs.Tryd.underlying5 (hval 0 5 v0 rfl rfl) h0
  obtain ⟨t, ct, rfl, ht, hwf, hsz⟩ := treeArg_of treeO baseS specT (bulkF H) (hval 1 26 v1 rfl rfl) h1
  have hc := hcond _ rfl
  have hsz2 : szT t ≤ 1048576 := by
    have hc2 : Rows.uptoBulkAll ([.lit (.int .u8 n0), d1] ++ []) ≤ 1048576 := of_decide_eq_true hc
    simp only [List.cons_append, List.nil_append, Rows.uptoBulkAll] at hc2
    omega
  have lt1 : ∀ x ∈ p1, x.block < W.heap.size := by obtain ⟨m, hm⟩ := h1; exact DataW.trod_lt m _ _ _ hm
  rw [MakeChecks.laidMetH_plain _ _ _ (by kernel_rfl)] at hL
  obtain ⟨a1, s1, hv1, _⟩ := laid_sentinel hL gO gT Go.Proofs.Tryd.underlying60 rowP Go.Proofs.Tryd.underlying301 Go.Proofs.Tryd.underlying319 rfl rfl Go.Proofs.Tryd.underlying9 cS cStr
  have hg : W.cell? ⟨1, 0, none⟩ = some (.iface 301 (.pointer (some a1))) := by simpa using World.var?_cell gO hv1 0
  have hn0 : 0 ≤ n0 ∧ n0 ≤ 255 := by
    simp [Lit.wf, IntKind.min, IntKind.max, IntKind.signed, IntKind.bits] at w0
    omega
  clear hA0 hval0
  refine Calls.mono (call_lawTV baseS fnsS implT spT thSZ thSW thSTo (by decide) (by decide) lawT fd_law (n := n0) hn0 ht hwf hsz2 hg) fun e W' ⟨v', he, hv', hm⟩ => ?_
  subst he hv'
  have bel := hm.below
  exact ⟨_, rfl, _, _, _, [], _, [], hW', trodAll_mk1 (shut_bool Go.Proofs.Tryd.underlying4 _), trodAll_cons_mk (shut_int Go.Proofs.Tryd.underlying5 w0) (trodAll_cons_mk (Below.trod laidOut (by kernel_rfl) (of_decide_eq_true (by kernel_rfl)) h1 bel lt1) trodAll_mk0), rfl, bel.frame _, fun h => by cases h⟩

set_option maxHeartbeats 4000000 in
theorem joined : joinedFacts Go.Proofs.Tryd.prog 3 Go.Proofs.Tryd.f3 (Rows.OpenSpec.upto Rows.fnTellConnectMemberAssignmentSpec).bare Rows.fnTellConnectMemberAssignmentUptoRow = true := by
  unfold joinedFacts
  exact bandT (bandT (bandT (bandT (bandT (bandT (bandT (bandT (bandT (bandT (bandT (bandT (bandT (bandT (bandT (bandT (bandT (bandT (bandT (bandT (bandT (bandT (bandT (bandT (bandT (bandT (bandT (bandT (bandT (bandT (bandT (by as_aux_lemma => kernel_rfl) laidOut) mapsRowedS) (by as_aux_lemma => kernel_rfl)) (by as_aux_lemma => kernel_rfl)) (by as_aux_lemma => kernel_rfl)) (by as_aux_lemma => kernel_rfl)) (by as_aux_lemma => kernel_rfl)) (by as_aux_lemma => kernel_rfl)) (by as_aux_lemma => kernel_rfl)) (by as_aux_lemma => kernel_rfl)) (by as_aux_lemma => kernel_rfl)) (by as_aux_lemma => kernel_rfl)) (by as_aux_lemma => kernel_rfl)) (by as_aux_lemma => kernel_rfl)) (by as_aux_lemma => kernel_rfl)) (by as_aux_lemma => kernel_rfl)) (by as_aux_lemma => kernel_rfl)) (by as_aux_lemma => kernel_rfl)) (by as_aux_lemma => kernel_rfl)) (by as_aux_lemma => kernel_rfl)) (by as_aux_lemma => kernel_rfl)) plainKeysS) (by as_aux_lemma => kernel_rfl)) stopsHeardS) bigEnter) bigLifts) bigMake) (by as_aux_lemma => kernel_rfl)) (by as_aux_lemma => kernel_rfl)) (by as_aux_lemma => kernel_rfl)) (by as_aux_lemma => kernel_rfl)
theorem named : Go.Proofs.Tryd.prog.funcNamed Rows.fnTellConnectMemberAssignmentUptoRow.func = some 3 := by kernel_rfl
theorem isInst : Go.Proofs.Tryd.f3.isInstance Go.Proofs.Tryd.prog Rows.fnTellConnectMemberAssignmentUptoRow.origin Rows.fnTellConnectMemberAssignmentUptoRow.targs := of_decide_eq_true (by kernel_rfl)
theorem isWrap : Go.Proofs.Tryd.f3.isWrapper Go.Proofs.Tryd.prog Rows.fnTellConnectMemberAssignmentUptoRow.wrapper Rows.fnTellConnectMemberAssignmentUptoRow.mainSum := by unfold Func.isWrapper; first | (rw [if_pos (by decide +kernel)]; kernel_rfl) | (rw [if_neg (by decide +kernel)]; exact ⟨rfl, rfl⟩)
theorem row : Rows.FnTellConnectMemberAssignmentUptoSaid :=
  OpenClaim.holds_of_cond 3 Go.Proofs.Tryd.f3 rfl rfl rfl rfl rfl rfl rfl ⟨rfl, rfl, rfl, rfl, rfl⟩ rfl rfl rfl rfl rfl named Go.Proofs.Tryd.func3 joined
    isInst isWrap
    (fun os started H enc _ F => by rw [OpenClaim.pre_eq_preRow]; exact lifted os started H enc F)
end Go.Proofs.YtdlfgheckhmgiaaDoor.fnTellConnectMemberAssignment

namespace Go.Proofs.YtdlfgheckhmgiaaDoor
open Go.Kf
set_option maxHeartbeats 4000000 in
theorem fnTellConnectMemberAssignment_card : Rows.FnTellConnectMemberAssignmentUptoCardSaid :=
  Claim7.holds_tied_plain_at .later [] [.sentinel] true Rows.fnTellConnectMemberAssignmentUptoCard.stood.harness false
    fnTellConnectMemberAssignment.row (fun _ h => by cases h) (by as_aux_lemma => kernel_rfl) (fun _ h => by cases h) fnTellConnectMemberAssignmentUpto_row_tie rfl ⟨rfl, rfl⟩ mainS rfl
    (fun f fn hf hfn => by
      obtain rfl : f = 3 := Option.some.inj (fnTellConnectMemberAssignment.named.symm.trans hf) |>.symm
      obtain rfl : fn = Go.Proofs.Tryd.f3 := (Option.some.inj (Go.Proofs.Tryd.func3.symm.trans hfn)).symm
      refine ⟨looksS, fun j t ht => ?_⟩
      rw [Go.Proofs.Tryd.params3] at ht
      rcases j with _ | _ | j
      · obtain rfl : 5 = t := by simpa using ht
        exact (show Go.Proofs.Tryd.prog.wantsStandIn 5 = false by kernel_rfl)
      · obtain rfl : 26 = t := by simpa using ht
        exact (show Go.Proofs.Tryd.prog.wantsStandIn 26 = false by kernel_rfl)
      · simp at ht)
    (by as_aux_lemma => kernel_rfl)
#print axioms fnTellConnectMemberAssignment_card
end Go.Proofs.YtdlfgheckhmgiaaDoor
