/- Of a message that is written by the protocol just its fields are told (laws.FnTellBrokerRegistrationRequest): the second form's tied card is proved, at every version number and every tree whose bulk is at most 1048576; no other condition. -/
import Derived.Test.YtccgofjnacenhaaGreatDoorBs
set_option linter.unusedSimpArgs false
set_option linter.unusedVariables false
set_option maxRecDepth 100000
namespace Go.Kf
open Go

def tf : TypeId → FuncId × FuncId := fun | 130 => (106, 155) | 134 => (107, 156) | _ => (0, 0)

def rBrokerRegistrationRequestListener : Fds := .cons .all (.txt .str) (.cons .all (.txt .str) (.cons .all (.pr .u16 none) (.cons .all (.pr .i16 none) (.tags))))
theorem df_BrokerRegistrationRequestListener : FOk Go.Proofs.Tryz.prog 152 1 (seqs (rBrokerRegistrationRequestListener.dfl NS 130 0)) [] := ⟨Go.Proofs.Tryz.f152, _, [0], Go.Proofs.Tryz.func152, rfl, by kernel_rfl, by kernel_rfl, by decide, by kernel_rfl, by kernel_rfl⟩
theorem ft_BrokerRegistrationRequestListener : FOk Go.Proofs.Tryz.prog 106 1 (tellC NS tf 130 0 155 rBrokerRegistrationRequestListener) [.cell 1 NS.zz] := ⟨Go.Proofs.Tryz.f106, _, [0, 2, 3], Go.Proofs.Tryz.func106, rfl, by kernel_rfl, by kernel_rfl, by decide, by kernel_rfl, by kernel_rfl⟩
theorem fc_BrokerRegistrationRequestListener : FOk Go.Proofs.Tryz.prog 155 3 (cTagFn NS) [] := ⟨Go.Proofs.Tryz.f155, _, [0, 1, 2], Go.Proofs.Tryz.func155, rfl, by kernel_rfl, by kernel_rfl, by decide, by kernel_rfl, by kernel_rfl⟩
theorem tl_BrokerRegistrationRequestListener : TellP Go.Proofs.Tryz.prog 106 0 rBrokerRegistrationRequestListener := tellP baseS fnsS implT tellN (tf := tf) (Tt := 130) (idx0 := 0) ft_BrokerRegistrationRequestListener (fun _ => fc_BrokerRegistrationRequestListener) ⟨trivial, ⟨trivial, ⟨trivial, ⟨trivial, trivial⟩⟩⟩⟩ (Fds.ok_of (fx := true) (Tt := 130) (idx := 0) (off := 0) baseS fnsS rBrokerRegistrationRequestListener (by kernel_rfl) ⟨trivial, ⟨trivial, ⟨trivial, ⟨trivial, trivial⟩⟩⟩⟩).2.1 (by decide)

def rBrokerRegistrationRequestFeature : Fds := .cons .all (.txt .str) (.cons .all (.pr .i16 none) (.cons .all (.pr .i16 none) (.tags)))
theorem df_BrokerRegistrationRequestFeature : FOk Go.Proofs.Tryz.prog 154 1 (seqs (rBrokerRegistrationRequestFeature.dfl NS 134 0)) [] := ⟨Go.Proofs.Tryz.f154, _, [0], Go.Proofs.Tryz.func154, rfl, by kernel_rfl, by kernel_rfl, by decide, by kernel_rfl, by kernel_rfl⟩
theorem ft_BrokerRegistrationRequestFeature : FOk Go.Proofs.Tryz.prog 107 1 (tellC NS tf 134 0 156 rBrokerRegistrationRequestFeature) [.cell 1 NS.zz] := ⟨Go.Proofs.Tryz.f107, _, [0, 2, 3], Go.Proofs.Tryz.func107, rfl, by kernel_rfl, by kernel_rfl, by decide, by kernel_rfl, by kernel_rfl⟩
theorem fc_BrokerRegistrationRequestFeature : FOk Go.Proofs.Tryz.prog 156 3 (cTagFn NS) [] := ⟨Go.Proofs.Tryz.f156, _, [0, 1, 2], Go.Proofs.Tryz.func156, rfl, by kernel_rfl, by kernel_rfl, by decide, by kernel_rfl, by kernel_rfl⟩
theorem tl_BrokerRegistrationRequestFeature : TellP Go.Proofs.Tryz.prog 107 0 rBrokerRegistrationRequestFeature := tellP baseS fnsS implT tellN (tf := tf) (Tt := 134) (idx0 := 0) ft_BrokerRegistrationRequestFeature (fun _ => fc_BrokerRegistrationRequestFeature) ⟨trivial, ⟨trivial, ⟨trivial, trivial⟩⟩⟩ (Fds.ok_of (fx := true) (Tt := 134) (idx := 0) (off := 0) baseS fnsS rBrokerRegistrationRequestFeature (by kernel_rfl) ⟨trivial, ⟨trivial, ⟨trivial, trivial⟩⟩⟩).2.1 (by decide)

def mS : Msg := ⟨125, 73, 104, 0, false, .cons .all (.pr .i32 none) (.cons .all (.txt .str) (.cons .all (.pr .uuid none) (.cons .all (.arr 121 none (.row 130 127 152 (.cons .all (.txt .str) (.cons .all (.txt .str) (.cons .all (.pr .u16 none) (.cons .all (.pr .i16 none) (.tags))))))) (.cons .all (.arr 122 none (.row 134 132 154 (.cons .all (.txt .str) (.cons .all (.pr .i16 none) (.cons .all (.pr .i16 none) (.tags)))))) (.cons .all (.txt .nstr) (.cons (.ge 1) (.pr .bool none) (.cons (.ge 2) (.arr 123 none (.pr .uuid)) (.cons (.ge 3) (.pr .i64 (some (.int .i64 (-1)))) (.tags)))))))))⟩
def dS : zvp where
  newP := 56
  setV := 60
  maxV := 57
  readF := 61
  readf := 105
  tell := 62
  maxI := 21
  tellI := 23
theorem rd_m : FOk Go.Proofs.Tryz.prog 105 3 (mS.gen NS true) [.var 3] := ⟨Go.Proofs.Tryz.f105, _, [0, 1, 2, 6, 7, 8, 9, 10, 11, 12, 59, 60, 63, 13, 14, 15, 16, 80, 84, 89, 17, 95, 18, 19, 20, 104, 105, 108, 21, 115, 116, 119, 22, 23, 136, 24, 25, 26, 151, 155, 160, 27, 166, 28, 29, 30, 175, 176, 179, 31, 32, 196, 33, 206, 207, 210, 218, 34, 225, 35, 36, 37, 231, 235, 240, 38, 246, 39, 260, 40, 266], Go.Proofs.Tryz.func105, rfl, by kernel_rfl, by kernel_rfl, by decide, by kernel_rfl, by kernel_rfl⟩
theorem df_m : FOk Go.Proofs.Tryz.prog 104 1 (seqs (mS.fs.dfl NS mS.tT 1)) [] := ⟨Go.Proofs.Tryz.f104, _, [0], Go.Proofs.Tryz.func104, rfl, by kernel_rfl, by kernel_rfl, by decide, by kernel_rfl, by kernel_rfl⟩
theorem mt : MsgT Go.Proofs.Tryz.prog NS mS true := msgT_of baseS fnsS (by kernel_rfl) (by kernel_rfl) (by kernel_rfl) ⟨trivial, ⟨trivial, ⟨trivial, ⟨⟨df_BrokerRegistrationRequestListener, ⟨trivial, ⟨trivial, ⟨trivial, ⟨trivial, trivial⟩⟩⟩⟩⟩, ⟨⟨df_BrokerRegistrationRequestFeature, ⟨trivial, ⟨trivial, ⟨trivial, trivial⟩⟩⟩⟩, ⟨trivial, ⟨trivial, ⟨trivial, ⟨trivial, trivial⟩⟩⟩⟩⟩⟩⟩⟩⟩ df_m
theorem ft_BrokerRegistrationRequest : FOk Go.Proofs.Tryz.prog 62 1 (tellC NS tf 125 1 109 mS.fs) [.cell 1 NS.zz] := ⟨Go.Proofs.Tryz.f62, _, [0, 2, 3, 49, 50, 51, 4, 54, 66, 67, 69, 105, 106, 107, 5, 110, 122, 123, 125, 177, 178, 179, 6, 182, 196, 197, 199], Go.Proofs.Tryz.func62, rfl, by kernel_rfl, by kernel_rfl, by decide, by kernel_rfl, by kernel_rfl⟩
theorem fc_BrokerRegistrationRequest : FOk Go.Proofs.Tryz.prog 109 3 (cTagFn NS) [] := ⟨Go.Proofs.Tryz.f109, _, [0, 1, 2], Go.Proofs.Tryz.func109, rfl, by kernel_rfl, by kernel_rfl, by decide, by kernel_rfl, by kernel_rfl⟩
theorem tl_BrokerRegistrationRequest : TellP Go.Proofs.Tryz.prog 62 1 mS.fs := tellP baseS fnsS implT tellN (tf := tf) (Tt := 125) (idx0 := 1) ft_BrokerRegistrationRequest (fun _ => fc_BrokerRegistrationRequest) ⟨trivial, ⟨trivial, ⟨(show NS.zay ≠ 0 by decide), ⟨⟨zhv (by kernel_rfl), el_ti (fx := true) baseS fnsS _ (by kernel_rfl) ⟨df_BrokerRegistrationRequestListener, ⟨trivial, ⟨trivial, ⟨trivial, ⟨trivial, trivial⟩⟩⟩⟩⟩, tl_BrokerRegistrationRequestListener⟩, ⟨⟨zhv (by kernel_rfl), el_ti (fx := true) baseS fnsS _ (by kernel_rfl) ⟨df_BrokerRegistrationRequestFeature, ⟨trivial, ⟨trivial, ⟨trivial, trivial⟩⟩⟩⟩, tl_BrokerRegistrationRequestFeature⟩, ⟨⟨by decide, by decide⟩, ⟨(show NS.zhg ≠ 0 by decide), ⟨⟨zhv (by kernel_rfl), el_ti (fx := true) baseS fnsS _ (by kernel_rfl) trivial, (show NS.zay ≠ 0 by decide)⟩, ⟨trivial, trivial⟩⟩⟩⟩⟩⟩⟩⟩⟩ mt.hf (by decide)
theorem fd_new : FOk Go.Proofs.Tryz.prog 56 0 (c_new NS mS.tT mS.dflt) [.var 0] := ⟨Go.Proofs.Tryz.f56, _, [0, 1], Go.Proofs.Tryz.func56, rfl, by kernel_rfl, by kernel_rfl, by decide, by kernel_rfl, by kernel_rfl⟩
theorem fd_set : FOk Go.Proofs.Tryz.prog 60 2 (c_set NS mS.tT) [] := ⟨Go.Proofs.Tryz.f60, _, [0, 1], Go.Proofs.Tryz.func60, rfl, by kernel_rfl, by kernel_rfl, by decide, by kernel_rfl, by kernel_rfl⟩
theorem door : zyv Go.Proofs.Tryz.prog NS mS true dS where
  msg := mt
  vin := rfl
  ti := (tsB_ok (by' := bytesOf Go.Proofs.Tryz.prog 125) (by kernel_rfl)).imp fun _ h => ⟨_, h⟩
  newP := fd_new
  setV := fd_set
  readf := rd_m
  tell := tl_BrokerRegistrationRequest
  dok := ⟨⟨_, rfl, by decide⟩, ⟨⟨List.replicate 16 0, rfl, rfl⟩, ⟨⟨⟨_, rfl, by decide⟩, ⟨⟨_, rfl, by decide⟩, trivial⟩⟩, ⟨⟨⟨_, rfl, by decide⟩, ⟨⟨_, rfl, by decide⟩, trivial⟩⟩, ⟨⟨_, rfl⟩, ⟨trivial, ⟨⟨_, rfl, by decide⟩, trivial⟩⟩⟩⟩⟩⟩⟩
  shB := by kernel_rfl
  cnt := by decide
theorem fd_rf : FOk Go.Proofs.Tryz.prog 61 2 (c_rf NS mS.pT 105 false) [.var 2] := ⟨Go.Proofs.Tryz.f61, _, [0, 1, 4], Go.Proofs.Tryz.func61, rfl, by kernel_rfl, by kernel_rfl, by decide, by kernel_rfl, by kernel_rfl⟩
theorem fd_mv : FOk Go.Proofs.Tryz.prog 57 1 (c_max 4) [.var 1] := ⟨Go.Proofs.Tryz.f57, _, [0, 2], Go.Proofs.Tryz.func57, rfl, by kernel_rfl, by kernel_rfl, by decide, by kernel_rfl, by kernel_rfl⟩
theorem fd_mi : FOk Go.Proofs.Tryz.prog 21 0 (c_maxI NS mS.pT 56 57) [.var 0] := ⟨Go.Proofs.Tryz.f21, _, [0], Go.Proofs.Tryz.func21, rfl, by kernel_rfl, by kernel_rfl, by decide, by kernel_rfl, by kernel_rfl⟩
theorem fd_tellI : FOk Go.Proofs.Tryz.prog 23 2 (c_door NS mS.pT 56 60 61 62) [.cell 2 NS.zz, .var 3] := ⟨Go.Proofs.Tryz.f23, _, [0, 1, 4, 5, 6, 16], Go.Proofs.Tryz.func23, rfl, by kernel_rfl, by kernel_rfl, by decide, by kernel_rfl, by kernel_rfl⟩

def sc_sBrokerRegistrationRequestListener : List SC := [.mk [(0, 8), (2, -1), (3, -1), (4, -1)] none [], .mk [(0, 8), (2, -1), (3, -1), (4, -1)] none [], .mk [(0, 5), (2, -1), (3, -1), (4, -1)] none [], .mk [(0, 2), (2, -1), (3, -1), (4, -1)] none []]
theorem fsc_sBrokerRegistrationRequestListener : FOk Go.Proofs.Tryz.prog 58 0 (c_flds MS sc_sBrokerRegistrationRequestListener) [.var 0] := ⟨Go.Proofs.Tryz.f58, _, [0], Go.Proofs.Tryz.func58, rfl, by kernel_rfl, by kernel_rfl, by decide, by kernel_rfl, by kernel_rfl⟩
theorem mk_sBrokerRegistrationRequestListener : MkOk Go.Proofs.Tryz.prog 58 (SC.flds sc_sBrokerRegistrationRequestListener) := mk_flds (l := sc_sBrokerRegistrationRequestListener) spT (by kernel_rfl) ⟨rfl, ⟨rfl, ⟨rfl, ⟨rfl, trivial⟩⟩⟩⟩ fsc_sBrokerRegistrationRequestListener

def sc_sBrokerRegistrationRequestFeature : List SC := [.mk [(0, 8), (2, -1), (3, -1), (4, -1)] none [], .mk [(0, 2), (2, -1), (3, -1), (4, -1)] none [], .mk [(0, 2), (2, -1), (3, -1), (4, -1)] none []]
theorem fsc_sBrokerRegistrationRequestFeature : FOk Go.Proofs.Tryz.prog 59 0 (c_flds MS sc_sBrokerRegistrationRequestFeature) [.var 0] := ⟨Go.Proofs.Tryz.f59, _, [0], Go.Proofs.Tryz.func59, rfl, by kernel_rfl, by kernel_rfl, by decide, by kernel_rfl, by kernel_rfl⟩
theorem mk_sBrokerRegistrationRequestFeature : MkOk Go.Proofs.Tryz.prog 59 (SC.flds sc_sBrokerRegistrationRequestFeature) := mk_flds (l := sc_sBrokerRegistrationRequestFeature) spT (by kernel_rfl) ⟨rfl, ⟨rfl, ⟨rfl, trivial⟩⟩⟩ fsc_sBrokerRegistrationRequestFeature

def sc_BrokerRegistrationRequest : List SC := [.mk [(0, 3), (2, -1), (3, -1), (4, -1)] none [], .mk [(0, 8), (2, -1), (3, -1), (4, -1)] none [], .mk [(0, 7), (2, -1), (3, -1), (4, -1)] none [], .mk [(0, 11), (2, -1), (3, -1), (4, -1), (6, 10)] (some 58) sc_sBrokerRegistrationRequestListener, .mk [(0, 11), (2, -1), (3, -1), (4, -1), (6, 10)] (some 59) sc_sBrokerRegistrationRequestFeature, .mk [(0, 8), (2, -1), (3, 0), (4, -1)] none [], .mk [(0, 0), (1, 1), (2, -1), (3, -1), (4, -1)] none [], .mk [(0, 11), (1, 2), (2, -1), (3, -1), (4, -1), (6, 7)] none [], .mk [(0, 4), (1, 3), (2, -1), (3, -1), (4, -1), (5, -1)] none []]
theorem fsc_BrokerRegistrationRequest : FOk Go.Proofs.Tryz.prog 22 0 (c_msg MS sc_BrokerRegistrationRequest (0)) [.cell 0 MS.zam] := ⟨Go.Proofs.Tryz.f22, _, [0], Go.Proofs.Tryz.func22, rfl, by kernel_rfl, by kernel_rfl, by decide, by kernel_rfl, by kernel_rfl⟩
theorem lawT : LawTT Go.Proofs.Tryz.prog NS MS mS true dS 4 22 sc_BrokerRegistrationRequest (0) := ⟨door, fd_rf, fd_mv, fd_mi, fd_tellI, by decide, by decide, by decide, fsc_BrokerRegistrationRequest, by kernel_rfl, ⟨rfl, ⟨rfl, ⟨rfl, ⟨⟨mk_sBrokerRegistrationRequestListener, fsc_sBrokerRegistrationRequestListener.has⟩, ⟨⟨mk_sBrokerRegistrationRequestFeature, fsc_sBrokerRegistrationRequestFeature.has⟩, ⟨rfl, ⟨rfl, ⟨rfl, ⟨rfl, trivial⟩⟩⟩⟩⟩⟩⟩⟩⟩, by kernel_rfl, by kernel_rfl, by kernel_rfl⟩
theorem fd_law : FOk Go.Proofs.Tryz.prog 5 2 (c_lawT NS MS 38 dS.maxI dS.tellI 22) [.var 3] := ⟨Go.Proofs.Tryz.f5, _, [0, 1, 3, 4, 12, 5, 15, 6, 7, 8, 9], Go.Proofs.Tryz.func5, rfl, by kernel_rfl, by kernel_rfl, by decide, by kernel_rfl, by kernel_rfl⟩
end Go.Kf

namespace Go.Proofs.YtccgofjnacenhaaGreatDoor.fnTellBrokerRegistrationRequest
open Go.ChangeShapes Go.WideShapes Go.ChangeAt Go.RowKit Go.Kf

theorem reads (os : Os) {H : Type} (enc : TypeId × Value → H) : ∃ places, DataW.whole enc Go.Proofs.Tryz.prog ((World.doorLaid Go.Proofs.Tryz.prog 400 os).forCall (fun _ _ => 0) ⟨#[], #[.int .u8 0, .agg #[.int .i64 0, .slice none 0 0, .bool false, .slice none 0 0, .slice none 0 0]], []⟩).memory Go.Proofs.Tryz.f5.params.toList Rows.fnTellBrokerRegistrationRequestSpec.vars false #[Value.int .u8 0, .agg #[.int .i64 0, .slice none 0 0, .bool false, .slice none 0 0, .slice none 0 0]].toList 8 = some ([.lit (.int .u8 0), .agg [.lit (.int .i64 0), .nil, .lit (.bool false), .nil, .nil]], [], places) :=
  ⟨[], by kernel_rfl⟩
set_option maxHeartbeats 4000000 in
theorem lifted (os : Os) (started : os.Started) (H : Type) (enc : TypeId × Value → H) (F : Stop.Interp) :
    ReturnsInHanded {} Go.Proofs.Tryz.checked os 5 .any ((Rows.OpenSpec.upto Rows.fnTellBrokerRegistrationRequestSpec).preRow enc Go.Proofs.Tryz.prog Go.Proofs.Tryz.f5 Rows.fnTellBrokerRegistrationRequestUptoRow.domain false Rows.fnTellBrokerRegistrationRequestUptoRow.laid) (((Rows.OpenSpec.upto Rows.fnTellBrokerRegistrationRequestSpec).at F).post enc Go.Proofs.Tryz.prog Go.Proofs.Tryz.f5 false true false false) := by
  obtain ⟨places, hx⟩ := reads os enc
  refine returnsInHanded_of_row (C := Go.Proofs.Tryz.checked) (s := Rows.OpenSpec.upto Rows.fnTellBrokerRegistrationRequestSpec) own started (by kernel_rfl) Go.Proofs.Tryz.func5
    ⟨World.doorLaid Go.Proofs.Tryz.prog 400 os, fun _ _ => 0, ⟨#[], #[.int .u8 0, .agg #[.int .i64 0, .slice none 0 0, .bool false, .slice none 0 0, .slice none 0 0]], []⟩, rfl, shaped os _, rfl, (Input.okWide_of_okWideB (by kernel_rfl)).2,
      OpenSpec.preRow_of_cond 8 hx (by kernel_rfl) (fun k hk => by cases hk; kernel_rfl) (by kernel_rfl) (door_met os _), by
        simp only [Assume.holds]
        exact ⟨by simp, by simp, fun _ => Modest.zero, by simp, by simp⟩⟩ ?_
  intro W base args ds gs before hval0 hW _ hcond _ hL _ _
  have hval : ∀ (j : Nat) t v, Go.Proofs.Tryz.f5.params[j]? = some t → args[j]? = some v → Value.okWide Go.Proofs.Tryz.prog W .any base t v := hval0
  have hW' := hW
  obtain ⟨p, q, hA0, hV, rfl, hfz, hnd⟩ := hW
  have hA : DataW.TrodAll enc Go.Proofs.Tryz.prog W 0 (fun _ => true) true Go.Proofs.Tryz.f5.params.toList args.toList ds p := hA0
  rw [Go.Proofs.Tryz.params5] at hA hval
  obtain ⟨v0, vs0, d0, ds0, p0, q0, hargs, rfl, rfl, h0, r0⟩ := trodAll_cons hA
  obtain ⟨v1, vs1, d1, ds1, p1, q1, rfl, rfl, rfl, h1, r1⟩ := trodAll_cons r0
  obtain ⟨rfl, rfl, rfl⟩ := trodAll_nil r1
  obtain rfl : args = #[v0, v1] := by cases args; simp_all
  obtain ⟨rfl, rfl⟩ := trodVars_none hV
  obtain ⟨n0, rfl, rfl, rfl, w0⟩ := open_int Go.Proofs.Tryz.underlying5 (hval 0 5 v0 rfl rfl) h0
  obtain ⟨t, ct, rfl, ht, hwf, hsz⟩ := treeArg_of treeO baseS specT (bulkF H) (hval 1 26 v1 rfl rfl) h1
  have hc := hcond _ rfl
  have hsz2 : szT t ≤ 1048576 := by
    have hc2 : Rows.uptoBulkAll ([.lit (.int .u8 n0), d1] ++ []) ≤ 1048576 := of_decide_eq_true hc
    simp only [List.cons_append, List.nil_append, Rows.uptoBulkAll] at hc2
    omega
  have lt1 : ∀ x ∈ p1, x.block < W.heap.size := by obtain ⟨m, hm⟩ := h1; exact DataW.trod_lt m _ _ _ hm
  rw [MakeChecks.laidMetH_plain _ _ _ (by kernel_rfl)] at hL
  obtain ⟨a1, s1, hv1, _⟩ := laid_sentinel hL gO gT Go.Proofs.Tryz.underlying56 rowP Go.Proofs.Tryz.underlying247 Go.Proofs.Tryz.underlying265 rfl rfl Go.Proofs.Tryz.underlying9 cS cStr
  have hg : W.cell? ⟨1, 0, none⟩ = some (.iface 247 (.pointer (some a1))) := by simpa using World.var?_cell gO hv1 0
  have hn0 : 0 ≤ n0 ∧ n0 ≤ 255 := by
    simp [Lit.wf, IntKind.min, IntKind.max, IntKind.signed, IntKind.bits] at w0
    omega
  clear hA0 hval0
  refine Calls.mono (call_lawT baseS fnsS implT spT thSZ thSW thSTo (by decide) (by decide) (by decide) lawT fd_law (n := n0) hn0 ht hwf hsz2 hg) fun e W' ⟨v', he, hv', hm⟩ => ?_
  subst he hv'
  have bel := hm.below
  exact ⟨_, rfl, _, _, _, [], _, [], hW', trodAll_mk1 (shut_bool Go.Proofs.Tryz.underlying4 _), trodAll_cons_mk (shut_int Go.Proofs.Tryz.underlying5 w0) (trodAll_cons_mk (Below.trod laidOut (by kernel_rfl) (of_decide_eq_true (by kernel_rfl)) h1 bel lt1) trodAll_mk0), rfl, bel.frame _, fun h => by cases h⟩

set_option maxHeartbeats 4000000 in
theorem joined : joinedFacts Go.Proofs.Tryz.prog 5 Go.Proofs.Tryz.f5 (Rows.OpenSpec.upto Rows.fnTellBrokerRegistrationRequestSpec).bare Rows.fnTellBrokerRegistrationRequestUptoRow = true := by
  unfold joinedFacts
  exact bandT (bandT (bandT (bandT (bandT (bandT (bandT (bandT (bandT (bandT (bandT (bandT (bandT (bandT (bandT (bandT (bandT (bandT (bandT (bandT (bandT (bandT (bandT (bandT (bandT (bandT (bandT (bandT (bandT (bandT (bandT (by as_aux_lemma => kernel_rfl) laidOut) mapsRowedS) (by as_aux_lemma => kernel_rfl)) (by as_aux_lemma => kernel_rfl)) (by as_aux_lemma => kernel_rfl)) (by as_aux_lemma => kernel_rfl)) (by as_aux_lemma => kernel_rfl)) (by as_aux_lemma => kernel_rfl)) (by as_aux_lemma => kernel_rfl)) (by as_aux_lemma => kernel_rfl)) (by as_aux_lemma => kernel_rfl)) (by as_aux_lemma => kernel_rfl)) (by as_aux_lemma => kernel_rfl)) (by as_aux_lemma => kernel_rfl)) (by as_aux_lemma => kernel_rfl)) (by as_aux_lemma => kernel_rfl)) (by as_aux_lemma => kernel_rfl)) (by as_aux_lemma => kernel_rfl)) (by as_aux_lemma => kernel_rfl)) (by as_aux_lemma => kernel_rfl)) (by as_aux_lemma => kernel_rfl)) plainKeysS) (by as_aux_lemma => kernel_rfl)) stopsHeardS) bigEnter) bigLifts) bigMake) (by as_aux_lemma => kernel_rfl)) (by as_aux_lemma => kernel_rfl)) (by as_aux_lemma => kernel_rfl)) (by as_aux_lemma => kernel_rfl)
theorem named : Go.Proofs.Tryz.prog.funcNamed Rows.fnTellBrokerRegistrationRequestUptoRow.func = some 5 := by kernel_rfl
theorem isInst : Go.Proofs.Tryz.f5.isInstance Go.Proofs.Tryz.prog Rows.fnTellBrokerRegistrationRequestUptoRow.origin Rows.fnTellBrokerRegistrationRequestUptoRow.targs := of_decide_eq_true (by kernel_rfl)
theorem isWrap : Go.Proofs.Tryz.f5.isWrapper Go.Proofs.Tryz.prog Rows.fnTellBrokerRegistrationRequestUptoRow.wrapper Rows.fnTellBrokerRegistrationRequestUptoRow.mainSum := by unfold Func.isWrapper; first | (rw [if_pos (by decide +kernel)]; kernel_rfl) | (rw [if_neg (by decide +kernel)]; exact ⟨rfl, rfl⟩)
theorem row : Rows.FnTellBrokerRegistrationRequestUptoSaid :=
  OpenClaim.holds_of_cond 5 Go.Proofs.Tryz.f5 rfl rfl rfl rfl rfl rfl rfl ⟨rfl, rfl, rfl, rfl, rfl⟩ rfl rfl rfl rfl rfl named Go.Proofs.Tryz.func5 joined
    isInst isWrap
    (fun os started H enc _ F => by rw [OpenClaim.pre_eq_preRow]; exact lifted os started H enc F)
end Go.Proofs.YtccgofjnacenhaaGreatDoor.fnTellBrokerRegistrationRequest

namespace Go.Proofs.YtccgofjnacenhaaGreatDoor
open Go.Kf
set_option maxHeartbeats 4000000 in
theorem fnTellBrokerRegistrationRequest_card : Rows.FnTellBrokerRegistrationRequestUptoCardSaid :=
  Claim7.holds_tied_plain_at .later [] [.sentinel] true Rows.fnTellBrokerRegistrationRequestUptoCard.stood.harness false
    fnTellBrokerRegistrationRequest.row (fun _ h => by cases h) (by as_aux_lemma => kernel_rfl) (fun _ h => by cases h) fnTellBrokerRegistrationRequestUpto_row_tie rfl ⟨rfl, rfl⟩ mainS rfl
    (fun f fn hf hfn => by
      obtain rfl : f = 5 := Option.some.inj (fnTellBrokerRegistrationRequest.named.symm.trans hf) |>.symm
      obtain rfl : fn = Go.Proofs.Tryz.f5 := (Option.some.inj (Go.Proofs.Tryz.func5.symm.trans hfn)).symm
      refine ⟨looksS, fun j t ht => ?_⟩
      rw [Go.Proofs.Tryz.params5] at ht
      rcases j with _ | _ | j
      · obtain rfl : 5 = t := by simpa using ht
        exact (show Go.Proofs.Tryz.prog.wantsStandIn 5 = false by kernel_rfl)
      · obtain rfl : 26 = t := by simpa using ht
        exact (show Go.Proofs.Tryz.prog.wantsStandIn 26 = false by kernel_rfl)
      · simp at ht)
    (by as_aux_lemma => kernel_rfl)
#print axioms fnTellBrokerRegistrationRequest_card
end Go.Proofs.YtccgofjnacenhaaGreatDoor
