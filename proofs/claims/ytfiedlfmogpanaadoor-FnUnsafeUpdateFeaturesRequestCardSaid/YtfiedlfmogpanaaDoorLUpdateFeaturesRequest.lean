/- The two readers of this message tell the same tree of the same octets: the tied card of laws.FnUnsafeUpdateFeaturesRequest is proved, at every version number and every row of octets; no condition. -/
import Derived.Test.YtfiedlfmogpanaaDoorKs
set_option linter.unusedSimpArgs false
set_option linter.unusedVariables false
set_option maxRecDepth 100000
namespace Go.Kf
open Go

def tf : TypeId → FuncId × FuncId := fun | 134 => (139, 188) | _ => (0, 0)

def rUpdateFeaturesRequestFeatureUpdate : Fds := .cons .all (.txt .str) (.cons .all (.pr .i16 none) (.cons (.btw 0 0) (.pr .bool none) (.cons (.ge 1) (.pr .i8 none) (.tags))))
theorem df_UpdateFeaturesRequestFeatureUpdate : FOk Go.Proofs.Tryd.prog 185 1 (seqs (rUpdateFeaturesRequestFeatureUpdate.dfl NS 134 0)) [] := ⟨Go.Proofs.Tryd.f185, _, [0], Go.Proofs.Tryd.func185, rfl, by kernel_rfl, by kernel_rfl, by decide, by kernel_rfl, by kernel_rfl⟩
theorem ft_UpdateFeaturesRequestFeatureUpdate : FOk Go.Proofs.Tryd.prog 139 1 (tellC NS tf 134 0 188 rUpdateFeaturesRequestFeatureUpdate) [.cell 1 NS.t_Tree] := ⟨Go.Proofs.Tryd.f139, _, [0, 2, 3], Go.Proofs.Tryd.func139, rfl, by kernel_rfl, by kernel_rfl, by decide, by kernel_rfl, by kernel_rfl⟩
theorem fc_UpdateFeaturesRequestFeatureUpdate : FOk Go.Proofs.Tryd.prog 188 3 (cTagFn NS) [] := ⟨Go.Proofs.Tryd.f188, _, [0, 1, 2], Go.Proofs.Tryd.func188, rfl, by kernel_rfl, by kernel_rfl, by decide, by kernel_rfl, by kernel_rfl⟩
theorem tl_UpdateFeaturesRequestFeatureUpdate : TellP Go.Proofs.Tryd.prog 139 0 rUpdateFeaturesRequestFeatureUpdate := tellP baseS fnsS implT tellN (tf := tf) (Tt := 134) (idx0 := 0) ft_UpdateFeaturesRequestFeatureUpdate (fun _ => fc_UpdateFeaturesRequestFeatureUpdate) ⟨trivial, ⟨trivial, ⟨(show NS.f_boolTree ≠ 0 by decide), ⟨trivial, trivial⟩⟩⟩⟩ (Fds.ok_of (fx := true) (Tt := 134) (idx := 0) (off := 0) baseS fnsS rUpdateFeaturesRequestFeatureUpdate (by kernel_rfl) ⟨trivial, ⟨trivial, ⟨trivial, ⟨trivial, trivial⟩⟩⟩⟩).2.1 (by decide)

/-- The message's schema. -/
def mS : Msg := ⟨129, 87, 137, 0, false, .cons .all (.pr .i32 (some (.int .i32 (60000)))) (.cons .all (.arr 127 none (.row 134 131 185 (.cons .all (.txt .str) (.cons .all (.pr .i16 none) (.cons (.btw 0 0) (.pr .bool none) (.cons (.ge 1) (.pr .i8 none) (.tags))))))) (.cons (.ge 1) (.pr .bool none) (.tags)))⟩
def dS : DoorN where
  newP := 91
  setV := 93
  maxV := 92
  readF := 94
  unsF := 96
  readf := 138
  tell := 95
  maxI := 38
  tellI := 39
  unsI := 40
theorem rd_m : FOk Go.Proofs.Tryd.prog 138 3 (mS.gen NS true) [.var 3] := ⟨Go.Proofs.Tryd.f138, _, [0, 1, 2, 6, 7, 8, 9, 10, 11, 12, 13, 14, 46, 50, 55, 15, 61, 16, 17, 18, 70, 71, 74, 19, 91, 20, 98, 21, 104, 115, 22, 121], Go.Proofs.Tryd.func138, rfl, by kernel_rfl, by kernel_rfl, by decide, by kernel_rfl, by kernel_rfl⟩
theorem df_m : FOk Go.Proofs.Tryd.prog 137 1 (seqs (mS.fs.dfl NS mS.tT 1)) [] := ⟨Go.Proofs.Tryd.f137, _, [0], Go.Proofs.Tryd.func137, rfl, by kernel_rfl, by kernel_rfl, by decide, by kernel_rfl, by kernel_rfl⟩
theorem mt : MsgT Go.Proofs.Tryd.prog NS mS true := msgT_of baseS fnsS (by kernel_rfl) (by kernel_rfl) (by kernel_rfl) ⟨trivial, ⟨⟨df_UpdateFeaturesRequestFeatureUpdate, ⟨trivial, ⟨trivial, ⟨trivial, ⟨trivial, trivial⟩⟩⟩⟩⟩, ⟨trivial, trivial⟩⟩⟩ df_m
theorem ft_UpdateFeaturesRequest : FOk Go.Proofs.Tryd.prog 95 1 (tellC NS tf 129 1 141 mS.fs) [.cell 1 NS.t_Tree] := ⟨Go.Proofs.Tryd.f95, _, [0, 2, 3, 29, 30, 31, 4, 34, 46, 47, 49], Go.Proofs.Tryd.func95, rfl, by kernel_rfl, by kernel_rfl, by decide, by kernel_rfl, by kernel_rfl⟩
theorem fc_UpdateFeaturesRequest : FOk Go.Proofs.Tryd.prog 141 3 (cTagFn NS) [] := ⟨Go.Proofs.Tryd.f141, _, [0, 1, 2], Go.Proofs.Tryd.func141, rfl, by kernel_rfl, by kernel_rfl, by decide, by kernel_rfl, by kernel_rfl⟩
theorem tl_UpdateFeaturesRequest : TellP Go.Proofs.Tryd.prog 95 1 mS.fs := tellP baseS fnsS implT tellN (tf := tf) (Tt := 129) (idx0 := 1) ft_UpdateFeaturesRequest (fun _ => fc_UpdateFeaturesRequest) ⟨trivial, ⟨⟨tiB_ok (by kernel_rfl), el_ti (fx := true) baseS fnsS _ (by kernel_rfl) ⟨df_UpdateFeaturesRequestFeatureUpdate, ⟨trivial, ⟨trivial, ⟨trivial, ⟨trivial, trivial⟩⟩⟩⟩⟩, tl_UpdateFeaturesRequestFeatureUpdate⟩, ⟨(show NS.f_boolTree ≠ 0 by decide), trivial⟩⟩⟩ mt.hf (by decide)
theorem fd_new : FOk Go.Proofs.Tryd.prog 91 0 (c_new NS mS.tT mS.dflt) [.var 0] := ⟨Go.Proofs.Tryd.f91, _, [0, 1], Go.Proofs.Tryd.func91, rfl, by kernel_rfl, by kernel_rfl, by decide, by kernel_rfl, by kernel_rfl⟩
theorem fd_set : FOk Go.Proofs.Tryd.prog 93 2 (c_set NS mS.tT) [] := ⟨Go.Proofs.Tryd.f93, _, [0, 1], Go.Proofs.Tryd.func93, rfl, by kernel_rfl, by kernel_rfl, by decide, by kernel_rfl, by kernel_rfl⟩
theorem door : DoorT Go.Proofs.Tryd.prog NS mS true dS where
  msg := mt
  vin := rfl
  ti := (tsB_ok (by' := bytesOf Go.Proofs.Tryd.prog 129) (by kernel_rfl)).imp fun _ h => ⟨_, h⟩
  newP := fd_new
  setV := fd_set
  readf := rd_m
  tell := tl_UpdateFeaturesRequest
  dok := ⟨⟨_, rfl, by decide⟩, ⟨⟨⟨_, rfl, by decide⟩, ⟨⟨_, rfl⟩, ⟨⟨_, rfl, by decide⟩, trivial⟩⟩⟩, ⟨⟨_, rfl⟩, trivial⟩⟩⟩
  shB := by kernel_rfl
  cnt := by decide
theorem fd_rf : FOk Go.Proofs.Tryd.prog 94 2 (c_rf NS mS.pT 138 false) [.var 2] := ⟨Go.Proofs.Tryd.f94, _, [0, 1, 4], Go.Proofs.Tryd.func94, rfl, by kernel_rfl, by kernel_rfl, by decide, by kernel_rfl, by kernel_rfl⟩
theorem fd_uf : FOk Go.Proofs.Tryd.prog 96 2 (c_rf NS mS.pT 138 true) [.var 2] := ⟨Go.Proofs.Tryd.f96, _, [0, 1, 4], Go.Proofs.Tryd.func96, rfl, by kernel_rfl, by kernel_rfl, by decide, by kernel_rfl, by kernel_rfl⟩
theorem fd_mv : FOk Go.Proofs.Tryd.prog 92 1 (c_max 2) [.var 1] := ⟨Go.Proofs.Tryd.f92, _, [0, 2], Go.Proofs.Tryd.func92, rfl, by kernel_rfl, by kernel_rfl, by decide, by kernel_rfl, by kernel_rfl⟩
theorem fd_mi : FOk Go.Proofs.Tryd.prog 38 0 (c_maxI NS mS.pT 91 92) [.var 0] := ⟨Go.Proofs.Tryd.f38, _, [0], Go.Proofs.Tryd.func38, rfl, by kernel_rfl, by kernel_rfl, by decide, by kernel_rfl, by kernel_rfl⟩
theorem fd_tellI : FOk Go.Proofs.Tryd.prog 39 2 (c_door NS mS.pT 91 93 94 95) [.cell 2 NS.t_Tree, .var 3] := ⟨Go.Proofs.Tryd.f39, _, [0, 1, 4, 5, 6, 16], Go.Proofs.Tryd.func39, rfl, by kernel_rfl, by kernel_rfl, by decide, by kernel_rfl, by kernel_rfl⟩
theorem fd_unsI : FOk Go.Proofs.Tryd.prog 40 2 (c_door NS mS.pT 91 93 96 95) [.cell 2 NS.t_Tree, .var 3] := ⟨Go.Proofs.Tryd.f40, _, [0, 1, 4, 5, 6, 16], Go.Proofs.Tryd.func40, rfl, by kernel_rfl, by kernel_rfl, by decide, by kernel_rfl, by kernel_rfl⟩
theorem lawT : LawT Go.Proofs.Tryd.prog NS mS true dS 2 := ⟨door, fd_rf, fd_uf, fd_mv, fd_mi, fd_tellI, fd_unsI, by decide, by decide⟩
theorem fd_law : FOk Go.Proofs.Tryd.prog 10 2 (c_lawU NS 28 dS.maxI dS.tellI dS.unsI 1000) [.var 2] := ⟨Go.Proofs.Tryd.f10, _, [0, 1, 4, 12, 5, 15, 18, 6, 7, 8, 9], Go.Proofs.Tryd.func10, rfl, by kernel_rfl, by kernel_rfl, by decide, by kernel_rfl, by kernel_rfl⟩
end Go.Kf

namespace Go.Proofs.YtfiedlfmogpanaaDoor.fnUnsafeUpdateFeaturesRequest
open Go.ChangeShapes Go.WideShapes Go.ChangeAt Go.RowKit Go.Kf

theorem lifted (os : Os) (started : os.Started) (H : Type) (enc : TypeId × Value → H) :
    ReturnsInHanded {} Go.Proofs.Tryd.checked os 10 .any (fun w args => (Rows.fnUnsafeUpdateFeaturesRequestSpec.pre enc Go.Proofs.Tryd.prog Go.Proofs.Tryd.f10 [] false w args ∧ laidMetH Go.Proofs.Tryd.prog Rows.fnUnsafeUpdateFeaturesRequestRow.laid w) ∧ sizedMet enc Go.Proofs.Tryd.prog Go.Proofs.Tryd.f10 (OpenSpec.ofChange Rows.fnUnsafeUpdateFeaturesRequestSpec) false w args)
      (Rows.fnUnsafeUpdateFeaturesRequestSpec.post enc Go.Proofs.Tryd.prog Go.Proofs.Tryd.f10 false true false false) := by
  refine returnsInHanded_of_change_and (C := Go.Proofs.Tryd.checked) (X := fun w _ => laidMetH Go.Proofs.Tryd.prog Rows.fnUnsafeUpdateFeaturesRequestRow.laid w) (fun _ _ _ hh h => h.of_heap hh) own started (by kernel_rfl) Go.Proofs.Tryd.func10
    (ChangeSpec.witness_shaped (enc := enc) (C := Go.Proofs.Tryd.checked) (os := os) (X := fun w _ => laidMetH Go.Proofs.Tryd.prog Rows.fnUnsafeUpdateFeaturesRequestRow.laid w) false (World.doorLaid Go.Proofs.Tryd.prog 400 os) #[.int .u8 0, .slice none 0 0] 8 rfl (shaped os _) (by kernel_rfl) (by kernel_rfl) (by kernel_rfl) (door_met os _)) ?_
  intro W base args ds gs before hval0 hW _ _ hL _
  have hval : ∀ (j : Nat) t v, Go.Proofs.Tryd.f10.params[j]? = some t → args[j]? = some v → Value.okWide Go.Proofs.Tryd.prog W .any base t v := hval0
  have hW' := hW
  obtain ⟨p, q, hA0, hV, rfl, hfz, hnd⟩ := hW
  have hA : DataW.TrodAll enc Go.Proofs.Tryd.prog W 0 (fun _ => true) true Go.Proofs.Tryd.f10.params.toList args.toList ds p := hA0
  rw [Go.Proofs.Tryd.params10] at hA hval
  obtain ⟨v0, vs0, d0, ds0, p0, q0, hargs, rfl, rfl, h0, r0⟩ := trodAll_cons hA
  obtain ⟨v1, vs1, d1, ds1, p1, q1, rfl, rfl, rfl, h1, r1⟩ := trodAll_cons r0
  obtain ⟨rfl, rfl, rfl⟩ := trodAll_nil r1
  obtain rfl : args = #[v0, v1] := by cases args; simp_all
  obtain ⟨rfl, rfl⟩ := trodVars_none hV
  obtain ⟨n0, rfl, rfl, rfl, w0⟩ := open_int Go.Proofs.Tryd.underlying5 (hval 0 5 v0 rfl rfl) h0
  obtain ⟨l, ha⟩ := argOct_of Go.Proofs.Tryd.underlying22 Go.Proofs.Tryd.underlying5 (by kernel_rfl) (hval 1 22 v1 rfl rfl) h1
  have lt1 : ∀ x ∈ p1, x.block < W.heap.size := by obtain ⟨m, hm⟩ := h1; exact DataW.trod_lt m _ _ _ hm
  rw [MakeChecks.laidMetH_plain _ _ _ (by kernel_rfl)] at hL
  obtain ⟨a1, s1, hv1, _⟩ := laid_sentinel hL gO gT Go.Proofs.Tryd.underlying51 rowP Go.Proofs.Tryd.underlying236 Go.Proofs.Tryd.underlying254 rfl rfl Go.Proofs.Tryd.underlying9 cS cStr
  have hg : W.cell? ⟨1, 0, none⟩ = some (.iface 236 (.pointer (some a1))) := by simpa using World.var?_cell gO hv1 0
  clear hA0 hval0
  refine Calls.mono (call_lawU baseS fnsS implT specT (by decide) (by decide) (by decide) lawT fd_law (n := n0) ha hg) fun e W' ⟨v', he, hv', hm⟩ => ?_
  subst he hv'
  have bel := hm.below
  exact ⟨_, rfl, _, _, _, [], _, [], hW', trodAll_mk1 (shut_bool Go.Proofs.Tryd.underlying4 _), trodAll_cons_mk (shut_int Go.Proofs.Tryd.underlying5 w0) (trodAll_cons_mk (Below.trod laidOut (by kernel_rfl) (of_decide_eq_true (by kernel_rfl)) h1 bel lt1) trodAll_mk0), rfl, bel.frame _, fun h => by cases h⟩

theorem joined : joinedFacts Go.Proofs.Tryd.prog 10 Go.Proofs.Tryd.f10 Rows.fnUnsafeUpdateFeaturesRequestSpec Rows.fnUnsafeUpdateFeaturesRequestRow = true := by
  unfold joinedFacts
  exact bandT (bandT (bandT (bandT (bandT (bandT (bandT (bandT (bandT (bandT (bandT (bandT (bandT (bandT (bandT (bandT (bandT (bandT (bandT (bandT (bandT (bandT (bandT (bandT (bandT (bandT (bandT (bandT (bandT (bandT (bandT (by as_aux_lemma => kernel_rfl) laidOut) mapsRowedS) (by as_aux_lemma => kernel_rfl)) (by as_aux_lemma => kernel_rfl)) (by as_aux_lemma => kernel_rfl)) (by as_aux_lemma => kernel_rfl)) (by as_aux_lemma => kernel_rfl)) (by as_aux_lemma => kernel_rfl)) (by as_aux_lemma => kernel_rfl)) (by as_aux_lemma => kernel_rfl)) (by as_aux_lemma => kernel_rfl)) (by as_aux_lemma => kernel_rfl)) (by as_aux_lemma => kernel_rfl)) (by as_aux_lemma => kernel_rfl)) (by as_aux_lemma => kernel_rfl)) (by as_aux_lemma => kernel_rfl)) (by as_aux_lemma => kernel_rfl)) (by as_aux_lemma => kernel_rfl)) (by as_aux_lemma => kernel_rfl)) (by as_aux_lemma => kernel_rfl)) (by as_aux_lemma => kernel_rfl)) plainKeysS) (by as_aux_lemma => kernel_rfl)) stopsHeardS) bigEnter) bigLifts) bigMake) (by as_aux_lemma => kernel_rfl)) (by as_aux_lemma => kernel_rfl)) (by as_aux_lemma => kernel_rfl)) (by as_aux_lemma => kernel_rfl)
theorem named : Go.Proofs.Tryd.prog.funcNamed Rows.fnUnsafeUpdateFeaturesRequestRow.func = some 10 := by kernel_rfl
theorem isInst : Go.Proofs.Tryd.f10.isInstance Go.Proofs.Tryd.prog Rows.fnUnsafeUpdateFeaturesRequestRow.origin Rows.fnUnsafeUpdateFeaturesRequestRow.targs := of_decide_eq_true (by kernel_rfl)
theorem isWrap : Go.Proofs.Tryd.f10.isWrapper Go.Proofs.Tryd.prog Rows.fnUnsafeUpdateFeaturesRequestRow.wrapper Rows.fnUnsafeUpdateFeaturesRequestRow.mainSum := by unfold Func.isWrapper; first | (rw [if_pos (by decide +kernel)]; kernel_rfl) | (rw [if_neg (by decide +kernel)]; exact ⟨rfl, rfl⟩)
theorem row : Rows.FnUnsafeUpdateFeaturesRequestSaid :=
  OpenClaim.holds_of_wide 10 Go.Proofs.Tryd.f10 rfl rfl rfl rfl rfl rfl rfl ⟨rfl, rfl, rfl, rfl, rfl⟩ rfl rfl rfl rfl rfl named Go.Proofs.Tryd.func10 joined
    isInst isWrap
    (fun os started H enc _ => lifted os started H enc)
end Go.Proofs.YtfiedlfmogpanaaDoor.fnUnsafeUpdateFeaturesRequest

namespace Go.Proofs.YtfiedlfmogpanaaDoor
open Go.Kf
/-- The card. -/
theorem fnUnsafeUpdateFeaturesRequest_card : Rows.FnUnsafeUpdateFeaturesRequestCardSaid :=
  Claim7.holds_tied_plain_at .later [] [.sentinel] true Rows.fnUnsafeUpdateFeaturesRequestCard.stood.harness false
    fnUnsafeUpdateFeaturesRequest.row (fun _ h => by cases h) (by as_aux_lemma => kernel_rfl) (fun _ h => by cases h) fnUnsafeUpdateFeaturesRequest_row_tie rfl ⟨rfl, rfl⟩ mainS rfl
    (fun f fn hf hfn => by
      obtain rfl : f = 10 := Option.some.inj (fnUnsafeUpdateFeaturesRequest.named.symm.trans hf) |>.symm
      obtain rfl : fn = Go.Proofs.Tryd.f10 := (Option.some.inj (Go.Proofs.Tryd.func10.symm.trans hfn)).symm
      refine ⟨looksS, fun j t ht => ?_⟩
      rw [Go.Proofs.Tryd.params10] at ht
      rcases j with _ | _ | j
      · obtain rfl : 5 = t := by simpa using ht
        exact (show Go.Proofs.Tryd.prog.wantsStandIn 5 = false by kernel_rfl)
      · obtain rfl : 22 = t := by simpa using ht
        exact (show Go.Proofs.Tryd.prog.wantsStandIn 22 = false by kernel_rfl)
      · simp at ht)
    (by as_aux_lemma => kernel_rfl)
#print axioms fnUnsafeUpdateFeaturesRequest_card
end Go.Proofs.YtfiedlfmogpanaaDoor
