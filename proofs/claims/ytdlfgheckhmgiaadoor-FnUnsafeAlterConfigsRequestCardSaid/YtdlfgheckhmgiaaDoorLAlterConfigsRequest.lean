/- Both ways of reading tell the same of any octets as a AlterConfigsRequest (laws.FnUnsafeAlterConfigsRequest): the tied card is proved, at every version number and all octets; no other condition. -/
import Derived.Test.YtdlfgheckhmgiaaDoorKs
set_option linter.unusedSimpArgs false
set_option linter.unusedVariables false
set_option maxRecDepth 100000
namespace Go.Kf
open Go

def tf : TypeId → FuncId × FuncId := fun | 243 => (222, 247) | 194 => (160, 223) | _ => (0, 0)

def rAlterConfigsRequestResourceConfig : Fds := .cons .all (.txt .str) (.cons .all (.txt .nstr) (.tags))
theorem df_AlterConfigsRequestResourceConfig : FOk Go.Proofs.Tryd.prog 221 1 (seqs (rAlterConfigsRequestResourceConfig.dfl NS 243 0)) [] := ⟨Go.Proofs.Tryd.f221, _, [0], Go.Proofs.Tryd.func221, rfl, by kernel_rfl, by kernel_rfl, by decide, by kernel_rfl, by kernel_rfl⟩
theorem ft_AlterConfigsRequestResourceConfig : FOk Go.Proofs.Tryd.prog 222 1 (tellC NS tf 243 0 247 rAlterConfigsRequestResourceConfig) [.cell 1 NS.zj] := ⟨Go.Proofs.Tryd.f222, _, [0, 2, 3], Go.Proofs.Tryd.func222, rfl, by kernel_rfl, by kernel_rfl, by decide, by kernel_rfl, by kernel_rfl⟩
theorem fc_AlterConfigsRequestResourceConfig : FOk Go.Proofs.Tryd.prog 247 3 (cTagFn NS) [] := ⟨Go.Proofs.Tryd.f247, _, [0, 1, 2], Go.Proofs.Tryd.func247, rfl, by kernel_rfl, by kernel_rfl, by decide, by kernel_rfl, by kernel_rfl⟩
theorem tl_AlterConfigsRequestResourceConfig : TellP Go.Proofs.Tryd.prog 222 0 rAlterConfigsRequestResourceConfig := tellP baseS fnsS implT tellN (tf := tf) (Tt := 243) (idx0 := 0) ft_AlterConfigsRequestResourceConfig (fun _ => fc_AlterConfigsRequestResourceConfig) ⟨trivial, ⟨⟨by decide, by decide⟩, trivial⟩⟩ (Fds.ok_of (fx := true) (Tt := 243) (idx := 0) (off := 0) baseS fnsS rAlterConfigsRequestResourceConfig (by kernel_rfl) ⟨trivial, ⟨trivial, trivial⟩⟩).2.1 (by decide)

def rAlterConfigsRequestResource : Fds := .cons .all (.pr (.en 142) none) (.cons .all (.txt .str) (.cons .all (.arr 192 none (.row 243 241 221 (.cons .all (.txt .str) (.cons .all (.txt .nstr) (.tags))))) (.tags)))
theorem df_AlterConfigsRequestResource : FOk Go.Proofs.Tryd.prog 220 1 (seqs (rAlterConfigsRequestResource.dfl NS 194 0)) [] := ⟨Go.Proofs.Tryd.f220, _, [0], Go.Proofs.Tryd.func220, rfl, by kernel_rfl, by kernel_rfl, by decide, by kernel_rfl, by kernel_rfl⟩
theorem ft_AlterConfigsRequestResource : FOk Go.Proofs.Tryd.prog 160 1 (tellC NS tf 194 0 223 rAlterConfigsRequestResource) [.cell 1 NS.zj] := ⟨Go.Proofs.Tryd.f160, _, [0, 2, 3, 38, 39, 40, 4, 43, 55, 56, 58], Go.Proofs.Tryd.func160, rfl, by kernel_rfl, by kernel_rfl, by decide, by kernel_rfl, by kernel_rfl⟩
theorem fc_AlterConfigsRequestResource : FOk Go.Proofs.Tryd.prog 223 3 (cTagFn NS) [] := ⟨Go.Proofs.Tryd.f223, _, [0, 1, 2], Go.Proofs.Tryd.func223, rfl, by kernel_rfl, by kernel_rfl, by decide, by kernel_rfl, by kernel_rfl⟩
theorem tl_AlterConfigsRequestResource : TellP Go.Proofs.Tryd.prog 160 0 rAlterConfigsRequestResource := tellP baseS fnsS implT tellN (tf := tf) (Tt := 194) (idx0 := 0) ft_AlterConfigsRequestResource (fun _ => fc_AlterConfigsRequestResource) ⟨zfx (by kernel_rfl), ⟨trivial, ⟨⟨zfx (by kernel_rfl), el_ti (fx := true) baseS fnsS _ (by kernel_rfl) ⟨df_AlterConfigsRequestResourceConfig, ⟨trivial, ⟨trivial, trivial⟩⟩⟩, tl_AlterConfigsRequestResourceConfig⟩, trivial⟩⟩⟩ (Fds.ok_of (fx := true) (Tt := 194) (idx := 0) (off := 0) baseS fnsS rAlterConfigsRequestResource (by kernel_rfl) ⟨trivial, ⟨trivial, ⟨⟨df_AlterConfigsRequestResourceConfig, ⟨trivial, ⟨trivial, trivial⟩⟩⟩, trivial⟩⟩⟩).2.1 (by decide)

def mS : Msg := ⟨189, 102, 158, 2, false, .cons .all (.arr 187 none (.row 194 191 220 (.cons .all (.pr (.en 142) none) (.cons .all (.txt .str) (.cons .all (.arr 192 none (.row 243 241 221 (.cons .all (.txt .str) (.cons .all (.txt .nstr) (.tags))))) (.tags)))))) (.cons .all (.pr .bool none) (.tags))⟩
def dS : zpe where
  newP := 100
  setV := 102
  maxV := 101
  readF := 103
  unsF := 105
  readf := 159
  tell := 104
  maxI := 40
  tellI := 41
  unsI := 42
theorem rd_m : FOk Go.Proofs.Tryd.prog 159 3 (mS.gen NS true) [.var 3] := ⟨Go.Proofs.Tryd.f159, _, [0, 1, 2, 6, 7, 8, 9, 10, 11, 12, 13, 48, 52, 57, 14, 63, 15, 16, 17, 18, 19, 20, 79, 80, 83, 21, 22, 23, 95, 99, 104, 24, 110, 25, 26, 27, 119, 120, 123, 28, 130, 131, 134, 141, 151, 29, 166], Go.Proofs.Tryd.func159, rfl, by kernel_rfl, by kernel_rfl, by decide, by kernel_rfl, by kernel_rfl⟩
theorem df_m : FOk Go.Proofs.Tryd.prog 158 1 (seqs (mS.fs.dfl NS mS.tT 1)) [] := ⟨Go.Proofs.Tryd.f158, _, [0], Go.Proofs.Tryd.func158, rfl, by kernel_rfl, by kernel_rfl, by decide, by kernel_rfl, by kernel_rfl⟩
theorem mt : MsgT Go.Proofs.Tryd.prog NS mS true := msgT_of baseS fnsS (by kernel_rfl) (by kernel_rfl) (by kernel_rfl) ⟨⟨df_AlterConfigsRequestResource, ⟨trivial, ⟨trivial, ⟨⟨df_AlterConfigsRequestResourceConfig, ⟨trivial, ⟨trivial, trivial⟩⟩⟩, trivial⟩⟩⟩⟩, ⟨trivial, trivial⟩⟩ df_m
theorem ft_AlterConfigsRequest : FOk Go.Proofs.Tryd.prog 104 1 (tellC NS tf 189 1 161 mS.fs) [.cell 1 NS.zj] := ⟨Go.Proofs.Tryd.f104, _, [0, 2, 3, 20, 21, 22, 4, 25, 37, 38, 40], Go.Proofs.Tryd.func104, rfl, by kernel_rfl, by kernel_rfl, by decide, by kernel_rfl, by kernel_rfl⟩
theorem fc_AlterConfigsRequest : FOk Go.Proofs.Tryd.prog 161 3 (cTagFn NS) [] := ⟨Go.Proofs.Tryd.f161, _, [0, 1, 2], Go.Proofs.Tryd.func161, rfl, by kernel_rfl, by kernel_rfl, by decide, by kernel_rfl, by kernel_rfl⟩
theorem tl_AlterConfigsRequest : TellP Go.Proofs.Tryd.prog 104 1 mS.fs := tellP baseS fnsS implT tellN (tf := tf) (Tt := 189) (idx0 := 1) ft_AlterConfigsRequest (fun _ => fc_AlterConfigsRequest) ⟨⟨zfx (by kernel_rfl), el_ti (fx := true) baseS fnsS _ (by kernel_rfl) ⟨df_AlterConfigsRequestResource, ⟨trivial, ⟨trivial, ⟨⟨df_AlterConfigsRequestResourceConfig, ⟨trivial, ⟨trivial, trivial⟩⟩⟩, trivial⟩⟩⟩⟩, tl_AlterConfigsRequestResource⟩, ⟨(show NS.zfr ≠ 0 by decide), trivial⟩⟩ mt.hf (by decide)
theorem fd_new : FOk Go.Proofs.Tryd.prog 100 0 (c_new NS mS.tT mS.dflt) [.var 0] := ⟨Go.Proofs.Tryd.f100, _, [0, 1], Go.Proofs.Tryd.func100, rfl, by kernel_rfl, by kernel_rfl, by decide, by kernel_rfl, by kernel_rfl⟩
theorem fd_set : FOk Go.Proofs.Tryd.prog 102 2 (c_set NS mS.tT) [] := ⟨Go.Proofs.Tryd.f102, _, [0, 1], Go.Proofs.Tryd.func102, rfl, by kernel_rfl, by kernel_rfl, by decide, by kernel_rfl, by kernel_rfl⟩
theorem door : zrx Go.Proofs.Tryd.prog NS mS true dS where
  msg := mt
  vin := rfl
  ti := (tsB_ok (by' := bytesOf Go.Proofs.Tryd.prog 189) (by kernel_rfl)).imp fun _ h => ⟨_, h⟩
  newP := fd_new
  setV := fd_set
  readf := rd_m
  tell := fun _ => tl_AlterConfigsRequest
  dok := ⟨⟨⟨_, rfl, by decide⟩, ⟨trivial, trivial⟩⟩, ⟨⟨_, rfl⟩, trivial⟩⟩
  shB := by kernel_rfl
  cnt := by decide
theorem fd_rf : FOk Go.Proofs.Tryd.prog 103 2 (c_rf NS mS.pT 159 false) [.var 2] := ⟨Go.Proofs.Tryd.f103, _, [0, 1, 4], Go.Proofs.Tryd.func103, rfl, by kernel_rfl, by kernel_rfl, by decide, by kernel_rfl, by kernel_rfl⟩
theorem fd_uf : FOk Go.Proofs.Tryd.prog 105 2 (c_rf NS mS.pT 159 true) [.var 2] := ⟨Go.Proofs.Tryd.f105, _, [0, 1, 4], Go.Proofs.Tryd.func105, rfl, by kernel_rfl, by kernel_rfl, by decide, by kernel_rfl, by kernel_rfl⟩
theorem fd_mv : FOk Go.Proofs.Tryd.prog 101 1 (c_max 2) [.var 1] := ⟨Go.Proofs.Tryd.f101, _, [0, 2], Go.Proofs.Tryd.func101, rfl, by kernel_rfl, by kernel_rfl, by decide, by kernel_rfl, by kernel_rfl⟩
theorem fd_mi : FOk Go.Proofs.Tryd.prog 40 0 (c_maxI NS mS.pT 100 101) [.var 0] := ⟨Go.Proofs.Tryd.f40, _, [0], Go.Proofs.Tryd.func40, rfl, by kernel_rfl, by kernel_rfl, by decide, by kernel_rfl, by kernel_rfl⟩
theorem fd_tellI : FOk Go.Proofs.Tryd.prog 41 2 (c_door NS mS.pT 100 102 103 104) [.cell 2 NS.zj, .var 3] := ⟨Go.Proofs.Tryd.f41, _, [0, 1, 4, 5, 6, 16], Go.Proofs.Tryd.func41, rfl, by kernel_rfl, by kernel_rfl, by decide, by kernel_rfl, by kernel_rfl⟩
theorem fd_unsI : FOk Go.Proofs.Tryd.prog 42 2 (c_door NS mS.pT 100 102 105 104) [.cell 2 NS.zj, .var 3] := ⟨Go.Proofs.Tryd.f42, _, [0, 1, 4, 5, 6, 16], Go.Proofs.Tryd.func42, rfl, by kernel_rfl, by kernel_rfl, by decide, by kernel_rfl, by kernel_rfl⟩
theorem lawT : LawT Go.Proofs.Tryd.prog NS mS true dS 2 := ⟨door, fd_rf, fd_uf, fd_mv, fd_mi, fd_tellI, fd_unsI, by decide, by decide, by decide⟩
theorem fd_law : FOk Go.Proofs.Tryd.prog 10 2 (c_lawU NS 36 dS.maxI dS.tellI dS.unsI 1000) [.var 2] := ⟨Go.Proofs.Tryd.f10, _, [0, 1, 4, 12, 5, 15, 18, 6, 7, 8, 9], Go.Proofs.Tryd.func10, rfl, by kernel_rfl, by kernel_rfl, by decide, by kernel_rfl, by kernel_rfl⟩
end Go.Kf

namespace Go.Proofs.YtdlfgheckhmgiaaDoor.fnUnsafeAlterConfigsRequest
open Go.ChangeShapes Go.WideShapes Go.ChangeAt Go.RowKit Go.Kf

set_option maxHeartbeats 4000000 in
theorem lifted (os : Os) (started : os.Started) (H : Type) (enc : TypeId × Value → H) :
    ReturnsInHanded {} Go.Proofs.Tryd.checked os 10 .any (fun w args => (Rows.fnUnsafeAlterConfigsRequestSpec.pre enc Go.Proofs.Tryd.prog Go.Proofs.Tryd.f10 [] false w args ∧ laidMetH Go.Proofs.Tryd.prog Rows.fnUnsafeAlterConfigsRequestRow.laid w) ∧ sizedMet enc Go.Proofs.Tryd.prog Go.Proofs.Tryd.f10 (OpenSpec.ofChange Rows.fnUnsafeAlterConfigsRequestSpec) false w args)
      (Rows.fnUnsafeAlterConfigsRequestSpec.post enc Go.Proofs.Tryd.prog Go.Proofs.Tryd.f10 false true false false) := by
  refine returnsInHanded_of_change_and (C := Go.Proofs.Tryd.checked) (X := fun w _ => laidMetH Go.Proofs.Tryd.prog Rows.fnUnsafeAlterConfigsRequestRow.laid w) (fun _ _ _ hh h => h.of_heap hh) own started (by kernel_rfl) Go.Proofs.Tryd.func10
    (ChangeSpec.witness_shaped (enc := enc) (C := Go.Proofs.Tryd.checked) (os := os) (X := fun w _ => laidMetH Go.Proofs.Tryd.prog Rows.fnUnsafeAlterConfigsRequestRow.laid w) false (World.doorLaid Go.Proofs.Tryd.prog 400 os) #[.int .u8 0, .slice none 0 0] 8 rfl (shaped os _) (by kernel_rfl) (by kernel_rfl) (by kernel_rfl) (door_met os _)) ?_
  intro W base args ds gs before hval0 hW _ _ hL _
  have hval : ∀ (j : Nat) t v, Go.Proofs.Tryd.f10.params[j]? = some t → args[j]? = some v → Value.okWide Go.Proofs.Tryd.prog W .any base t v := hval0
  have hW' := hW
  obtain ⟨p, q, hA0, hV, rfl, hfz, hnd⟩ := hW
  have hA : DataW.TrodAll enc Go.Proofs.Tryd.prog W 0 (fun _ => true) true Go.Proofs.Tryd.f10.params.toList args.toList ds p := hA0
  rw [Go.Proofs.Tryd.params10] at hA hval
  obtain ⟨v0, vs0, d0, ds0, p0, q0, hargs, rfl, rfl, h0, r0⟩ := trodAll_cons hA
  obtain ⟨v1, vs1, d1, ds1, p1, q1, rfl, rfl, rfl, h1, r1⟩ := trodAll_cons r0
  obtain ⟨rfl, rfl, rfl⟩ := trodAll_nil r1
  obtain rfl : args = #[v0, v1] := by cases args; simp_all
  obtain ⟨rfl, rfl⟩ := trodVars_none hV
  obtain ⟨n0, rfl, rfl, rfl, w0⟩ := open_int Go.Proofs.Tryd.underlying5 (hval 0 5 v0 rfl rfl) h0
  obtain ⟨l, ha⟩ := argOct_of Go.Proofs.Tryd.underlying22 Go.Proofs.Tryd.underlying5 (by kernel_rfl) (hval 1 22 v1 rfl rfl) h1
  have lt1 : ∀ x ∈ p1, x.block < W.heap.size := by obtain ⟨m, hm⟩ := h1; exact DataW.trod_lt m _ _ _ hm
  rw [MakeChecks.laidMetH_plain _ _ _ (by kernel_rfl)] at hL
  obtain ⟨a1, s1, hv1, _⟩ := laid_sentinel hL gO gT Go.Proofs.Tryd.underlying60 rowP Go.Proofs.Tryd.underlying301 Go.Proofs.Tryd.underlying319 rfl rfl Go.Proofs.Tryd.underlying9 cS cStr
  have hg : W.cell? ⟨1, 0, none⟩ = some (.iface 301 (.pointer (some a1))) := by simpa using World.var?_cell gO hv1 0
  clear hA0 hval0
  refine Calls.mono (call_lawU baseS fnsS implT specT (by decide) (by decide) (by decide) lawT fd_law (n := n0) ha hg) fun e W' ⟨v', he, hv', hm⟩ => ?_
  subst he hv'
  have bel := hm.below
  exact ⟨_, rfl, _, _, _, [], _, [], hW', trodAll_mk1 (shut_bool Go.Proofs.Tryd.underlying4 _), trodAll_cons_mk (shut_int Go.Proofs.Tryd.underlying5 w0) (trodAll_cons_mk (Below.trod laidOut (by kernel_rfl) (of_decide_eq_true (by kernel_rfl)) h1 bel lt1) trodAll_mk0), rfl, bel.frame _, fun h => by cases h⟩

set_option maxHeartbeats 4000000 in
theorem joined : joinedFacts Go.Proofs.Tryd.prog 10 Go.Proofs.Tryd.f10 Rows.fnUnsafeAlterConfigsRequestSpec Rows.fnUnsafeAlterConfigsRequestRow = true := by
  unfold joinedFacts
  exact bandT (bandT (bandT (bandT (bandT (bandT (bandT (bandT (bandT (bandT (bandT (bandT (bandT (bandT (bandT (bandT (bandT (bandT (bandT (bandT (bandT (bandT (bandT (bandT (bandT (bandT (bandT (bandT (bandT (bandT (bandT (by as_aux_lemma => kernel_rfl) laidOut) mapsRowedS) (by as_aux_lemma => kernel_rfl)) (by as_aux_lemma => kernel_rfl)) (by as_aux_lemma => kernel_rfl)) (by as_aux_lemma => kernel_rfl)) (by as_aux_lemma => kernel_rfl)) (by as_aux_lemma => kernel_rfl)) (by as_aux_lemma => kernel_rfl)) (by as_aux_lemma => kernel_rfl)) (by as_aux_lemma => kernel_rfl)) (by as_aux_lemma => kernel_rfl)) (by as_aux_lemma => kernel_rfl)) (by as_aux_lemma => kernel_rfl)) (by as_aux_lemma => kernel_rfl)) (by as_aux_lemma => kernel_rfl)) (by as_aux_lemma => kernel_rfl)) (by as_aux_lemma => kernel_rfl)) (by as_aux_lemma => kernel_rfl)) (by as_aux_lemma => kernel_rfl)) (by as_aux_lemma => kernel_rfl)) plainKeysS) (by as_aux_lemma => kernel_rfl)) stopsHeardS) bigEnter) bigLifts) bigMake) (by as_aux_lemma => kernel_rfl)) (by as_aux_lemma => kernel_rfl)) (by as_aux_lemma => kernel_rfl)) (by as_aux_lemma => kernel_rfl)
theorem named : Go.Proofs.Tryd.prog.funcNamed Rows.fnUnsafeAlterConfigsRequestRow.func = some 10 := by kernel_rfl
theorem isInst : Go.Proofs.Tryd.f10.isInstance Go.Proofs.Tryd.prog Rows.fnUnsafeAlterConfigsRequestRow.origin Rows.fnUnsafeAlterConfigsRequestRow.targs := of_decide_eq_true (by kernel_rfl)
theorem isWrap : Go.Proofs.Tryd.f10.isWrapper Go.Proofs.Tryd.prog Rows.fnUnsafeAlterConfigsRequestRow.wrapper Rows.fnUnsafeAlterConfigsRequestRow.mainSum := by unfold Func.isWrapper; first | (rw [if_pos (by decide +kernel)]; kernel_rfl) | (rw [if_neg (by decide +kernel)]; exact ⟨rfl, rfl⟩)
theorem row : Rows.FnUnsafeAlterConfigsRequestSaid :=
  OpenClaim.holds_of_wide 10 Go.Proofs.Tryd.f10 rfl rfl rfl rfl rfl rfl rfl ⟨rfl, rfl, rfl, rfl, rfl⟩ rfl rfl rfl rfl rfl named Go.Proofs.Tryd.func10 joined
    isInst isWrap
    (fun os started H enc _ => lifted os started H enc)
end Go.Proofs.YtdlfgheckhmgiaaDoor.fnUnsafeAlterConfigsRequest

namespace Go.Proofs.YtdlfgheckhmgiaaDoor
open Go.Kf
set_option maxHeartbeats 4000000 in
theorem fnUnsafeAlterConfigsRequest_card : Rows.FnUnsafeAlterConfigsRequestCardSaid :=
  Claim7.holds_tied_plain_at .later [] [.sentinel] true Rows.fnUnsafeAlterConfigsRequestCard.stood.harness false
    fnUnsafeAlterConfigsRequest.row (fun _ h => by cases h) (by as_aux_lemma => kernel_rfl) (fun _ h => by cases h) fnUnsafeAlterConfigsRequest_row_tie rfl ⟨rfl, rfl⟩ mainS rfl
    (fun f fn hf hfn => by
      obtain rfl : f = 10 := Option.some.inj (fnUnsafeAlterConfigsRequest.named.symm.trans hf) |>.symm
      obtain rfl : fn = Go.Proofs.Tryd.f10 := (Option.some.inj (Go.Proofs.Tryd.func10.symm.trans hfn)).symm
      refine ⟨looksS, fun j t ht => ?_⟩
      rw [Go.Proofs.Tryd.params10] at ht
      rcases j with _ | _ | j
      · obtain rfl : 5 = t := by simpa using ht
        exact (show Go.Proofs.Tryd.prog.wantsStandIn 5 = false by kernel_rfl)
      · obtain rfl : 22 = t := by simpa using ht
        exact (show Go.Proofs.Tryd.prog.wantsStandIn 22 = false by kernel_rfl)
      · simp at ht)
    (by as_aux_lemma => kernel_rfl)
#print axioms fnUnsafeAlterConfigsRequest_card
end Go.Proofs.YtdlfgheckhmgiaaDoor
