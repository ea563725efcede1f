/- Both ways of reading tell the same of any octets as a IncrementalAlterConfigsResponse (laws.FnUnsafeIncrementalAlterConfigsResponse): the tied card is proved, at every version number and all octets; no other condition. -/
import Derived.Test.YtdlfgheckhmgiaaDoorKs
set_option linter.unusedSimpArgs false
set_option linter.unusedVariables false
set_option maxRecDepth 100000
namespace Go.Kf
open Go

def tf : TypeId → FuncId × FuncId := fun | 144 => (137, 198) | _ => (0, 0)

def rIncrementalAlterConfigsResponseResource : Fds := .cons .all (.pr .i16 none) (.cons .all (.txt .nstr) (.cons .all (.pr (.en 142) none) (.cons .all (.txt .str) (.tags))))
theorem df_IncrementalAlterConfigsResponseResource : FOk Go.Proofs.Tryd.prog 190 1 (seqs (rIncrementalAlterConfigsResponseResource.dfl NS 144 0)) [] := ⟨Go.Proofs.Tryd.f190, _, [0], Go.Proofs.Tryd.func190, rfl, by kernel_rfl, by kernel_rfl, by decide, by kernel_rfl, by kernel_rfl⟩
theorem ft_IncrementalAlterConfigsResponseResource : FOk Go.Proofs.Tryd.prog 137 1 (tellC NS tf 144 0 198 rIncrementalAlterConfigsResponseResource) [.cell 1 NS.zj] := ⟨Go.Proofs.Tryd.f137, _, [0, 2, 3], Go.Proofs.Tryd.func137, rfl, by kernel_rfl, by kernel_rfl, by decide, by kernel_rfl, by kernel_rfl⟩
theorem fc_IncrementalAlterConfigsResponseResource : FOk Go.Proofs.Tryd.prog 198 3 (cTagFn NS) [] := ⟨Go.Proofs.Tryd.f198, _, [0, 1, 2], Go.Proofs.Tryd.func198, rfl, by kernel_rfl, by kernel_rfl, by decide, by kernel_rfl, by kernel_rfl⟩
theorem tl_IncrementalAlterConfigsResponseResource : TellP Go.Proofs.Tryd.prog 137 0 rIncrementalAlterConfigsResponseResource := tellP baseS fnsS implT tellN (tf := tf) (Tt := 144) (idx0 := 0) ft_IncrementalAlterConfigsResponseResource (fun _ => fc_IncrementalAlterConfigsResponseResource) ⟨trivial, ⟨⟨by decide, by decide⟩, ⟨zfx (by kernel_rfl), ⟨trivial, trivial⟩⟩⟩⟩ (Fds.ok_of (fx := true) (Tt := 144) (idx := 0) (off := 0) baseS fnsS rIncrementalAlterConfigsResponseResource (by kernel_rfl) ⟨trivial, ⟨trivial, ⟨trivial, ⟨trivial, trivial⟩⟩⟩⟩).2.1 (by decide)

def mS : Msg := ⟨137, 85, 135, 1, false, .cons .all (.pr .i32 none) (.cons .all (.arr 135 none (.row 144 139 190 (.cons .all (.pr .i16 none) (.cons .all (.txt .nstr) (.cons .all (.pr (.en 142) none) (.cons .all (.txt .str) (.tags))))))) (.tags))⟩
def dS : zpe where
  newP := 70
  setV := 72
  maxV := 71
  readF := 73
  unsF := 75
  readf := 136
  tell := 74
  maxI := 24
  tellI := 25
  unsI := 27
theorem rd_m : FOk Go.Proofs.Tryd.prog 136 3 (mS.gen NS true) [.var 3] := ⟨Go.Proofs.Tryd.f136, _, [0, 1, 2, 6, 7, 8, 9, 10, 11, 12, 13, 14, 47, 51, 56, 15, 62, 16, 17, 18, 19, 76, 77, 80, 20, 21, 22, 23, 94, 95, 98, 105, 115], Go.Proofs.Tryd.func136, rfl, by kernel_rfl, by kernel_rfl, by decide, by kernel_rfl, by kernel_rfl⟩
theorem df_m : FOk Go.Proofs.Tryd.prog 135 1 (seqs (mS.fs.dfl NS mS.tT 1)) [] := ⟨Go.Proofs.Tryd.f135, _, [0], Go.Proofs.Tryd.func135, rfl, by kernel_rfl, by kernel_rfl, by decide, by kernel_rfl, by kernel_rfl⟩
theorem mt : MsgT Go.Proofs.Tryd.prog NS mS true := msgT_of baseS fnsS (by kernel_rfl) (by kernel_rfl) (by kernel_rfl) ⟨trivial, ⟨⟨df_IncrementalAlterConfigsResponseResource, ⟨trivial, ⟨trivial, ⟨trivial, ⟨trivial, trivial⟩⟩⟩⟩⟩, trivial⟩⟩ df_m
theorem ft_IncrementalAlterConfigsResponse : FOk Go.Proofs.Tryd.prog 74 1 (tellC NS tf 137 1 138 mS.fs) [.cell 1 NS.zj] := ⟨Go.Proofs.Tryd.f74, _, [0, 2, 3, 29, 30, 31, 4, 34, 46, 47, 49], Go.Proofs.Tryd.func74, rfl, by kernel_rfl, by kernel_rfl, by decide, by kernel_rfl, by kernel_rfl⟩
theorem fc_IncrementalAlterConfigsResponse : FOk Go.Proofs.Tryd.prog 138 3 (cTagFn NS) [] := ⟨Go.Proofs.Tryd.f138, _, [0, 1, 2], Go.Proofs.Tryd.func138, rfl, by kernel_rfl, by kernel_rfl, by decide, by kernel_rfl, by kernel_rfl⟩
theorem tl_IncrementalAlterConfigsResponse : TellP Go.Proofs.Tryd.prog 74 1 mS.fs := tellP baseS fnsS implT tellN (tf := tf) (Tt := 137) (idx0 := 1) ft_IncrementalAlterConfigsResponse (fun _ => fc_IncrementalAlterConfigsResponse) ⟨trivial, ⟨⟨zfx (by kernel_rfl), el_ti (fx := true) baseS fnsS _ (by kernel_rfl) ⟨df_IncrementalAlterConfigsResponseResource, ⟨trivial, ⟨trivial, ⟨trivial, ⟨trivial, trivial⟩⟩⟩⟩⟩, tl_IncrementalAlterConfigsResponseResource⟩, trivial⟩⟩ mt.hf (by decide)
theorem fd_new : FOk Go.Proofs.Tryd.prog 70 0 (c_new NS mS.tT mS.dflt) [.var 0] := ⟨Go.Proofs.Tryd.f70, _, [0, 1], Go.Proofs.Tryd.func70, rfl, by kernel_rfl, by kernel_rfl, by decide, by kernel_rfl, by kernel_rfl⟩
theorem fd_set : FOk Go.Proofs.Tryd.prog 72 2 (c_set NS mS.tT) [] := ⟨Go.Proofs.Tryd.f72, _, [0, 1], Go.Proofs.Tryd.func72, rfl, by kernel_rfl, by kernel_rfl, by decide, by kernel_rfl, by kernel_rfl⟩
theorem door : zrx Go.Proofs.Tryd.prog NS mS true dS where
  msg := mt
  vin := rfl
  ti := (tsB_ok (by' := bytesOf Go.Proofs.Tryd.prog 137) (by kernel_rfl)).imp fun _ h => ⟨_, h⟩
  newP := fd_new
  setV := fd_set
  readf := rd_m
  tell := fun _ => tl_IncrementalAlterConfigsResponse
  dok := ⟨⟨_, rfl, by decide⟩, ⟨⟨⟨_, rfl, by decide⟩, ⟨⟨_, rfl, by decide⟩, trivial⟩⟩, trivial⟩⟩
  shB := by kernel_rfl
  cnt := by decide
theorem fd_rf : FOk Go.Proofs.Tryd.prog 73 2 (c_rf NS mS.pT 136 false) [.var 2] := ⟨Go.Proofs.Tryd.f73, _, [0, 1, 4], Go.Proofs.Tryd.func73, rfl, by kernel_rfl, by kernel_rfl, by decide, by kernel_rfl, by kernel_rfl⟩
theorem fd_uf : FOk Go.Proofs.Tryd.prog 75 2 (c_rf NS mS.pT 136 true) [.var 2] := ⟨Go.Proofs.Tryd.f75, _, [0, 1, 4], Go.Proofs.Tryd.func75, rfl, by kernel_rfl, by kernel_rfl, by decide, by kernel_rfl, by kernel_rfl⟩
theorem fd_mv : FOk Go.Proofs.Tryd.prog 71 1 (c_max 1) [.var 1] := ⟨Go.Proofs.Tryd.f71, _, [0, 2], Go.Proofs.Tryd.func71, rfl, by kernel_rfl, by kernel_rfl, by decide, by kernel_rfl, by kernel_rfl⟩
theorem fd_mi : FOk Go.Proofs.Tryd.prog 24 0 (c_maxI NS mS.pT 70 71) [.var 0] := ⟨Go.Proofs.Tryd.f24, _, [0], Go.Proofs.Tryd.func24, rfl, by kernel_rfl, by kernel_rfl, by decide, by kernel_rfl, by kernel_rfl⟩
theorem fd_tellI : FOk Go.Proofs.Tryd.prog 25 2 (c_door NS mS.pT 70 72 73 74) [.cell 2 NS.zj, .var 3] := ⟨Go.Proofs.Tryd.f25, _, [0, 1, 4, 5, 6, 16], Go.Proofs.Tryd.func25, rfl, by kernel_rfl, by kernel_rfl, by decide, by kernel_rfl, by kernel_rfl⟩
theorem fd_unsI : FOk Go.Proofs.Tryd.prog 27 2 (c_door NS mS.pT 70 72 75 74) [.cell 2 NS.zj, .var 3] := ⟨Go.Proofs.Tryd.f27, _, [0, 1, 4, 5, 6, 16], Go.Proofs.Tryd.func27, rfl, by kernel_rfl, by kernel_rfl, by decide, by kernel_rfl, by kernel_rfl⟩
theorem lawT : LawT Go.Proofs.Tryd.prog NS mS true dS 1 := ⟨door, fd_rf, fd_uf, fd_mv, fd_mi, fd_tellI, fd_unsI, by decide, by decide, by decide⟩
theorem fd_law : FOk Go.Proofs.Tryd.prog 5 2 (c_lawU NS 36 dS.maxI dS.tellI dS.unsI 1000) [.var 2] := ⟨Go.Proofs.Tryd.f5, _, [0, 1, 4, 12, 5, 15, 18, 6, 7, 8, 9], Go.Proofs.Tryd.func5, rfl, by kernel_rfl, by kernel_rfl, by decide, by kernel_rfl, by kernel_rfl⟩
end Go.Kf

namespace Go.Proofs.YtdlfgheckhmgiaaDoor.fnUnsafeIncrementalAlterConfigsResponse
open Go.ChangeShapes Go.WideShapes Go.ChangeAt Go.RowKit Go.Kf

set_option maxHeartbeats 4000000 in
theorem lifted (os : Os) (started : os.Started) (H : Type) (enc : TypeId × Value → H) :
    ReturnsInHanded {} Go.Proofs.Tryd.checked os 5 .any (fun w args => (Rows.fnUnsafeIncrementalAlterConfigsResponseSpec.pre enc Go.Proofs.Tryd.prog Go.Proofs.Tryd.f5 [] false w args ∧ laidMetH Go.Proofs.Tryd.prog Rows.fnUnsafeIncrementalAlterConfigsResponseRow.laid w) ∧ sizedMet enc Go.Proofs.Tryd.prog Go.Proofs.Tryd.f5 (OpenSpec.ofChange Rows.fnUnsafeIncrementalAlterConfigsResponseSpec) false w args)
      (Rows.fnUnsafeIncrementalAlterConfigsResponseSpec.post enc Go.Proofs.Tryd.prog Go.Proofs.Tryd.f5 false true false false) := by
  refine returnsInHanded_of_change_and (C := Go.Proofs.Tryd.checked) (X := fun w _ => laidMetH Go.Proofs.Tryd.prog Rows.fnUnsafeIncrementalAlterConfigsResponseRow.laid w) (fun _ _ _ hh h => h.of_heap hh) own started (by kernel_rfl) Go.Proofs.Tryd.func5
    (ChangeSpec.witness_shaped (enc := enc) (C := Go.Proofs.Tryd.checked) (os := os) (X := fun w _ => laidMetH Go.Proofs.Tryd.prog Rows.fnUnsafeIncrementalAlterConfigsResponseRow.laid w) false (World.doorLaid Go.Proofs.Tryd.prog 400 os) #[.int .u8 0, .slice none 0 0] 8 rfl (shaped os _) (by kernel_rfl) (by kernel_rfl) (by kernel_rfl) (door_met os _)) ?_
  intro W base args ds gs before hval0 hW _ _ hL _
  have hval : ∀ (j : Nat) t v, Go.Proofs.Tryd.f5.params[j]? = some t → args[j]? = some v → Value.okWide Go.Proofs.Tryd.prog W .any base t v := hval0
  have hW' := hW
  obtain ⟨p, q, hA0, hV, rfl, hfz, hnd⟩ := hW
  have hA : DataW.TrodAll enc Go.Proofs.Tryd.prog W 0 (fun _ => true) true Go.Proofs.Tryd.f5.params.toList args.toList ds p := hA0
  rw [Go.Proofs.Tryd.params5] at hA hval
  obtain ⟨v0, vs0, d0, ds0, p0, q0, hargs, rfl, rfl, h0, r0⟩ := trodAll_cons hA
  obtain ⟨v1, vs1, d1, ds1, p1, q1, rfl, rfl, rfl, h1, r1⟩ := trodAll_cons r0
  obtain ⟨rfl, rfl, rfl⟩ := trodAll_nil r1
  obtain rfl : args = #[v0, v1] := by cases args; simp_all
  obtain ⟨rfl, rfl⟩ := trodVars_none hV
  obtain ⟨n0, rfl, rfl, rfl, w0⟩ := open_int Go.Proofs.Tryd.underlying5 (hval 0 5 v0 rfl rfl) h0
  obtain ⟨l, ha⟩ := argOct_of Go.Proofs.Tryd.underlying22 Go.Proofs.Tryd.underlying5 (by kernel_rfl) (hval 1 22 v1 rfl rfl) h1
  have lt1 : ∀ x ∈ p1, x.block < W.heap.size := by obtain ⟨m, hm⟩ := h1; exact DataW.trod_lt m _ _ _ hm
  rw [MakeChecks.laidMetH_plain _ _ _ (by kernel_rfl)] at hL
  obtain ⟨a1, s1, hv1, _⟩ := laid_sentinel hL gO gT Go.Proofs.Tryd.underlying60 rowP Go.Proofs.Tryd.underlying301 Go.Proofs.Tryd.underlying319 rfl rfl Go.Proofs.Tryd.underlying9 cS cStr
  have hg : W.cell? ⟨1, 0, none⟩ = some (.iface 301 (.pointer (some a1))) := by simpa using World.var?_cell gO hv1 0
  clear hA0 hval0
  refine Calls.mono (call_lawU baseS fnsS implT specT (by decide) (by decide) (by decide) lawT fd_law (n := n0) ha hg) fun e W' ⟨v', he, hv', hm⟩ => ?_
  subst he hv'
  have bel := hm.below
  exact ⟨_, rfl, _, _, _, [], _, [], hW', trodAll_mk1 (shut_bool Go.Proofs.Tryd.underlying4 _), trodAll_cons_mk (shut_int Go.Proofs.Tryd.underlying5 w0) (trodAll_cons_mk (Below.trod laidOut (by kernel_rfl) (of_decide_eq_true (by kernel_rfl)) h1 bel lt1) trodAll_mk0), rfl, bel.frame _, fun h => by cases h⟩

set_option maxHeartbeats 4000000 in
theorem joined : joinedFacts Go.Proofs.Tryd.prog 5 Go.Proofs.Tryd.f5 Rows.fnUnsafeIncrementalAlterConfigsResponseSpec Rows.fnUnsafeIncrementalAlterConfigsResponseRow = true := by
  unfold joinedFacts
  exact bandT (bandT (bandT (bandT (bandT (bandT (bandT (bandT (bandT (bandT (bandT (bandT (bandT (bandT (bandT (bandT (bandT (bandT (bandT (bandT (bandT (bandT (bandT (bandT (bandT (bandT (bandT (bandT (bandT (bandT (bandT (by as_aux_lemma => kernel_rfl) laidOut) mapsRowedS) (by as_aux_lemma => kernel_rfl)) (by as_aux_lemma => kernel_rfl)) (by as_aux_lemma => kernel_rfl)) (by as_aux_lemma => kernel_rfl)) (by as_aux_lemma => kernel_rfl)) (by as_aux_lemma => kernel_rfl)) (by as_aux_lemma => kernel_rfl)) (by as_aux_lemma => kernel_rfl)) (by as_aux_lemma => kernel_rfl)) (by as_aux_lemma => kernel_rfl)) (by as_aux_lemma => kernel_rfl)) (by as_aux_lemma => kernel_rfl)) (by as_aux_lemma => kernel_rfl)) (by as_aux_lemma => kernel_rfl)) (by as_aux_lemma => kernel_rfl)) (by as_aux_lemma => kernel_rfl)) (by as_aux_lemma => kernel_rfl)) (by as_aux_lemma => kernel_rfl)) (by as_aux_lemma => kernel_rfl)) plainKeysS) (by as_aux_lemma => kernel_rfl)) stopsHeardS) bigEnter) bigLifts) bigMake) (by as_aux_lemma => kernel_rfl)) (by as_aux_lemma => kernel_rfl)) (by as_aux_lemma => kernel_rfl)) (by as_aux_lemma => kernel_rfl)
theorem named : Go.Proofs.Tryd.prog.funcNamed Rows.fnUnsafeIncrementalAlterConfigsResponseRow.func = some 5 := by kernel_rfl
theorem isInst : Go.Proofs.Tryd.f5.isInstance Go.Proofs.Tryd.prog Rows.fnUnsafeIncrementalAlterConfigsResponseRow.origin Rows.fnUnsafeIncrementalAlterConfigsResponseRow.targs := of_decide_eq_true (by kernel_rfl)
theorem isWrap : Go.Proofs.Tryd.f5.isWrapper Go.Proofs.Tryd.prog Rows.fnUnsafeIncrementalAlterConfigsResponseRow.wrapper Rows.fnUnsafeIncrementalAlterConfigsResponseRow.mainSum := by unfold Func.isWrapper; first | (rw [if_pos (by decide +kernel)]; kernel_rfl) | (rw [if_neg (by decide +kernel)]; exact ⟨rfl, rfl⟩)
theorem row : Rows.FnUnsafeIncrementalAlterConfigsResponseSaid :=
  OpenClaim.holds_of_wide 5 Go.Proofs.Tryd.f5 rfl rfl rfl rfl rfl rfl rfl ⟨rfl, rfl, rfl, rfl, rfl⟩ rfl rfl rfl rfl rfl named Go.Proofs.Tryd.func5 joined
    isInst isWrap
    (fun os started H enc _ => lifted os started H enc)
end Go.Proofs.YtdlfgheckhmgiaaDoor.fnUnsafeIncrementalAlterConfigsResponse

namespace Go.Proofs.YtdlfgheckhmgiaaDoor
open Go.Kf
set_option maxHeartbeats 4000000 in
theorem fnUnsafeIncrementalAlterConfigsResponse_card : Rows.FnUnsafeIncrementalAlterConfigsResponseCardSaid :=
  Claim7.holds_tied_plain_at .later [] [.sentinel] true Rows.fnUnsafeIncrementalAlterConfigsResponseCard.stood.harness false
    fnUnsafeIncrementalAlterConfigsResponse.row (fun _ h => by cases h) (by as_aux_lemma => kernel_rfl) (fun _ h => by cases h) fnUnsafeIncrementalAlterConfigsResponse_row_tie rfl ⟨rfl, rfl⟩ mainS rfl
    (fun f fn hf hfn => by
      obtain rfl : f = 5 := Option.some.inj (fnUnsafeIncrementalAlterConfigsResponse.named.symm.trans hf) |>.symm
      obtain rfl : fn = Go.Proofs.Tryd.f5 := (Option.some.inj (Go.Proofs.Tryd.func5.symm.trans hfn)).symm
      refine ⟨looksS, fun j t ht => ?_⟩
      rw [Go.Proofs.Tryd.params5] at ht
      rcases j with _ | _ | j
      · obtain rfl : 5 = t := by simpa using ht
        exact (show Go.Proofs.Tryd.prog.wantsStandIn 5 = false by kernel_rfl)
      · obtain rfl : 22 = t := by simpa using ht
        exact (show Go.Proofs.Tryd.prog.wantsStandIn 22 = false by kernel_rfl)
      · simp at ht)
    (by as_aux_lemma => kernel_rfl)
#print axioms fnUnsafeIncrementalAlterConfigsResponse_card
end Go.Proofs.YtdlfgheckhmgiaaDoor
