/- Both ways of reading tell the same of any octets as a DeleteTopicsResponse (laws.FnUnsafeDeleteTopicsResponse): the tied card is proved, at every version number and all octets; no other condition. -/
import Derived.Test.YtdlfgheckhmgiaaDoorKs
set_option linter.unusedSimpArgs false
set_option linter.unusedVariables false
set_option maxRecDepth 100000
namespace Go.Kf
open Go

def tf : TypeId → FuncId × FuncId := fun | 151 => (141, 200) | _ => (0, 0)

def rDeleteTopicsResponseTopic : Fds := .cons .all (.tv (6)) (.cons (.ge 6) (.pr .uuid none) (.cons .all (.pr .i16 none) (.cons (.ge 5) (.txt .nstr) (.tags))))
theorem df_DeleteTopicsResponseTopic : FOk Go.Proofs.Tryd.prog 199 1 (seqs (rDeleteTopicsResponseTopic.dfl NS 151 0)) [] := ⟨Go.Proofs.Tryd.f199, _, [0], Go.Proofs.Tryd.func199, rfl, by kernel_rfl, by kernel_rfl, by decide, by kernel_rfl, by kernel_rfl⟩
theorem ft_DeleteTopicsResponseTopic : FOk Go.Proofs.Tryd.prog 141 1 (tellC NS tf 151 0 200 rDeleteTopicsResponseTopic) [.cell 1 NS.zj] := ⟨Go.Proofs.Tryd.f141, _, [0, 2, 3], Go.Proofs.Tryd.func141, rfl, by kernel_rfl, by kernel_rfl, by decide, by kernel_rfl, by kernel_rfl⟩
theorem fc_DeleteTopicsResponseTopic : FOk Go.Proofs.Tryd.prog 200 3 (cTagFn NS) [] := ⟨Go.Proofs.Tryd.f200, _, [0, 1, 2], Go.Proofs.Tryd.func200, rfl, by kernel_rfl, by kernel_rfl, by decide, by kernel_rfl, by kernel_rfl⟩
theorem tl_DeleteTopicsResponseTopic : TellP Go.Proofs.Tryd.prog 141 0 rDeleteTopicsResponseTopic := tellP baseS fnsS implT tellN (tf := tf) (Tt := 151) (idx0 := 0) ft_DeleteTopicsResponseTopic (fun _ => fc_DeleteTopicsResponseTopic) ⟨⟨by decide, by decide⟩, ⟨(show NS.zai ≠ 0 by decide), ⟨trivial, ⟨⟨by decide, by decide⟩, trivial⟩⟩⟩⟩ (Fds.ok_of (fx := true) (Tt := 151) (idx := 0) (off := 0) baseS fnsS rDeleteTopicsResponseTopic (by kernel_rfl) ⟨trivial, ⟨trivial, ⟨trivial, ⟨trivial, trivial⟩⟩⟩⟩).2.1 (by decide)

def mS : Msg := ⟨147, 90, 139, 4, false, .cons (.ge 1) (.pr .i32 none) (.cons .all (.arr 145 none (.row 151 149 199 (.cons .all (.tv (6)) (.cons (.ge 6) (.pr .uuid none) (.cons .all (.pr .i16 none) (.cons (.ge 5) (.txt .nstr) (.tags))))))) (.tags))⟩
def dS : zpe where
  newP := 76
  setV := 78
  maxV := 77
  readF := 79
  unsF := 81
  readf := 140
  tell := 80
  maxI := 28
  tellI := 29
  unsI := 30
theorem rd_m : FOk Go.Proofs.Tryd.prog 140 3 (mS.gen NS true) [.var 3] := ⟨Go.Proofs.Tryd.f140, _, [0, 1, 2, 6, 7, 8, 9, 10, 37, 11, 12, 13, 14, 48, 52, 57, 15, 63, 16, 17, 18, 73, 19, 74, 75, 78, 81, 82, 85, 93, 20, 21, 105, 22, 106, 107, 110, 117, 127], Go.Proofs.Tryd.func140, rfl, by kernel_rfl, by kernel_rfl, by decide, by kernel_rfl, by kernel_rfl⟩
theorem df_m : FOk Go.Proofs.Tryd.prog 139 1 (seqs (mS.fs.dfl NS mS.tT 1)) [] := ⟨Go.Proofs.Tryd.f139, _, [0], Go.Proofs.Tryd.func139, rfl, by kernel_rfl, by kernel_rfl, by decide, by kernel_rfl, by kernel_rfl⟩
theorem mt : MsgT Go.Proofs.Tryd.prog NS mS true := msgT_of baseS fnsS (by kernel_rfl) (by kernel_rfl) (by kernel_rfl) ⟨trivial, ⟨⟨df_DeleteTopicsResponseTopic, ⟨trivial, ⟨trivial, ⟨trivial, ⟨trivial, trivial⟩⟩⟩⟩⟩, trivial⟩⟩ df_m
theorem ft_DeleteTopicsResponse : FOk Go.Proofs.Tryd.prog 80 1 (tellC NS tf 147 1 142 mS.fs) [.cell 1 NS.zj] := ⟨Go.Proofs.Tryd.f80, _, [0, 2, 3, 29, 30, 31, 4, 34, 46, 47, 49], Go.Proofs.Tryd.func80, rfl, by kernel_rfl, by kernel_rfl, by decide, by kernel_rfl, by kernel_rfl⟩
theorem fc_DeleteTopicsResponse : FOk Go.Proofs.Tryd.prog 142 3 (cTagFn NS) [] := ⟨Go.Proofs.Tryd.f142, _, [0, 1, 2], Go.Proofs.Tryd.func142, rfl, by kernel_rfl, by kernel_rfl, by decide, by kernel_rfl, by kernel_rfl⟩
theorem tl_DeleteTopicsResponse : TellP Go.Proofs.Tryd.prog 80 1 mS.fs := tellP baseS fnsS implT tellN (tf := tf) (Tt := 147) (idx0 := 1) ft_DeleteTopicsResponse (fun _ => fc_DeleteTopicsResponse) ⟨trivial, ⟨⟨zfx (by kernel_rfl), el_ti (fx := true) baseS fnsS _ (by kernel_rfl) ⟨df_DeleteTopicsResponseTopic, ⟨trivial, ⟨trivial, ⟨trivial, ⟨trivial, trivial⟩⟩⟩⟩⟩, tl_DeleteTopicsResponseTopic⟩, trivial⟩⟩ mt.hf (by decide)
theorem fd_new : FOk Go.Proofs.Tryd.prog 76 0 (c_new NS mS.tT mS.dflt) [.var 0] := ⟨Go.Proofs.Tryd.f76, _, [0, 1], Go.Proofs.Tryd.func76, rfl, by kernel_rfl, by kernel_rfl, by decide, by kernel_rfl, by kernel_rfl⟩
theorem fd_set : FOk Go.Proofs.Tryd.prog 78 2 (c_set NS mS.tT) [] := ⟨Go.Proofs.Tryd.f78, _, [0, 1], Go.Proofs.Tryd.func78, rfl, by kernel_rfl, by kernel_rfl, by decide, by kernel_rfl, by kernel_rfl⟩
theorem door : zrx Go.Proofs.Tryd.prog NS mS true dS where
  msg := mt
  vin := rfl
  ti := (tsB_ok (by' := bytesOf Go.Proofs.Tryd.prog 147) (by kernel_rfl)).imp fun _ h => ⟨_, h⟩
  newP := fd_new
  setV := fd_set
  readf := rd_m
  tell := fun _ => tl_DeleteTopicsResponse
  dok := ⟨⟨_, rfl, by decide⟩, ⟨⟨⟨List.replicate 16 0, rfl, rfl⟩, ⟨⟨_, rfl, by decide⟩, trivial⟩⟩, trivial⟩⟩
  shB := by kernel_rfl
  cnt := by decide
theorem fd_rf : FOk Go.Proofs.Tryd.prog 79 2 (c_rf NS mS.pT 140 false) [.var 2] := ⟨Go.Proofs.Tryd.f79, _, [0, 1, 4], Go.Proofs.Tryd.func79, rfl, by kernel_rfl, by kernel_rfl, by decide, by kernel_rfl, by kernel_rfl⟩
theorem fd_uf : FOk Go.Proofs.Tryd.prog 81 2 (c_rf NS mS.pT 140 true) [.var 2] := ⟨Go.Proofs.Tryd.f81, _, [0, 1, 4], Go.Proofs.Tryd.func81, rfl, by kernel_rfl, by kernel_rfl, by decide, by kernel_rfl, by kernel_rfl⟩
theorem fd_mv : FOk Go.Proofs.Tryd.prog 77 1 (c_max 6) [.var 1] := ⟨Go.Proofs.Tryd.f77, _, [0, 2], Go.Proofs.Tryd.func77, rfl, by kernel_rfl, by kernel_rfl, by decide, by kernel_rfl, by kernel_rfl⟩
theorem fd_mi : FOk Go.Proofs.Tryd.prog 28 0 (c_maxI NS mS.pT 76 77) [.var 0] := ⟨Go.Proofs.Tryd.f28, _, [0], Go.Proofs.Tryd.func28, rfl, by kernel_rfl, by kernel_rfl, by decide, by kernel_rfl, by kernel_rfl⟩
theorem fd_tellI : FOk Go.Proofs.Tryd.prog 29 2 (c_door NS mS.pT 76 78 79 80) [.cell 2 NS.zj, .var 3] := ⟨Go.Proofs.Tryd.f29, _, [0, 1, 4, 5, 6, 16], Go.Proofs.Tryd.func29, rfl, by kernel_rfl, by kernel_rfl, by decide, by kernel_rfl, by kernel_rfl⟩
theorem fd_unsI : FOk Go.Proofs.Tryd.prog 30 2 (c_door NS mS.pT 76 78 81 80) [.cell 2 NS.zj, .var 3] := ⟨Go.Proofs.Tryd.f30, _, [0, 1, 4, 5, 6, 16], Go.Proofs.Tryd.func30, rfl, by kernel_rfl, by kernel_rfl, by decide, by kernel_rfl, by kernel_rfl⟩
theorem lawT : LawT Go.Proofs.Tryd.prog NS mS true dS 6 := ⟨door, fd_rf, fd_uf, fd_mv, fd_mi, fd_tellI, fd_unsI, by decide, by decide, by decide⟩
theorem fd_law : FOk Go.Proofs.Tryd.prog 6 2 (c_lawU NS 36 dS.maxI dS.tellI dS.unsI 1000) [.var 2] := ⟨Go.Proofs.Tryd.f6, _, [0, 1, 4, 12, 5, 15, 18, 6, 7, 8, 9], Go.Proofs.Tryd.func6, rfl, by kernel_rfl, by kernel_rfl, by decide, by kernel_rfl, by kernel_rfl⟩
end Go.Kf

namespace Go.Proofs.YtdlfgheckhmgiaaDoor.fnUnsafeDeleteTopicsResponse
open Go.ChangeShapes Go.WideShapes Go.ChangeAt Go.RowKit Go.Kf

set_option maxHeartbeats 4000000 in
theorem lifted (os : Os) (started : os.Started) (H : Type) (enc : TypeId × Value → H) :
    ReturnsInHanded {} Go.Proofs.Tryd.checked os 6 .any (fun w args => (Rows.fnUnsafeDeleteTopicsResponseSpec.pre enc Go.Proofs.Tryd.prog Go.Proofs.Tryd.f6 [] false w args ∧ laidMetH Go.Proofs.Tryd.prog Rows.fnUnsafeDeleteTopicsResponseRow.laid w) ∧ sizedMet enc Go.Proofs.Tryd.prog Go.Proofs.Tryd.f6 (OpenSpec.ofChange Rows.fnUnsafeDeleteTopicsResponseSpec) false w args)
      (Rows.fnUnsafeDeleteTopicsResponseSpec.post enc Go.Proofs.Tryd.prog Go.Proofs.Tryd.f6 false true false false) := by
  refine returnsInHanded_of_change_and (C := Go.Proofs.Tryd.checked) (X := fun w _ => laidMetH Go.Proofs.Tryd.prog Rows.fnUnsafeDeleteTopicsResponseRow.laid w) (fun _ _ _ hh h => h.of_heap hh) own started (by kernel_rfl) Go.Proofs.Tryd.func6
    (ChangeSpec.witness_shaped (enc := enc) (C := Go.Proofs.Tryd.checked) (os := os) (X := fun w _ => laidMetH Go.Proofs.Tryd.prog Rows.fnUnsafeDeleteTopicsResponseRow.laid w) false (World.doorLaid Go.Proofs.Tryd.prog 400 os) #[.int .u8 0, .slice none 0 0] 8 rfl (shaped os _) (by kernel_rfl) (by kernel_rfl) (by kernel_rfl) (door_met os _)) ?_
  intro W base args ds gs before hval0 hW _ _ hL _
  have hval : ∀ (j : Nat) t v, Go.Proofs.Tryd.f6.params[j]? = some t → args[j]? = some v → Value.okWide Go.Proofs.Tryd.prog W .any base t v := hval0
  have hW' := hW
  obtain ⟨p, q, hA0, hV, rfl, hfz, hnd⟩ := hW
  have hA : DataW.TrodAll enc Go.Proofs.Tryd.prog W 0 (fun _ => true) true Go.Proofs.Tryd.f6.params.toList args.toList ds p := hA0
  rw [Go.Proofs.Tryd.params6] at hA hval
  obtain ⟨v0, vs0, d0, ds0, p0, q0, hargs, rfl, rfl, h0, r0⟩ := trodAll_cons hA
  obtain ⟨v1, vs1, d1, ds1, p1, q1, rfl, rfl, rfl, h1, r1⟩ := trodAll_cons r0
  obtain ⟨rfl, rfl, rfl⟩ := trodAll_nil r1
  obtain rfl : args = #[v0, v1] := by cases args; simp_all
  obtain ⟨rfl, rfl⟩ := trodVars_none hV
  obtain ⟨n0, rfl, rfl, rfl, w0⟩ := open_int Go.Proofs.Tryd.underlying5 (hval 0 5 v0 rfl rfl) h0
  obtain ⟨l, ha⟩ := argOct_of Go.Proofs.Tryd.underlying22 Go.Proofs.Tryd.underlying5 (by kernel_rfl) (hval 1 22 v1 rfl rfl) h1
  have lt1 : ∀ x ∈ p1, x.block < W.heap.size := by obtain ⟨m, hm⟩ := h1; exact DataW.trod_lt m _ _ _ hm
  rw [MakeChecks.laidMetH_plain _ _ _ (by kernel_rfl)] at hL
  obtain ⟨a1, s1, hv1, _⟩ := laid_sentinel hL gO gT Go.Proofs.Tryd.underlying60 rowP Go.Proofs.Tryd.underlying301 Go.Proofs.Tryd.underlying319 rfl rfl Go.Proofs.Tryd.underlying9 cS cStr
  have hg : W.cell? ⟨1, 0, none⟩ = some (.iface 301 (.pointer (some a1))) := by simpa using World.var?_cell gO hv1 0
  clear hA0 hval0
  refine Calls.mono (call_lawU baseS fnsS implT specT (by decide) (by decide) (by decide) lawT fd_law (n := n0) ha hg) fun e W' ⟨v', he, hv', hm⟩ => ?_
  subst he hv'
  have bel := hm.below
  exact ⟨_, rfl, _, _, _, [], _, [], hW', trodAll_mk1 (shut_bool Go.Proofs.Tryd.underlying4 _), trodAll_cons_mk (shut_int Go.Proofs.Tryd.underlying5 w0) (trodAll_cons_mk (Below.trod laidOut (by kernel_rfl) (of_decide_eq_true (by kernel_rfl)) h1 bel lt1) trodAll_mk0), rfl, bel.frame _, fun h => by cases h⟩

set_option maxHeartbeats 4000000 in
theorem joined : joinedFacts Go.Proofs.Tryd.prog 6 Go.Proofs.Tryd.f6 Rows.fnUnsafeDeleteTopicsResponseSpec Rows.fnUnsafeDeleteTopicsResponseRow = true := by
  unfold joinedFacts
  exact bandT (bandT (bandT (bandT (bandT (bandT (bandT (bandT (bandT (bandT (bandT (bandT (bandT (bandT (bandT (bandT (bandT (bandT (bandT (bandT (bandT (bandT (bandT (bandT (bandT (bandT (bandT (bandT (bandT (bandT (bandT (by as_aux_lemma => kernel_rfl) laidOut) mapsRowedS) (by as_aux_lemma => kernel_rfl)) (by as_aux_lemma => kernel_rfl)) (by as_aux_lemma => kernel_rfl)) (by as_aux_lemma => kernel_rfl)) (by as_aux_lemma => kernel_rfl)) (by as_aux_lemma => kernel_rfl)) (by as_aux_lemma => kernel_rfl)) (by as_aux_lemma => kernel_rfl)) (by as_aux_lemma => kernel_rfl)) (by as_aux_lemma => kernel_rfl)) (by as_aux_lemma => kernel_rfl)) (by as_aux_lemma => kernel_rfl)) (by as_aux_lemma => kernel_rfl)) (by as_aux_lemma => kernel_rfl)) (by as_aux_lemma => kernel_rfl)) (by as_aux_lemma => kernel_rfl)) (by as_aux_lemma => kernel_rfl)) (by as_aux_lemma => kernel_rfl)) (by as_aux_lemma => kernel_rfl)) plainKeysS) (by as_aux_lemma => kernel_rfl)) stopsHeardS) bigEnter) bigLifts) bigMake) (by as_aux_lemma => kernel_rfl)) (by as_aux_lemma => kernel_rfl)) (by as_aux_lemma => kernel_rfl)) (by as_aux_lemma => kernel_rfl)
theorem named : Go.Proofs.Tryd.prog.funcNamed Rows.fnUnsafeDeleteTopicsResponseRow.func = some 6 := by kernel_rfl
theorem isInst : Go.Proofs.Tryd.f6.isInstance Go.Proofs.Tryd.prog Rows.fnUnsafeDeleteTopicsResponseRow.origin Rows.fnUnsafeDeleteTopicsResponseRow.targs := of_decide_eq_true (by kernel_rfl)
theorem isWrap : Go.Proofs.Tryd.f6.isWrapper Go.Proofs.Tryd.prog Rows.fnUnsafeDeleteTopicsResponseRow.wrapper Rows.fnUnsafeDeleteTopicsResponseRow.mainSum := by unfold Func.isWrapper; first | (rw [if_pos (by decide +kernel)]; kernel_rfl) | (rw [if_neg (by decide +kernel)]; exact ⟨rfl, rfl⟩)
theorem row : Rows.FnUnsafeDeleteTopicsResponseSaid :=
  OpenClaim.holds_of_wide 6 Go.Proofs.Tryd.f6 rfl rfl rfl rfl rfl rfl rfl ⟨rfl, rfl, rfl, rfl, rfl⟩ rfl rfl rfl rfl rfl named Go.Proofs.Tryd.func6 joined
    isInst isWrap
    (fun os started H enc _ => lifted os started H enc)
end Go.Proofs.YtdlfgheckhmgiaaDoor.fnUnsafeDeleteTopicsResponse

namespace Go.Proofs.YtdlfgheckhmgiaaDoor
open Go.Kf
set_option maxHeartbeats 4000000 in
theorem fnUnsafeDeleteTopicsResponse_card : Rows.FnUnsafeDeleteTopicsResponseCardSaid :=
  Claim7.holds_tied_plain_at .later [] [.sentinel] true Rows.fnUnsafeDeleteTopicsResponseCard.stood.harness false
    fnUnsafeDeleteTopicsResponse.row (fun _ h => by cases h) (by as_aux_lemma => kernel_rfl) (fun _ h => by cases h) fnUnsafeDeleteTopicsResponse_row_tie rfl ⟨rfl, rfl⟩ mainS rfl
    (fun f fn hf hfn => by
      obtain rfl : f = 6 := Option.some.inj (fnUnsafeDeleteTopicsResponse.named.symm.trans hf) |>.symm
      obtain rfl : fn = Go.Proofs.Tryd.f6 := (Option.some.inj (Go.Proofs.Tryd.func6.symm.trans hfn)).symm
      refine ⟨looksS, fun j t ht => ?_⟩
      rw [Go.Proofs.Tryd.params6] at ht
      rcases j with _ | _ | j
      · obtain rfl : 5 = t := by simpa using ht
        exact (show Go.Proofs.Tryd.prog.wantsStandIn 5 = false by kernel_rfl)
      · obtain rfl : 22 = t := by simpa using ht
        exact (show Go.Proofs.Tryd.prog.wantsStandIn 22 = false by kernel_rfl)
      · simp at ht)
    (by as_aux_lemma => kernel_rfl)
#print axioms fnUnsafeDeleteTopicsResponse_card
end Go.Proofs.YtdlfgheckhmgiaaDoor
