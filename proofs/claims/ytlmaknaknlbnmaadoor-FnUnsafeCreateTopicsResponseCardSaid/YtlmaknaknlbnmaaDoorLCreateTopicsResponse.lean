/- Both ways of reading tell the same of any octets as a CreateTopicsResponse (laws.FnUnsafeCreateTopicsResponse): the tied card is proved, at every version number and all octets; no other condition. -/
import Derived.Test.YtlmaknaknlbnmaaDoorKs
set_option linter.unusedSimpArgs false
set_option linter.unusedVariables false
set_option maxRecDepth 100000
namespace Go.Kf
open Go

def tf : TypeId → FuncId × FuncId := fun | 148 => (112, 129) | 112 => (66, 113) | _ => (0, 0)

def rCreateTopicsResponseTopicConfig : Fds := .cons .all (.txt .str) (.cons .all (.txt .nstr) (.cons .all (.pr .bool none) (.cons .all (.pr .i8 (some (.int .i8 (-1)))) (.cons .all (.pr .bool none) (.tags none)))))
theorem df_CreateTopicsResponseTopicConfig : FOk Go.Proofs.Tryd.prog 109 1 (seqs (rCreateTopicsResponseTopicConfig.dfl NS 148 0)) [] := ⟨Go.Proofs.Tryd.f109, _, [0], Go.Proofs.Tryd.func109, rfl, by kernel_rfl, by kernel_rfl, by decide, by kernel_rfl, by kernel_rfl⟩
theorem ft_CreateTopicsResponseTopicConfig : FOk Go.Proofs.Tryd.prog 112 1 (tellC NS tf 148 0 129 rCreateTopicsResponseTopicConfig) [.cell 1 NS.zp] := ⟨Go.Proofs.Tryd.f112, _, [0, 2, 3], Go.Proofs.Tryd.func112, rfl, by kernel_rfl, by kernel_rfl, by decide, by kernel_rfl, by kernel_rfl⟩
theorem fc_CreateTopicsResponseTopicConfig : FOk Go.Proofs.Tryd.prog 129 3 (cTagFn NS) [] := ⟨Go.Proofs.Tryd.f129, _, [0, 1, 2], Go.Proofs.Tryd.func129, rfl, by kernel_rfl, by kernel_rfl, by decide, by kernel_rfl, by kernel_rfl⟩
theorem tl_CreateTopicsResponseTopicConfig : TellP Go.Proofs.Tryd.prog 112 0 rCreateTopicsResponseTopicConfig := tellP baseS fnsS implT tellN (tf := tf) (Tt := 148) (idx0 := 0) ft_CreateTopicsResponseTopicConfig (fun _ => fc_CreateTopicsResponseTopicConfig) ⟨trivial, ⟨⟨by decide, by decide⟩, ⟨(show NS.zge ≠ 0 by decide), ⟨(show NS.ziq ≠ 0 by decide), ⟨(show NS.zge ≠ 0 by decide), trivial⟩⟩⟩⟩⟩ (Fds.ok_of (fx := true) (Tt := 148) (idx := 0) (off := 0) baseS fnsS rCreateTopicsResponseTopicConfig (by kernel_rfl) ⟨trivial, ⟨trivial, ⟨trivial, ⟨trivial, ⟨trivial, trivial⟩⟩⟩⟩⟩).2.1 (by decide)

def rCreateTopicsResponseTopic : Fds := .cons .all (.txt .str) (.cons (.ge 7) (.pr .uuid none) (.cons .all (.pr .i16 none) (.cons (.ge 1) (.txt .nstr) (.cons .never (.pr .i16 none) (.cons (.ge 5) (.pr .i32 (some (.int .i32 (-1)))) (.cons (.ge 5) (.pr .i16 (some (.int .i16 (-1)))) (.cons (.ge 5) (.arr 110 (some (0)) (.row 148 145 109 (.cons .all (.txt .str) (.cons .all (.txt .nstr) (.cons .all (.pr .bool none) (.cons .all (.pr .i8 (some (.int .i8 (-1)))) (.cons .all (.pr .bool none) (.tags none)))))))) ((.tags (some 4))))))))))
theorem df_CreateTopicsResponseTopic : FOk Go.Proofs.Tryd.prog 108 1 (seqs (rCreateTopicsResponseTopic.dfl NS 112 0)) [] := ⟨Go.Proofs.Tryd.f108, _, [0], Go.Proofs.Tryd.func108, rfl, by kernel_rfl, by kernel_rfl, by decide, by kernel_rfl, by kernel_rfl⟩
theorem ft_CreateTopicsResponseTopic : FOk Go.Proofs.Tryd.prog 66 1 (tellC NS tf 112 0 113 rCreateTopicsResponseTopic) [.cell 1 NS.zp] := ⟨Go.Proofs.Tryd.f66, _, [0, 2, 3, 82, 83, 84, 4, 87, 99, 100, 102], Go.Proofs.Tryd.func66, rfl, by kernel_rfl, by kernel_rfl, by decide, by kernel_rfl, by kernel_rfl⟩
theorem fc_CreateTopicsResponseTopic : FOk Go.Proofs.Tryd.prog 113 3 (cTagFn NS) [] := ⟨Go.Proofs.Tryd.f113, _, [0, 1, 2], Go.Proofs.Tryd.func113, rfl, by kernel_rfl, by kernel_rfl, by decide, by kernel_rfl, by kernel_rfl⟩
theorem tl_CreateTopicsResponseTopic : TellP Go.Proofs.Tryd.prog 66 0 rCreateTopicsResponseTopic := tellP baseS fnsS implT tellN (tf := tf) (Tt := 112) (idx0 := 0) ft_CreateTopicsResponseTopic (fun _ => fc_CreateTopicsResponseTopic) ⟨trivial, ⟨(show NS.zba ≠ 0 by decide), ⟨trivial, ⟨⟨by decide, by decide⟩, ⟨trivial, ⟨trivial, ⟨trivial, ⟨⟨zfw (by kernel_rfl), el_ti (fx := true) baseS fnsS _ (by kernel_rfl) ⟨df_CreateTopicsResponseTopicConfig, ⟨trivial, ⟨trivial, ⟨trivial, ⟨trivial, ⟨trivial, trivial⟩⟩⟩⟩⟩⟩, tl_CreateTopicsResponseTopicConfig⟩, trivial⟩⟩⟩⟩⟩⟩⟩⟩ (Fds.ok_of (fx := true) (Tt := 112) (idx := 0) (off := 0) baseS fnsS rCreateTopicsResponseTopic (by kernel_rfl) ⟨trivial, ⟨trivial, ⟨trivial, ⟨trivial, ⟨trivial, ⟨trivial, ⟨trivial, ⟨⟨df_CreateTopicsResponseTopicConfig, ⟨trivial, ⟨trivial, ⟨trivial, ⟨trivial, ⟨trivial, trivial⟩⟩⟩⟩⟩⟩, trivial⟩⟩⟩⟩⟩⟩⟩⟩).2.1 (by decide)

def mS : Msg := ⟨106, 58, 64, 5, false, .cons (.ge 2) (.pr .i32 none) (.cons .all (.arr 104 none (.row 112 108 108 (.cons .all (.txt .str) (.cons (.ge 7) (.pr .uuid none) (.cons .all (.pr .i16 none) (.cons (.ge 1) (.txt .nstr) (.cons .never (.pr .i16 none) (.cons (.ge 5) (.pr .i32 (some (.int .i32 (-1)))) (.cons (.ge 5) (.pr .i16 (some (.int .i16 (-1)))) (.cons (.ge 5) (.arr 110 (some (0)) (.row 148 145 109 (.cons .all (.txt .str) (.cons .all (.txt .nstr) (.cons .all (.pr .bool none) (.cons .all (.pr .i8 (some (.int .i8 (-1)))) (.cons .all (.pr .bool none) (.tags none)))))))) ((.tags (some 4))))))))))))) (.tags none))⟩
def dS : zqe where
  newP := 41
  setV := 43
  maxV := 42
  readF := 44
  unsF := 46
  readf := 65
  tell := 45
  maxI := 19
  tellI := 20
  unsI := 21
theorem rd_m : FOk Go.Proofs.Tryd.prog 65 3 (mS.gen NS true) [.var 3] := ⟨Go.Proofs.Tryd.f65, _, [0, 1, 2, 6, 7, 8, 9, 10, 54, 11, 12, 13, 14, 65, 69, 74, 15, 80, 16, 17, 18, 89, 90, 93, 101, 19, 20, 113, 21, 114, 115, 118, 126, 22, 133, 23, 140, 24, 25, 26, 146, 154, 157, 162, 27, 168, 28, 29, 30, 177, 178, 181, 31, 188, 189, 192, 32, 33, 34, 214, 224, 35, 227, 36, 231, 240, 37, 38, 39, 253, 260], Go.Proofs.Tryd.func65, rfl, by kernel_rfl, by kernel_rfl, by decide, by kernel_rfl, by kernel_rfl⟩
theorem df_m : FOk Go.Proofs.Tryd.prog 64 1 (seqs (mS.fs.dfl NS mS.tT 1)) [] := ⟨Go.Proofs.Tryd.f64, _, [0], Go.Proofs.Tryd.func64, rfl, by kernel_rfl, by kernel_rfl, by decide, by kernel_rfl, by kernel_rfl⟩
theorem mt : MsgT Go.Proofs.Tryd.prog NS mS true := msgT_of baseS fnsS (by kernel_rfl) (by kernel_rfl) (by kernel_rfl) (by kernel_rfl) ⟨trivial, ⟨⟨df_CreateTopicsResponseTopic, ⟨trivial, ⟨trivial, ⟨trivial, ⟨trivial, ⟨trivial, ⟨trivial, ⟨trivial, ⟨⟨df_CreateTopicsResponseTopicConfig, ⟨trivial, ⟨trivial, ⟨trivial, ⟨trivial, ⟨trivial, trivial⟩⟩⟩⟩⟩⟩, trivial⟩⟩⟩⟩⟩⟩⟩⟩⟩, trivial⟩⟩ df_m
theorem ft_CreateTopicsResponse : FOk Go.Proofs.Tryd.prog 45 1 (tellC NS tf 106 1 67 mS.fs) [.cell 1 NS.zp] := ⟨Go.Proofs.Tryd.f45, _, [0, 2, 3, 29, 30, 31, 4, 34, 46, 47, 49], Go.Proofs.Tryd.func45, rfl, by kernel_rfl, by kernel_rfl, by decide, by kernel_rfl, by kernel_rfl⟩
theorem fc_CreateTopicsResponse : FOk Go.Proofs.Tryd.prog 67 3 (cTagFn NS) [] := ⟨Go.Proofs.Tryd.f67, _, [0, 1, 2], Go.Proofs.Tryd.func67, rfl, by kernel_rfl, by kernel_rfl, by decide, by kernel_rfl, by kernel_rfl⟩
theorem tl_CreateTopicsResponse : TellP Go.Proofs.Tryd.prog 45 1 mS.fs := tellP baseS fnsS implT tellN (tf := tf) (Tt := 106) (idx0 := 1) ft_CreateTopicsResponse (fun _ => fc_CreateTopicsResponse) ⟨trivial, ⟨⟨zfw (by kernel_rfl), el_ti (fx := true) baseS fnsS _ (by kernel_rfl) ⟨df_CreateTopicsResponseTopic, ⟨trivial, ⟨trivial, ⟨trivial, ⟨trivial, ⟨trivial, ⟨trivial, ⟨trivial, ⟨⟨df_CreateTopicsResponseTopicConfig, ⟨trivial, ⟨trivial, ⟨trivial, ⟨trivial, ⟨trivial, trivial⟩⟩⟩⟩⟩⟩, trivial⟩⟩⟩⟩⟩⟩⟩⟩⟩, tl_CreateTopicsResponseTopic⟩, trivial⟩⟩ mt.hf (by decide)
theorem fd_new : FOk Go.Proofs.Tryd.prog 41 0 (c_new NS mS.tT mS.dflt) [.var 0] := ⟨Go.Proofs.Tryd.f41, _, [0, 1], Go.Proofs.Tryd.func41, rfl, by kernel_rfl, by kernel_rfl, by decide, by kernel_rfl, by kernel_rfl⟩
theorem fd_set : FOk Go.Proofs.Tryd.prog 43 2 (c_set NS mS.tT) [] := ⟨Go.Proofs.Tryd.f43, _, [0, 1], Go.Proofs.Tryd.func43, rfl, by kernel_rfl, by kernel_rfl, by decide, by kernel_rfl, by kernel_rfl⟩
theorem door : zti Go.Proofs.Tryd.prog NS mS true dS where
  msg := mt
  vin := rfl
  ti := (tsB_ok (by' := zta Go.Proofs.Tryd.prog 106) (by kernel_rfl)).imp fun _ h => ⟨_, h⟩
  newP := fd_new
  setV := fd_set
  readf := rd_m
  tell := fun _ => tl_CreateTopicsResponse
  dok := ⟨⟨_, rfl, by decide⟩, ⟨⟨⟨List.replicate 16 0, rfl, rfl⟩, ⟨⟨_, rfl, by decide⟩, ⟨⟨_, rfl, by decide⟩, ⟨⟨_, rfl, by decide⟩, ⟨⟨_, rfl, by decide⟩, ⟨⟨⟨_, rfl⟩, ⟨⟨_, rfl, by decide⟩, ⟨⟨_, rfl⟩, trivial⟩⟩⟩, trivial⟩⟩⟩⟩⟩⟩, trivial⟩⟩
  shB := by kernel_rfl
  cnt := by decide
theorem fd_rf : FOk Go.Proofs.Tryd.prog 44 2 (c_rf NS mS.pT 65 false) [.var 2] := ⟨Go.Proofs.Tryd.f44, _, [0, 1, 4], Go.Proofs.Tryd.func44, rfl, by kernel_rfl, by kernel_rfl, by decide, by kernel_rfl, by kernel_rfl⟩
theorem fd_uf : FOk Go.Proofs.Tryd.prog 46 2 (c_rf NS mS.pT 65 true) [.var 2] := ⟨Go.Proofs.Tryd.f46, _, [0, 1, 4], Go.Proofs.Tryd.func46, rfl, by kernel_rfl, by kernel_rfl, by decide, by kernel_rfl, by kernel_rfl⟩
theorem fd_mv : FOk Go.Proofs.Tryd.prog 42 1 (c_max 7) [.var 1] := ⟨Go.Proofs.Tryd.f42, _, [0, 2], Go.Proofs.Tryd.func42, rfl, by kernel_rfl, by kernel_rfl, by decide, by kernel_rfl, by kernel_rfl⟩
theorem fd_mi : FOk Go.Proofs.Tryd.prog 19 0 (c_maxI NS mS.pT 41 42) [.var 0] := ⟨Go.Proofs.Tryd.f19, _, [0], Go.Proofs.Tryd.func19, rfl, by kernel_rfl, by kernel_rfl, by decide, by kernel_rfl, by kernel_rfl⟩
theorem fd_tellI : FOk Go.Proofs.Tryd.prog 20 2 (c_door NS mS.pT 41 43 44 45) [.cell 2 NS.zp, .var 3] := ⟨Go.Proofs.Tryd.f20, _, [0, 1, 4, 5, 6, 16], Go.Proofs.Tryd.func20, rfl, by kernel_rfl, by kernel_rfl, by decide, by kernel_rfl, by kernel_rfl⟩
theorem fd_unsI : FOk Go.Proofs.Tryd.prog 21 2 (c_door NS mS.pT 41 43 46 45) [.cell 2 NS.zp, .var 3] := ⟨Go.Proofs.Tryd.f21, _, [0, 1, 4, 5, 6, 16], Go.Proofs.Tryd.func21, rfl, by kernel_rfl, by kernel_rfl, by decide, by kernel_rfl, by kernel_rfl⟩
theorem lawT : LawT Go.Proofs.Tryd.prog NS mS true dS 7 := ⟨door, fd_rf, fd_uf, fd_mv, fd_mi, fd_tellI, fd_unsI, by decide, by decide, by decide⟩
theorem fd_law : FOk Go.Proofs.Tryd.prog 6 2 (c_lawU NS 28 dS.maxI dS.tellI dS.unsI 1000) [.var 2] := ⟨Go.Proofs.Tryd.f6, _, [0, 1, 4, 12, 5, 15, 18, 6, 7, 8, 9], Go.Proofs.Tryd.func6, rfl, by kernel_rfl, by kernel_rfl, by decide, by kernel_rfl, by kernel_rfl⟩
end Go.Kf

namespace Go.Proofs.YtlmaknaknlbnmaaDoor.fnUnsafeCreateTopicsResponse
open Go.ChangeShapes Go.WideShapes Go.ChangeAt Go.RowKit Go.Kf

set_option maxHeartbeats 4000000 in
theorem lifted (os : Os) (started : os.Started) (H : Type) (enc : TypeId × Value → H) :
    ReturnsInHanded {} Go.Proofs.Tryd.checked os 6 .any (fun w args => (Rows.fnUnsafeCreateTopicsResponseSpec.pre enc Go.Proofs.Tryd.prog Go.Proofs.Tryd.f6 [] false w args ∧ laidMetH Go.Proofs.Tryd.prog Rows.fnUnsafeCreateTopicsResponseRow.laid w) ∧ sizedMet enc Go.Proofs.Tryd.prog Go.Proofs.Tryd.f6 (OpenSpec.ofChange Rows.fnUnsafeCreateTopicsResponseSpec) false w args)
      (Rows.fnUnsafeCreateTopicsResponseSpec.post enc Go.Proofs.Tryd.prog Go.Proofs.Tryd.f6 false true false false) := by
  refine returnsInHanded_of_change_and (C := Go.Proofs.Tryd.checked) (X := fun w _ => laidMetH Go.Proofs.Tryd.prog Rows.fnUnsafeCreateTopicsResponseRow.laid w) (fun _ _ _ hh h => h.of_heap hh) own started (by kernel_rfl) Go.Proofs.Tryd.func6
    (ChangeSpec.witness_shaped (enc := enc) (C := Go.Proofs.Tryd.checked) (os := os) (X := fun w _ => laidMetH Go.Proofs.Tryd.prog Rows.fnUnsafeCreateTopicsResponseRow.laid w) false (World.doorLaid Go.Proofs.Tryd.prog 400 os) #[.int .u8 0, .slice none 0 0] 8 rfl (shaped os _) (by kernel_rfl) (by kernel_rfl) (by kernel_rfl) (door_met os _)) ?_
  intro W base args ds gs before hval0 hW _ _ hL _
  have hval : ∀ (j : Nat) t v, Go.Proofs.Tryd.f6.params[j]? = some t → args[j]? = some v → Value.okWide Go.Proofs.Tryd.prog W .any base t v := hval0
  have hW' := hW
  obtain ⟨p, q, hA0, hV, rfl, hfz, hnd⟩ := hW
  have hA : DataW.TrodAll enc Go.Proofs.Tryd.prog W 0 (fun _ => true) true Go.Proofs.Tryd.f6.params.toList args.toList ds p := hA0
  rw [Go.Proofs.Tryd.params6] at hA hval
  obtain ⟨v0, vs0, d0, ds0, p0, q0, hargs, rfl, rfl, h0, r0⟩ := trodAll_cons hA
  obtain ⟨v1, vs1, d1, ds1, p1, q1, rfl, rfl, rfl, h1, r1⟩ := trodAll_cons r0
  obtain ⟨rfl, rfl, rfl⟩ := trodAll_nil r1
  obtain rfl : args = #[v0, v1] := by cases args; simp_all
  obtain ⟨rfl, rfl⟩ := trodVars_none hV
  obtain ⟨n0, rfl, rfl, rfl, w0⟩ := open_int Go.Proofs.Tryd.underlying5 (hval 0 5 v0 rfl rfl) h0
  obtain ⟨l, ha⟩ := argOct_of Go.Proofs.Tryd.underlying22 Go.Proofs.Tryd.underlying5 (by kernel_rfl) (hval 1 22 v1 rfl rfl) h1
  have lt1 : ∀ x ∈ p1, x.block < W.heap.size := by obtain ⟨m, hm⟩ := h1; exact DataW.trod_lt m _ _ _ hm
  rw [MakeChecks.laidMetH_plain _ _ _ (by kernel_rfl)] at hL
  obtain ⟨a1, s1, hv1, _⟩ := laid_sentinel hL gO gT Go.Proofs.Tryd.underlying44 rowP Go.Proofs.Tryd.underlying196 Go.Proofs.Tryd.underlying214 rfl rfl Go.Proofs.Tryd.underlying9 cS cStr
  have hg : W.cell? ⟨1, 0, none⟩ = some (.iface 196 (.pointer (some a1))) := by simpa using World.var?_cell gO hv1 0
  clear hA0 hval0
  refine Calls.mono (call_lawU baseS fnsS implT specT (by decide) (by decide) (by decide) lawT fd_law (n := n0) ha hg) fun e W' ⟨v', he, hv', hm⟩ => ?_
  subst he hv'
  have bel := hm.below
  exact ⟨_, rfl, _, _, _, [], _, [], hW', trodAll_mk1 (shut_bool Go.Proofs.Tryd.underlying4 _), trodAll_cons_mk (shut_int Go.Proofs.Tryd.underlying5 w0) (trodAll_cons_mk (Below.trod laidOut (by kernel_rfl) (of_decide_eq_true (by kernel_rfl)) h1 bel lt1) trodAll_mk0), rfl, bel.frame _, fun h => by cases h⟩

set_option maxHeartbeats 4000000 in
theorem joined : joinedFacts Go.Proofs.Tryd.prog 6 Go.Proofs.Tryd.f6 Rows.fnUnsafeCreateTopicsResponseSpec Rows.fnUnsafeCreateTopicsResponseRow = true := by
  unfold joinedFacts
  exact bandT (bandT (bandT (bandT (bandT (bandT (bandT (bandT (bandT (bandT (bandT (bandT (bandT (bandT (bandT (bandT (bandT (bandT (bandT (bandT (bandT (bandT (bandT (bandT (bandT (bandT (bandT (bandT (bandT (bandT (bandT (by as_aux_lemma => kernel_rfl) laidOut) mapsRowedS) (by as_aux_lemma => kernel_rfl)) (by as_aux_lemma => kernel_rfl)) (by as_aux_lemma => kernel_rfl)) (by as_aux_lemma => kernel_rfl)) (by as_aux_lemma => kernel_rfl)) (by as_aux_lemma => kernel_rfl)) (by as_aux_lemma => kernel_rfl)) (by as_aux_lemma => kernel_rfl)) (by as_aux_lemma => kernel_rfl)) (by as_aux_lemma => kernel_rfl)) (by as_aux_lemma => kernel_rfl)) (by as_aux_lemma => kernel_rfl)) (by as_aux_lemma => kernel_rfl)) (by as_aux_lemma => kernel_rfl)) (by as_aux_lemma => kernel_rfl)) (by as_aux_lemma => kernel_rfl)) (by as_aux_lemma => kernel_rfl)) (by as_aux_lemma => kernel_rfl)) (by as_aux_lemma => kernel_rfl)) plainKeysS) (by as_aux_lemma => kernel_rfl)) stopsHeardS) bigEnter) bigLifts) bigMake) (by as_aux_lemma => kernel_rfl)) (by as_aux_lemma => kernel_rfl)) (by as_aux_lemma => kernel_rfl)) (by as_aux_lemma => kernel_rfl)
theorem named : Go.Proofs.Tryd.prog.funcNamed Rows.fnUnsafeCreateTopicsResponseRow.func = some 6 := by kernel_rfl
theorem isInst : Go.Proofs.Tryd.f6.isInstance Go.Proofs.Tryd.prog Rows.fnUnsafeCreateTopicsResponseRow.origin Rows.fnUnsafeCreateTopicsResponseRow.targs := of_decide_eq_true (by kernel_rfl)
theorem isWrap : Go.Proofs.Tryd.f6.isWrapper Go.Proofs.Tryd.prog Rows.fnUnsafeCreateTopicsResponseRow.wrapper Rows.fnUnsafeCreateTopicsResponseRow.mainSum := by unfold Func.isWrapper; first | (rw [if_pos (by decide +kernel)]; kernel_rfl) | (rw [if_neg (by decide +kernel)]; exact ⟨rfl, rfl⟩)
theorem row : Rows.FnUnsafeCreateTopicsResponseSaid :=
  OpenClaim.holds_of_wide 6 Go.Proofs.Tryd.f6 rfl rfl rfl rfl rfl rfl rfl ⟨rfl, rfl, rfl, rfl, rfl⟩ rfl rfl rfl rfl rfl named Go.Proofs.Tryd.func6 joined
    isInst isWrap
    (fun os started H enc _ => lifted os started H enc)
end Go.Proofs.YtlmaknaknlbnmaaDoor.fnUnsafeCreateTopicsResponse

namespace Go.Proofs.YtlmaknaknlbnmaaDoor
open Go.Kf
set_option maxHeartbeats 4000000 in
theorem fnUnsafeCreateTopicsResponse_card : Rows.FnUnsafeCreateTopicsResponseCardSaid :=
  Claim7.holds_tied_plain_at .later [] [.sentinel] true Rows.fnUnsafeCreateTopicsResponseCard.stood.harness false
    fnUnsafeCreateTopicsResponse.row (fun _ h => by cases h) (by as_aux_lemma => kernel_rfl) (fun _ h => by cases h) fnUnsafeCreateTopicsResponse_row_tie rfl ⟨rfl, rfl⟩ mainS rfl
    (fun f fn hf hfn => by
      obtain rfl : f = 6 := Option.some.inj (fnUnsafeCreateTopicsResponse.named.symm.trans hf) |>.symm
      obtain rfl : fn = Go.Proofs.Tryd.f6 := (Option.some.inj (Go.Proofs.Tryd.func6.symm.trans hfn)).symm
      refine ⟨looksS, fun j t ht => ?_⟩
      rw [Go.Proofs.Tryd.params6] at ht
      rcases j with _ | _ | j
      · obtain rfl : 5 = t := by simpa using ht
        exact (show Go.Proofs.Tryd.prog.wantsStandIn 5 = false by kernel_rfl)
      · obtain rfl : 22 = t := by simpa using ht
        exact (show Go.Proofs.Tryd.prog.wantsStandIn 22 = false by kernel_rfl)
      · simp at ht)
    (by as_aux_lemma => kernel_rfl)
#print axioms fnUnsafeCreateTopicsResponse_card
end Go.Proofs.YtlmaknaknlbnmaaDoor
