/- The two readers of this message tell the same tree of the same octets: the tied card of laws.FnUnsafeDeleteRecordsResponse is proved, at every version number and every row of octets; no condition. -/
import Derived.Test.YtfiedlfmogpanaaDoorKs
set_option linter.unusedSimpArgs false
set_option linter.unusedVariables false
set_option maxRecDepth 100000
namespace Go.Kf
open Go

def tf : TypeId → FuncId × FuncId := fun | 184 => (195, 215) | 151 => (148, 196) | _ => (0, 0)

def rDeleteRecordsResponseTopicPartition : Fds := .cons .all (.pr .i32 none) (.cons .all (.pr .i64 none) (.cons .all (.pr .i16 none) (.tags)))
theorem df_DeleteRecordsResponseTopicPartition : FOk Go.Proofs.Tryd.prog 194 1 (seqs (rDeleteRecordsResponseTopicPartition.dfl NS 184 0)) [] := ⟨Go.Proofs.Tryd.f194, _, [0], Go.Proofs.Tryd.func194, rfl, by kernel_rfl, by kernel_rfl, by decide, by kernel_rfl, by kernel_rfl⟩
theorem ft_DeleteRecordsResponseTopicPartition : FOk Go.Proofs.Tryd.prog 195 1 (tellC NS tf 184 0 215 rDeleteRecordsResponseTopicPartition) [.cell 1 NS.t_Tree] := ⟨Go.Proofs.Tryd.f195, _, [0, 2, 3], Go.Proofs.Tryd.func195, rfl, by kernel_rfl, by kernel_rfl, by decide, by kernel_rfl, by kernel_rfl⟩
theorem fc_DeleteRecordsResponseTopicPartition : FOk Go.Proofs.Tryd.prog 215 3 (cTagFn NS) [] := ⟨Go.Proofs.Tryd.f215, _, [0, 1, 2], Go.Proofs.Tryd.func215, rfl, by kernel_rfl, by kernel_rfl, by decide, by kernel_rfl, by kernel_rfl⟩
theorem tl_DeleteRecordsResponseTopicPartition : TellP Go.Proofs.Tryd.prog 195 0 rDeleteRecordsResponseTopicPartition := tellP baseS fnsS implT tellN (tf := tf) (Tt := 184) (idx0 := 0) ft_DeleteRecordsResponseTopicPartition (fun _ => fc_DeleteRecordsResponseTopicPartition) ⟨trivial, ⟨trivial, ⟨trivial, trivial⟩⟩⟩ (Fds.ok_of (fx := true) (Tt := 184) (idx := 0) (off := 0) baseS fnsS rDeleteRecordsResponseTopicPartition (by kernel_rfl) ⟨trivial, ⟨trivial, ⟨trivial, trivial⟩⟩⟩).2.1 (by decide)

def rDeleteRecordsResponseTopic : Fds := .cons .all (.txt .str) (.cons .all (.arr 149 none (.row 184 182 194 (.cons .all (.pr .i32 none) (.cons .all (.pr .i64 none) (.cons .all (.pr .i16 none) (.tags)))))) (.tags))
theorem df_DeleteRecordsResponseTopic : FOk Go.Proofs.Tryd.prog 193 1 (seqs (rDeleteRecordsResponseTopic.dfl NS 151 0)) [] := ⟨Go.Proofs.Tryd.f193, _, [0], Go.Proofs.Tryd.func193, rfl, by kernel_rfl, by kernel_rfl, by decide, by kernel_rfl, by kernel_rfl⟩
theorem ft_DeleteRecordsResponseTopic : FOk Go.Proofs.Tryd.prog 148 1 (tellC NS tf 151 0 196 rDeleteRecordsResponseTopic) [.cell 1 NS.t_Tree] := ⟨Go.Proofs.Tryd.f148, _, [0, 2, 3, 29, 30, 31, 4, 34, 46, 47, 49], Go.Proofs.Tryd.func148, rfl, by kernel_rfl, by kernel_rfl, by decide, by kernel_rfl, by kernel_rfl⟩
theorem fc_DeleteRecordsResponseTopic : FOk Go.Proofs.Tryd.prog 196 3 (cTagFn NS) [] := ⟨Go.Proofs.Tryd.f196, _, [0, 1, 2], Go.Proofs.Tryd.func196, rfl, by kernel_rfl, by kernel_rfl, by decide, by kernel_rfl, by kernel_rfl⟩
theorem tl_DeleteRecordsResponseTopic : TellP Go.Proofs.Tryd.prog 148 0 rDeleteRecordsResponseTopic := tellP baseS fnsS implT tellN (tf := tf) (Tt := 151) (idx0 := 0) ft_DeleteRecordsResponseTopic (fun _ => fc_DeleteRecordsResponseTopic) ⟨trivial, ⟨⟨tiB_ok (by kernel_rfl), el_ti (fx := true) baseS fnsS _ (by kernel_rfl) ⟨df_DeleteRecordsResponseTopicPartition, ⟨trivial, ⟨trivial, ⟨trivial, trivial⟩⟩⟩⟩, tl_DeleteRecordsResponseTopicPartition⟩, trivial⟩⟩ (Fds.ok_of (fx := true) (Tt := 151) (idx := 0) (off := 0) baseS fnsS rDeleteRecordsResponseTopic (by kernel_rfl) ⟨trivial, ⟨⟨df_DeleteRecordsResponseTopicPartition, ⟨trivial, ⟨trivial, ⟨trivial, trivial⟩⟩⟩⟩, trivial⟩⟩).2.1 (by decide)

/-- The message's schema. -/
def mS : Msg := ⟨146, 93, 146, 2, false, .cons .all (.pr .i32 none) (.cons .all (.arr 144 none (.row 151 148 193 (.cons .all (.txt .str) (.cons .all (.arr 149 none (.row 184 182 194 (.cons .all (.pr .i32 none) (.cons .all (.pr .i64 none) (.cons .all (.pr .i16 none) (.tags)))))) (.tags))))) (.tags))⟩
def dS : DoorN where
  newP := 103
  setV := 105
  maxV := 104
  readF := 106
  unsF := 108
  readf := 147
  tell := 107
  maxI := 44
  tellI := 45
  unsI := 46
theorem rd_m : FOk Go.Proofs.Tryd.prog 147 3 (mS.gen NS true) [.var 3] := ⟨Go.Proofs.Tryd.f147, _, [0, 1, 2, 6, 7, 8, 9, 10, 11, 12, 13, 14, 51, 55, 60, 15, 66, 16, 17, 18, 75, 76, 79, 19, 20, 21, 91, 95, 100, 22, 106, 23, 24, 25, 26, 27, 130, 140, 150], Go.Proofs.Tryd.func147, rfl, by kernel_rfl, by kernel_rfl, by decide, by kernel_rfl, by kernel_rfl⟩
theorem df_m : FOk Go.Proofs.Tryd.prog 146 1 (seqs (mS.fs.dfl NS mS.tT 1)) [] := ⟨Go.Proofs.Tryd.f146, _, [0], Go.Proofs.Tryd.func146, rfl, by kernel_rfl, by kernel_rfl, by decide, by kernel_rfl, by kernel_rfl⟩
theorem mt : MsgT Go.Proofs.Tryd.prog NS mS true := msgT_of baseS fnsS (by kernel_rfl) (by kernel_rfl) (by kernel_rfl) ⟨trivial, ⟨⟨df_DeleteRecordsResponseTopic, ⟨trivial, ⟨⟨df_DeleteRecordsResponseTopicPartition, ⟨trivial, ⟨trivial, ⟨trivial, trivial⟩⟩⟩⟩, trivial⟩⟩⟩, trivial⟩⟩ df_m
theorem ft_DeleteRecordsResponse : FOk Go.Proofs.Tryd.prog 107 1 (tellC NS tf 146 1 149 mS.fs) [.cell 1 NS.t_Tree] := ⟨Go.Proofs.Tryd.f107, _, [0, 2, 3, 29, 30, 31, 4, 34, 46, 47, 49], Go.Proofs.Tryd.func107, rfl, by kernel_rfl, by kernel_rfl, by decide, by kernel_rfl, by kernel_rfl⟩
theorem fc_DeleteRecordsResponse : FOk Go.Proofs.Tryd.prog 149 3 (cTagFn NS) [] := ⟨Go.Proofs.Tryd.f149, _, [0, 1, 2], Go.Proofs.Tryd.func149, rfl, by kernel_rfl, by kernel_rfl, by decide, by kernel_rfl, by kernel_rfl⟩
theorem tl_DeleteRecordsResponse : TellP Go.Proofs.Tryd.prog 107 1 mS.fs := tellP baseS fnsS implT tellN (tf := tf) (Tt := 146) (idx0 := 1) ft_DeleteRecordsResponse (fun _ => fc_DeleteRecordsResponse) ⟨trivial, ⟨⟨tiB_ok (by kernel_rfl), el_ti (fx := true) baseS fnsS _ (by kernel_rfl) ⟨df_DeleteRecordsResponseTopic, ⟨trivial, ⟨⟨df_DeleteRecordsResponseTopicPartition, ⟨trivial, ⟨trivial, ⟨trivial, trivial⟩⟩⟩⟩, trivial⟩⟩⟩, tl_DeleteRecordsResponseTopic⟩, trivial⟩⟩ mt.hf (by decide)
theorem fd_new : FOk Go.Proofs.Tryd.prog 103 0 (c_new NS mS.tT mS.dflt) [.var 0] := ⟨Go.Proofs.Tryd.f103, _, [0, 1], Go.Proofs.Tryd.func103, rfl, by kernel_rfl, by kernel_rfl, by decide, by kernel_rfl, by kernel_rfl⟩
theorem fd_set : FOk Go.Proofs.Tryd.prog 105 2 (c_set NS mS.tT) [] := ⟨Go.Proofs.Tryd.f105, _, [0, 1], Go.Proofs.Tryd.func105, rfl, by kernel_rfl, by kernel_rfl, by decide, by kernel_rfl, by kernel_rfl⟩
theorem door : DoorT Go.Proofs.Tryd.prog NS mS true dS where
  msg := mt
  vin := rfl
  ti := (tsB_ok (by' := bytesOf Go.Proofs.Tryd.prog 146) (by kernel_rfl)).imp fun _ h => ⟨_, h⟩
  newP := fd_new
  setV := fd_set
  readf := rd_m
  tell := tl_DeleteRecordsResponse
  dok := ⟨⟨_, rfl, by decide⟩, ⟨⟨⟨⟨_, rfl, by decide⟩, ⟨⟨_, rfl, by decide⟩, ⟨⟨_, rfl, by decide⟩, trivial⟩⟩⟩, trivial⟩, trivial⟩⟩
  shB := by kernel_rfl
  cnt := by decide
theorem fd_rf : FOk Go.Proofs.Tryd.prog 106 2 (c_rf NS mS.pT 147 false) [.var 2] := ⟨Go.Proofs.Tryd.f106, _, [0, 1, 4], Go.Proofs.Tryd.func106, rfl, by kernel_rfl, by kernel_rfl, by decide, by kernel_rfl, by kernel_rfl⟩
theorem fd_uf : FOk Go.Proofs.Tryd.prog 108 2 (c_rf NS mS.pT 147 true) [.var 2] := ⟨Go.Proofs.Tryd.f108, _, [0, 1, 4], Go.Proofs.Tryd.func108, rfl, by kernel_rfl, by kernel_rfl, by decide, by kernel_rfl, by kernel_rfl⟩
theorem fd_mv : FOk Go.Proofs.Tryd.prog 104 1 (c_max 2) [.var 1] := ⟨Go.Proofs.Tryd.f104, _, [0, 2], Go.Proofs.Tryd.func104, rfl, by kernel_rfl, by kernel_rfl, by decide, by kernel_rfl, by kernel_rfl⟩
theorem fd_mi : FOk Go.Proofs.Tryd.prog 44 0 (c_maxI NS mS.pT 103 104) [.var 0] := ⟨Go.Proofs.Tryd.f44, _, [0], Go.Proofs.Tryd.func44, rfl, by kernel_rfl, by kernel_rfl, by decide, by kernel_rfl, by kernel_rfl⟩
theorem fd_tellI : FOk Go.Proofs.Tryd.prog 45 2 (c_door NS mS.pT 103 105 106 107) [.cell 2 NS.t_Tree, .var 3] := ⟨Go.Proofs.Tryd.f45, _, [0, 1, 4, 5, 6, 16], Go.Proofs.Tryd.func45, rfl, by kernel_rfl, by kernel_rfl, by decide, by kernel_rfl, by kernel_rfl⟩
theorem fd_unsI : FOk Go.Proofs.Tryd.prog 46 2 (c_door NS mS.pT 103 105 108 107) [.cell 2 NS.t_Tree, .var 3] := ⟨Go.Proofs.Tryd.f46, _, [0, 1, 4, 5, 6, 16], Go.Proofs.Tryd.func46, rfl, by kernel_rfl, by kernel_rfl, by decide, by kernel_rfl, by kernel_rfl⟩
theorem lawT : LawT Go.Proofs.Tryd.prog NS mS true dS 2 := ⟨door, fd_rf, fd_uf, fd_mv, fd_mi, fd_tellI, fd_unsI, by decide, by decide⟩
theorem fd_law : FOk Go.Proofs.Tryd.prog 12 2 (c_lawU NS 28 dS.maxI dS.tellI dS.unsI 1000) [.var 2] := ⟨Go.Proofs.Tryd.f12, _, [0, 1, 4, 12, 5, 15, 18, 6, 7, 8, 9], Go.Proofs.Tryd.func12, rfl, by kernel_rfl, by kernel_rfl, by decide, by kernel_rfl, by kernel_rfl⟩
end Go.Kf

namespace Go.Proofs.YtfiedlfmogpanaaDoor.fnUnsafeDeleteRecordsResponse
open Go.ChangeShapes Go.WideShapes Go.ChangeAt Go.RowKit Go.Kf

theorem lifted (os : Os) (started : os.Started) (H : Type) (enc : TypeId × Value → H) :
    ReturnsInHanded {} Go.Proofs.Tryd.checked os 12 .any (fun w args => (Rows.fnUnsafeDeleteRecordsResponseSpec.pre enc Go.Proofs.Tryd.prog Go.Proofs.Tryd.f12 [] false w args ∧ laidMetH Go.Proofs.Tryd.prog Rows.fnUnsafeDeleteRecordsResponseRow.laid w) ∧ sizedMet enc Go.Proofs.Tryd.prog Go.Proofs.Tryd.f12 (OpenSpec.ofChange Rows.fnUnsafeDeleteRecordsResponseSpec) false w args)
      (Rows.fnUnsafeDeleteRecordsResponseSpec.post enc Go.Proofs.Tryd.prog Go.Proofs.Tryd.f12 false true false false) := by
  refine returnsInHanded_of_change_and (C := Go.Proofs.Tryd.checked) (X := fun w _ => laidMetH Go.Proofs.Tryd.prog Rows.fnUnsafeDeleteRecordsResponseRow.laid w) (fun _ _ _ hh h => h.of_heap hh) own started (by kernel_rfl) Go.Proofs.Tryd.func12
    (ChangeSpec.witness_shaped (enc := enc) (C := Go.Proofs.Tryd.checked) (os := os) (X := fun w _ => laidMetH Go.Proofs.Tryd.prog Rows.fnUnsafeDeleteRecordsResponseRow.laid w) false (World.doorLaid Go.Proofs.Tryd.prog 400 os) #[.int .u8 0, .slice none 0 0] 8 rfl (shaped os _) (by kernel_rfl) (by kernel_rfl) (by kernel_rfl) (door_met os _)) ?_
  intro W base args ds gs before hval0 hW _ _ hL _
  have hval : ∀ (j : Nat) t v, Go.Proofs.Tryd.f12.params[j]? = some t → args[j]? = some v → Value.okWide Go.Proofs.Tryd.prog W .any base t v := hval0
  have hW' := hW
  obtain ⟨p, q, hA0, hV, rfl, hfz, hnd⟩ := hW
  have hA : DataW.TrodAll enc Go.Proofs.Tryd.prog W 0 (fun _ => true) true Go.Proofs.Tryd.f12.params.toList args.toList ds p := hA0
  rw [Go.Proofs.Tryd.params12] at hA hval
  obtain ⟨v0, vs0, d0, ds0, p0, q0, hargs, rfl, rfl, h0, r0⟩ := trodAll_cons hA
  obtain ⟨v1, vs1, d1, ds1, p1, q1, rfl, rfl, rfl, h1, r1⟩ := trodAll_cons r0
  obtain ⟨rfl, rfl, rfl⟩ := trodAll_nil r1
  obtain rfl : args = #[v0, v1] := by cases args; simp_all
  obtain ⟨rfl, rfl⟩ := trodVars_none hV
  obtain ⟨n0, rfl, rfl, rfl, w0⟩ := open_int Go.Proofs.Tryd.underlying5 (hval 0 5 v0 rfl rfl) h0
  obtain ⟨l, ha⟩ := argOct_of Go.Proofs.Tryd.underlying22 Go.Proofs.Tryd.underlying5 (by kernel_rfl) (hval 1 22 v1 rfl rfl) h1
  have lt1 : ∀ x ∈ p1, x.block < W.heap.size := by obtain ⟨m, hm⟩ := h1; exact DataW.trod_lt m _ _ _ hm
  rw [MakeChecks.laidMetH_plain _ _ _ (by kernel_rfl)] at hL
  obtain ⟨a1, s1, hv1, _⟩ := laid_sentinel hL gO gT Go.Proofs.Tryd.underlying51 rowP Go.Proofs.Tryd.underlying236 Go.Proofs.Tryd.underlying254 rfl rfl Go.Proofs.Tryd.underlying9 cS cStr
  have hg : W.cell? ⟨1, 0, none⟩ = some (.iface 236 (.pointer (some a1))) := by simpa using World.var?_cell gO hv1 0
  clear hA0 hval0
  refine Calls.mono (call_lawU baseS fnsS implT specT (by decide) (by decide) (by decide) lawT fd_law (n := n0) ha hg) fun e W' ⟨v', he, hv', hm⟩ => ?_
  subst he hv'
  have bel := hm.below
  exact ⟨_, rfl, _, _, _, [], _, [], hW', trodAll_mk1 (shut_bool Go.Proofs.Tryd.underlying4 _), trodAll_cons_mk (shut_int Go.Proofs.Tryd.underlying5 w0) (trodAll_cons_mk (Below.trod laidOut (by kernel_rfl) (of_decide_eq_true (by kernel_rfl)) h1 bel lt1) trodAll_mk0), rfl, bel.frame _, fun h => by cases h⟩

theorem joined : joinedFacts Go.Proofs.Tryd.prog 12 Go.Proofs.Tryd.f12 Rows.fnUnsafeDeleteRecordsResponseSpec Rows.fnUnsafeDeleteRecordsResponseRow = true := by
  unfold joinedFacts
  exact bandT (bandT (bandT (bandT (bandT (bandT (bandT (bandT (bandT (bandT (bandT (bandT (bandT (bandT (bandT (bandT (bandT (bandT (bandT (bandT (bandT (bandT (bandT (bandT (bandT (bandT (bandT (bandT (bandT (bandT (bandT (by as_aux_lemma => kernel_rfl) laidOut) mapsRowedS) (by as_aux_lemma => kernel_rfl)) (by as_aux_lemma => kernel_rfl)) (by as_aux_lemma => kernel_rfl)) (by as_aux_lemma => kernel_rfl)) (by as_aux_lemma => kernel_rfl)) (by as_aux_lemma => kernel_rfl)) (by as_aux_lemma => kernel_rfl)) (by as_aux_lemma => kernel_rfl)) (by as_aux_lemma => kernel_rfl)) (by as_aux_lemma => kernel_rfl)) (by as_aux_lemma => kernel_rfl)) (by as_aux_lemma => kernel_rfl)) (by as_aux_lemma => kernel_rfl)) (by as_aux_lemma => kernel_rfl)) (by as_aux_lemma => kernel_rfl)) (by as_aux_lemma => kernel_rfl)) (by as_aux_lemma => kernel_rfl)) (by as_aux_lemma => kernel_rfl)) (by as_aux_lemma => kernel_rfl)) plainKeysS) (by as_aux_lemma => kernel_rfl)) stopsHeardS) bigEnter) bigLifts) bigMake) (by as_aux_lemma => kernel_rfl)) (by as_aux_lemma => kernel_rfl)) (by as_aux_lemma => kernel_rfl)) (by as_aux_lemma => kernel_rfl)
theorem named : Go.Proofs.Tryd.prog.funcNamed Rows.fnUnsafeDeleteRecordsResponseRow.func = some 12 := by kernel_rfl
theorem isInst : Go.Proofs.Tryd.f12.isInstance Go.Proofs.Tryd.prog Rows.fnUnsafeDeleteRecordsResponseRow.origin Rows.fnUnsafeDeleteRecordsResponseRow.targs := of_decide_eq_true (by kernel_rfl)
theorem isWrap : Go.Proofs.Tryd.f12.isWrapper Go.Proofs.Tryd.prog Rows.fnUnsafeDeleteRecordsResponseRow.wrapper Rows.fnUnsafeDeleteRecordsResponseRow.mainSum := by unfold Func.isWrapper; first | (rw [if_pos (by decide +kernel)]; kernel_rfl) | (rw [if_neg (by decide +kernel)]; exact ⟨rfl, rfl⟩)
theorem row : Rows.FnUnsafeDeleteRecordsResponseSaid :=
  OpenClaim.holds_of_wide 12 Go.Proofs.Tryd.f12 rfl rfl rfl rfl rfl rfl rfl ⟨rfl, rfl, rfl, rfl, rfl⟩ rfl rfl rfl rfl rfl named Go.Proofs.Tryd.func12 joined
    isInst isWrap
    (fun os started H enc _ => lifted os started H enc)
end Go.Proofs.YtfiedlfmogpanaaDoor.fnUnsafeDeleteRecordsResponse

namespace Go.Proofs.YtfiedlfmogpanaaDoor
open Go.Kf
/-- The card. -/
theorem fnUnsafeDeleteRecordsResponse_card : Rows.FnUnsafeDeleteRecordsResponseCardSaid :=
  Claim7.holds_tied_plain_at .later [] [.sentinel] true Rows.fnUnsafeDeleteRecordsResponseCard.stood.harness false
    fnUnsafeDeleteRecordsResponse.row (fun _ h => by cases h) (by as_aux_lemma => kernel_rfl) (fun _ h => by cases h) fnUnsafeDeleteRecordsResponse_row_tie rfl ⟨rfl, rfl⟩ mainS rfl
    (fun f fn hf hfn => by
      obtain rfl : f = 12 := Option.some.inj (fnUnsafeDeleteRecordsResponse.named.symm.trans hf) |>.symm
      obtain rfl : fn = Go.Proofs.Tryd.f12 := (Option.some.inj (Go.Proofs.Tryd.func12.symm.trans hfn)).symm
      refine ⟨looksS, fun j t ht => ?_⟩
      rw [Go.Proofs.Tryd.params12] at ht
      rcases j with _ | _ | j
      · obtain rfl : 5 = t := by simpa using ht
        exact (show Go.Proofs.Tryd.prog.wantsStandIn 5 = false by kernel_rfl)
      · obtain rfl : 22 = t := by simpa using ht
        exact (show Go.Proofs.Tryd.prog.wantsStandIn 22 = false by kernel_rfl)
      · simp at ht)
    (by as_aux_lemma => kernel_rfl)
#print axioms fnUnsafeDeleteRecordsResponse_card
end Go.Proofs.YtfiedlfmogpanaaDoor
