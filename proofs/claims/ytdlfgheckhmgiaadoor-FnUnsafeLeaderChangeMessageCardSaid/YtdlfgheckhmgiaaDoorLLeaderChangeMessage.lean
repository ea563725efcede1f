/- Both ways of reading tell the same of any octets as a LeaderChangeMessage (laws.FnUnsafeLeaderChangeMessage): the tied card is proved, at all octets; no other condition. -/
import Derived.Test.YtdlfgheckhmgiaaDoorVs
set_option linter.unusedSimpArgs false
set_option linter.unusedVariables false
set_option maxRecDepth 100000
namespace Go.Kf
open Go

def tf : TypeId → FuncId × FuncId := fun | 131 => (131, 187) | _ => (0, 0)

def rLeaderChangeMessageVoter : Fds := .cons .all (.pr .i32 none) (.cons (.ge 1) (.pr .uuid none) (.tags))
theorem df_LeaderChangeMessageVoter : FOk Go.Proofs.Tryd.prog 184 1 (seqs (rLeaderChangeMessageVoter.dfl NS 131 0)) [] := ⟨Go.Proofs.Tryd.f184, _, [0], Go.Proofs.Tryd.func184, rfl, by kernel_rfl, by kernel_rfl, by decide, by kernel_rfl, by kernel_rfl⟩
theorem ft_LeaderChangeMessageVoter : FOk Go.Proofs.Tryd.prog 131 1 (tellC NS tf 131 0 187 rLeaderChangeMessageVoter) [.cell 1 NS.zy] := ⟨Go.Proofs.Tryd.f131, _, [0, 2, 3], Go.Proofs.Tryd.func131, rfl, by kernel_rfl, by kernel_rfl, by decide, by kernel_rfl, by kernel_rfl⟩
theorem fc_LeaderChangeMessageVoter : FOk Go.Proofs.Tryd.prog 187 3 (cTagFn NS) [] := ⟨Go.Proofs.Tryd.f187, _, [0, 1, 2], Go.Proofs.Tryd.func187, rfl, by kernel_rfl, by kernel_rfl, by decide, by kernel_rfl, by kernel_rfl⟩
theorem tl_LeaderChangeMessageVoter : TellP Go.Proofs.Tryd.prog 131 0 rLeaderChangeMessageVoter := tellP baseS fnsS implT tellN (tf := tf) (Tt := 131) (idx0 := 0) ft_LeaderChangeMessageVoter (fun _ => fc_LeaderChangeMessageVoter) ⟨trivial, ⟨(show NS.zbm ≠ 0 by decide), trivial⟩⟩ (Fds.ok_of (fx := true) (Tt := 131) (idx := 0) (off := 0) baseS fnsS rLeaderChangeMessageVoter (by kernel_rfl) ⟨trivial, ⟨trivial, trivial⟩⟩).2.1 (by decide)

def mS : Msg := ⟨81, 84, 129, 0, true, .cons .all (.pr .i32 none) (.cons .all (.arr 76 none (.row 131 128 184 (.cons .all (.pr .i32 none) (.cons (.ge 1) (.pr .uuid none) (.tags))))) (.cons .all (.arr 76 none (.row 131 128 184 (.cons .all (.pr .i32 none) (.cons (.ge 1) (.pr .uuid none) (.tags))))) (.tags)))⟩
def dS : zyf where
  newP := 65
  readF := 66
  unsF := 69
  readf := 130
  tell := 67
  tellI := 20
  unsI := 22
theorem rd_m : FOk Go.Proofs.Tryd.prog 130 3 (mS.gen NS true) [.var 3] := ⟨Go.Proofs.Tryd.f130, _, [0, 1, 2, 6, 7, 8, 9, 10, 11, 12, 13, 14, 55, 59, 64, 15, 70, 16, 17, 18, 85, 19, 91, 20, 21, 22, 106, 110, 115, 23, 121, 24, 25, 26, 136, 27, 142, 152], Go.Proofs.Tryd.func130, rfl, by kernel_rfl, by kernel_rfl, by decide, by kernel_rfl, by kernel_rfl⟩
theorem df_m : FOk Go.Proofs.Tryd.prog 129 1 (seqs (mS.fs.dfl NS mS.tT 1)) [] := ⟨Go.Proofs.Tryd.f129, _, [0], Go.Proofs.Tryd.func129, rfl, by kernel_rfl, by kernel_rfl, by decide, by kernel_rfl, by kernel_rfl⟩
theorem mt : MsgT Go.Proofs.Tryd.prog NS mS true := msgT_of baseS fnsS (by kernel_rfl) (by kernel_rfl) (by kernel_rfl) ⟨trivial, ⟨⟨df_LeaderChangeMessageVoter, ⟨trivial, ⟨trivial, trivial⟩⟩⟩, ⟨⟨df_LeaderChangeMessageVoter, ⟨trivial, ⟨trivial, trivial⟩⟩⟩, trivial⟩⟩⟩ df_m
theorem ft_LeaderChangeMessage : FOk Go.Proofs.Tryd.prog 67 1 (tellC NS tf 81 1 133 mS.fs) [.cell 1 NS.zy] := ⟨Go.Proofs.Tryd.f67, _, [0, 2, 3, 30, 31, 32, 4, 35, 47, 48, 50, 86, 87, 88, 5, 91, 103, 104, 106], Go.Proofs.Tryd.func67, rfl, by kernel_rfl, by kernel_rfl, by decide, by kernel_rfl, by kernel_rfl⟩
theorem fc_LeaderChangeMessage : FOk Go.Proofs.Tryd.prog 133 3 (cTagFn NS) [] := ⟨Go.Proofs.Tryd.f133, _, [0, 1, 2], Go.Proofs.Tryd.func133, rfl, by kernel_rfl, by kernel_rfl, by decide, by kernel_rfl, by kernel_rfl⟩
theorem tl_LeaderChangeMessage : TellP Go.Proofs.Tryd.prog 67 1 mS.fs := tellP baseS fnsS implT tellN (tf := tf) (Tt := 81) (idx0 := 1) ft_LeaderChangeMessage (fun _ => fc_LeaderChangeMessage) ⟨trivial, ⟨⟨zhl (by kernel_rfl), el_ti (fx := true) baseS fnsS _ (by kernel_rfl) ⟨df_LeaderChangeMessageVoter, ⟨trivial, ⟨trivial, trivial⟩⟩⟩, tl_LeaderChangeMessageVoter⟩, ⟨⟨zhl (by kernel_rfl), el_ti (fx := true) baseS fnsS _ (by kernel_rfl) ⟨df_LeaderChangeMessageVoter, ⟨trivial, ⟨trivial, trivial⟩⟩⟩, tl_LeaderChangeMessageVoter⟩, trivial⟩⟩⟩ mt.hf (by decide)
theorem fd_new : FOk Go.Proofs.Tryd.prog 65 0 (c_newV NS mS.tT mS.dflt) [.cell 0 81] := ⟨Go.Proofs.Tryd.f65, _, [0, 1], Go.Proofs.Tryd.func65, rfl, by kernel_rfl, by kernel_rfl, by decide, by kernel_rfl, by kernel_rfl⟩
theorem door : DoorV Go.Proofs.Tryd.prog NS mS true dS where
  msg := mt
  vin := rfl
  i16 := by decide
  ti := (tsB_ok (by' := bytesOf Go.Proofs.Tryd.prog 81) (by kernel_rfl)).imp fun _ h => ⟨_, h⟩
  newP := fd_new
  readf := rd_m
  tell := tl_LeaderChangeMessage
  dok := ⟨⟨_, rfl, by decide⟩, ⟨⟨⟨_, rfl, by decide⟩, ⟨⟨List.replicate 16 0, rfl, rfl⟩, trivial⟩⟩, ⟨⟨⟨_, rfl, by decide⟩, ⟨⟨List.replicate 16 0, rfl, rfl⟩, trivial⟩⟩, trivial⟩⟩⟩
  shB := by kernel_rfl
  cnt := by decide
  il := by kernel_rfl
  io := by kernel_rfl
  zo := by kernel_rfl
theorem fd_rf : FOk Go.Proofs.Tryd.prog 66 2 (c_rf NS mS.pT 130 false) [.var 2] := ⟨Go.Proofs.Tryd.f66, _, [0, 1, 4], Go.Proofs.Tryd.func66, rfl, by kernel_rfl, by kernel_rfl, by decide, by kernel_rfl, by kernel_rfl⟩
theorem fd_uf : FOk Go.Proofs.Tryd.prog 69 2 (c_rf NS mS.pT 130 true) [.var 2] := ⟨Go.Proofs.Tryd.f69, _, [0, 1, 4], Go.Proofs.Tryd.func69, rfl, by kernel_rfl, by kernel_rfl, by decide, by kernel_rfl, by kernel_rfl⟩
theorem fd_tellI : FOk Go.Proofs.Tryd.prog 20 1 (zus NS mS.tT mS.pT 65 66 67) [.cell 1 NS.zy, .var 2] := ⟨Go.Proofs.Tryd.f20, _, [0, 2, 3, 4, 10, 5], Go.Proofs.Tryd.func20, rfl, by kernel_rfl, by kernel_rfl, by decide, by kernel_rfl, by kernel_rfl⟩
theorem fd_unsI : FOk Go.Proofs.Tryd.prog 22 1 (zus NS mS.tT mS.pT 65 69 67) [.cell 1 NS.zy, .var 2] := ⟨Go.Proofs.Tryd.f22, _, [0, 2, 3, 4, 10, 5], Go.Proofs.Tryd.func22, rfl, by kernel_rfl, by kernel_rfl, by decide, by kernel_rfl, by kernel_rfl⟩
theorem fd_kept : FOk Go.Proofs.Tryd.prog 16 3 (c_Kept NS MS) [.var 5] := ⟨Go.Proofs.Tryd.f16, _, [0, 1, 2, 3, 5, 6], Go.Proofs.Tryd.func16, rfl, by kernel_rfl, by kernel_rfl, by decide, by kernel_rfl, by kernel_rfl⟩

def sc_sLeaderChangeMessageVoter : List SC := [.mk [(0, 3), (2, -1), (3, -1), (4, -1)] none [], .mk [(0, 7), (1, 1), (2, -1), (3, -1), (4, -1)] none []]
theorem fsc_sLeaderChangeMessageVoter : FOk Go.Proofs.Tryd.prog 68 0 (c_flds MS sc_sLeaderChangeMessageVoter) [.var 0] := ⟨Go.Proofs.Tryd.f68, _, [0], Go.Proofs.Tryd.func68, rfl, by kernel_rfl, by kernel_rfl, by decide, by kernel_rfl, by kernel_rfl⟩
theorem mk_sLeaderChangeMessageVoter : MkOk Go.Proofs.Tryd.prog 68 (SC.flds sc_sLeaderChangeMessageVoter) := mk_flds (l := sc_sLeaderChangeMessageVoter) spT (by kernel_rfl) ⟨rfl, ⟨rfl, trivial⟩⟩ fsc_sLeaderChangeMessageVoter

def sc_LeaderChangeMessage : List SC := [.mk [(0, 3), (2, -1), (3, -1), (4, -1)] none [], .mk [(0, 11), (2, -1), (3, -1), (4, -1), (6, 10)] (some 68) sc_sLeaderChangeMessageVoter, .mk [(0, 11), (2, -1), (3, -1), (4, -1), (6, 10)] (some 68) sc_sLeaderChangeMessageVoter]
theorem fsc_LeaderChangeMessage : FOk Go.Proofs.Tryd.prog 21 0 (c_msg MS sc_LeaderChangeMessage (0)) [.cell 0 MS.zaq] := ⟨Go.Proofs.Tryd.f21, _, [0], Go.Proofs.Tryd.func21, rfl, by kernel_rfl, by kernel_rfl, by decide, by kernel_rfl, by kernel_rfl⟩
theorem lawT : LawUV Go.Proofs.Tryd.prog NS MS mS true dS 21 16 sc_LeaderChangeMessage (0) := ⟨door, fd_rf, fd_uf, fd_tellI, fd_unsI, fsc_LeaderChangeMessage, fd_kept, by kernel_rfl, ⟨rfl, ⟨⟨mk_sLeaderChangeMessageVoter, fsc_sLeaderChangeMessageVoter.has⟩, ⟨⟨mk_sLeaderChangeMessageVoter, fsc_sLeaderChangeMessageVoter.has⟩, trivial⟩⟩⟩, by kernel_rfl, by kernel_rfl⟩
theorem fd_law : FOk Go.Proofs.Tryd.prog 4 1 (c_lawUV NS MS 36 dS.tellI dS.unsI 21 16 1000) [.var 1] := ⟨Go.Proofs.Tryd.f4, _, [0, 2, 11, 14, 4, 5, 6, 7, 8], Go.Proofs.Tryd.func4, rfl, by kernel_rfl, by kernel_rfl, by decide, by kernel_rfl, by kernel_rfl⟩
end Go.Kf

namespace Go.Proofs.YtdlfgheckhmgiaaDoor.fnUnsafeLeaderChangeMessage
open Go.ChangeShapes Go.WideShapes Go.ChangeAt Go.RowKit Go.Kf

set_option maxHeartbeats 4000000 in
theorem lifted (os : Os) (started : os.Started) (H : Type) (enc : TypeId × Value → H) :
    ReturnsInHanded {} Go.Proofs.Tryd.checked os 4 .any (fun w args => (Rows.fnUnsafeLeaderChangeMessageSpec.pre enc Go.Proofs.Tryd.prog Go.Proofs.Tryd.f4 [] false w args ∧ laidMetH Go.Proofs.Tryd.prog Rows.fnUnsafeLeaderChangeMessageRow.laid w) ∧ sizedMet enc Go.Proofs.Tryd.prog Go.Proofs.Tryd.f4 (OpenSpec.ofChange Rows.fnUnsafeLeaderChangeMessageSpec) false w args)
      (Rows.fnUnsafeLeaderChangeMessageSpec.post enc Go.Proofs.Tryd.prog Go.Proofs.Tryd.f4 false true false false) := by
  refine returnsInHanded_of_change_and (C := Go.Proofs.Tryd.checked) (X := fun w _ => laidMetH Go.Proofs.Tryd.prog Rows.fnUnsafeLeaderChangeMessageRow.laid w) (fun _ _ _ hh h => h.of_heap hh) own started (by kernel_rfl) Go.Proofs.Tryd.func4
    (ChangeSpec.witness_shaped (enc := enc) (C := Go.Proofs.Tryd.checked) (os := os) (X := fun w _ => laidMetH Go.Proofs.Tryd.prog Rows.fnUnsafeLeaderChangeMessageRow.laid w) false (World.doorLaid Go.Proofs.Tryd.prog 400 os) #[.slice none 0 0] 8 rfl (shaped os _) (by kernel_rfl) (by kernel_rfl) (by kernel_rfl) (door_met os _)) ?_
  intro W base args ds gs before hval0 hW _ _ hL _
  have hval : ∀ (j : Nat) t v, Go.Proofs.Tryd.f4.params[j]? = some t → args[j]? = some v → Value.okWide Go.Proofs.Tryd.prog W .any base t v := hval0
  have hW' := hW
  obtain ⟨p, q, hA0, hV, rfl, hfz, hnd⟩ := hW
  have hA : DataW.TrodAll enc Go.Proofs.Tryd.prog W 0 (fun _ => true) true Go.Proofs.Tryd.f4.params.toList args.toList ds p := hA0
  rw [Go.Proofs.Tryd.params4] at hA hval
  obtain ⟨v0, vs0, d0, ds0, p0, q0, hargs, rfl, rfl, h0, r0⟩ := trodAll_cons hA
  obtain ⟨rfl, rfl, rfl⟩ := trodAll_nil r0
  obtain rfl : args = #[v0] := by cases args; simp_all
  obtain ⟨rfl, rfl⟩ := trodVars_none hV
  obtain ⟨l, ha⟩ := argOct_of Go.Proofs.Tryd.underlying22 Go.Proofs.Tryd.underlying5 (by kernel_rfl) (hval 0 22 v0 rfl rfl) h0
  have lt0 : ∀ x ∈ p0, x.block < W.heap.size := by obtain ⟨m, hm⟩ := h0; exact DataW.trod_lt m _ _ _ hm
  rw [MakeChecks.laidMetH_plain _ _ _ (by kernel_rfl)] at hL
  obtain ⟨a1, s1, hv1, _⟩ := laid_sentinel hL gO gT Go.Proofs.Tryd.underlying60 rowP Go.Proofs.Tryd.underlying301 Go.Proofs.Tryd.underlying319 rfl rfl Go.Proofs.Tryd.underlying9 cS cStr
  have hg : W.cell? ⟨1, 0, none⟩ = some (.iface 301 (.pointer (some a1))) := by simpa using World.var?_cell gO hv1 0
  clear hA0 hval0
  refine Calls.mono (call_lawUV baseS fnsS implT spT thSW (by decide) (by decide) lawT fd_law ha hg) fun e W' ⟨v', he, hv', hm⟩ => ?_
  subst he hv'
  have bel := hm.below
  exact ⟨_, rfl, _, _, _, [], _, [], hW', trodAll_mk1 (shut_bool Go.Proofs.Tryd.underlying4 _), trodAll_cons_mk (Below.trod laidOut (by kernel_rfl) (of_decide_eq_true (by kernel_rfl)) h0 bel lt0) trodAll_mk0, rfl, bel.frame _, fun h => by cases h⟩

set_option maxHeartbeats 4000000 in
theorem joined : joinedFacts Go.Proofs.Tryd.prog 4 Go.Proofs.Tryd.f4 Rows.fnUnsafeLeaderChangeMessageSpec Rows.fnUnsafeLeaderChangeMessageRow = true := by
  unfold joinedFacts
  exact bandT (bandT (bandT (bandT (bandT (bandT (bandT (bandT (bandT (bandT (bandT (bandT (bandT (bandT (bandT (bandT (bandT (bandT (bandT (bandT (bandT (bandT (bandT (bandT (bandT (bandT (bandT (bandT (bandT (bandT (bandT (by as_aux_lemma => kernel_rfl) laidOut) mapsRowedS) (by as_aux_lemma => kernel_rfl)) (by as_aux_lemma => kernel_rfl)) (by as_aux_lemma => kernel_rfl)) (by as_aux_lemma => kernel_rfl)) (by as_aux_lemma => kernel_rfl)) (by as_aux_lemma => kernel_rfl)) (by as_aux_lemma => kernel_rfl)) (by as_aux_lemma => kernel_rfl)) (by as_aux_lemma => kernel_rfl)) (by as_aux_lemma => kernel_rfl)) (by as_aux_lemma => kernel_rfl)) (by as_aux_lemma => kernel_rfl)) (by as_aux_lemma => kernel_rfl)) (by as_aux_lemma => kernel_rfl)) (by as_aux_lemma => kernel_rfl)) (by as_aux_lemma => kernel_rfl)) (by as_aux_lemma => kernel_rfl)) (by as_aux_lemma => kernel_rfl)) (by as_aux_lemma => kernel_rfl)) plainKeysS) (by as_aux_lemma => kernel_rfl)) stopsHeardS) bigEnter) bigLifts) bigMake) (by as_aux_lemma => kernel_rfl)) (by as_aux_lemma => kernel_rfl)) (by as_aux_lemma => kernel_rfl)) (by as_aux_lemma => kernel_rfl)
theorem named : Go.Proofs.Tryd.prog.funcNamed Rows.fnUnsafeLeaderChangeMessageRow.func = some 4 := by kernel_rfl
theorem isInst : Go.Proofs.Tryd.f4.isInstance Go.Proofs.Tryd.prog Rows.fnUnsafeLeaderChangeMessageRow.origin Rows.fnUnsafeLeaderChangeMessageRow.targs := of_decide_eq_true (by kernel_rfl)
theorem isWrap : Go.Proofs.Tryd.f4.isWrapper Go.Proofs.Tryd.prog Rows.fnUnsafeLeaderChangeMessageRow.wrapper Rows.fnUnsafeLeaderChangeMessageRow.mainSum := by unfold Func.isWrapper; first | (rw [if_pos (by decide +kernel)]; kernel_rfl) | (rw [if_neg (by decide +kernel)]; exact ⟨rfl, rfl⟩)
theorem row : Rows.FnUnsafeLeaderChangeMessageSaid :=
  OpenClaim.holds_of_wide 4 Go.Proofs.Tryd.f4 rfl rfl rfl rfl rfl rfl rfl ⟨rfl, rfl, rfl, rfl, rfl⟩ rfl rfl rfl rfl rfl named Go.Proofs.Tryd.func4 joined
    isInst isWrap
    (fun os started H enc _ => lifted os started H enc)
end Go.Proofs.YtdlfgheckhmgiaaDoor.fnUnsafeLeaderChangeMessage

namespace Go.Proofs.YtdlfgheckhmgiaaDoor
open Go.Kf
set_option maxHeartbeats 4000000 in
theorem fnUnsafeLeaderChangeMessage_card : Rows.FnUnsafeLeaderChangeMessageCardSaid :=
  Claim7.holds_tied_plain_at .later [] [.sentinel] true Rows.fnUnsafeLeaderChangeMessageCard.stood.harness false
    fnUnsafeLeaderChangeMessage.row (fun _ h => by cases h) (by as_aux_lemma => kernel_rfl) (fun _ h => by cases h) fnUnsafeLeaderChangeMessage_row_tie rfl ⟨rfl, rfl⟩ mainS rfl
    (fun f fn hf hfn => by
      obtain rfl : f = 4 := Option.some.inj (fnUnsafeLeaderChangeMessage.named.symm.trans hf) |>.symm
      obtain rfl : fn = Go.Proofs.Tryd.f4 := (Option.some.inj (Go.Proofs.Tryd.func4.symm.trans hfn)).symm
      refine ⟨looksS, fun j t ht => ?_⟩
      rw [Go.Proofs.Tryd.params4] at ht
      rcases j with _ | j
      · obtain rfl : 22 = t := by simpa using ht
        exact (show Go.Proofs.Tryd.prog.wantsStandIn 22 = false by kernel_rfl)
      · simp at ht)
    (by as_aux_lemma => kernel_rfl)
#print axioms fnUnsafeLeaderChangeMessage_card
end Go.Proofs.YtdlfgheckhmgiaaDoor
