/- A message that is written behind octets leaves these as they are, and follows them (laws.FnBehindShareAcknowledgeRequest): the second form's tied card is proved, at every version number, all octets ahead and every tree whose bulk is at most 1048576; no other condition. -/
import Derived.Test.YtgmhkfdpdbecmaaGreatDoorKs
set_option linter.unusedSimpArgs false
set_option linter.unusedVariables false
set_option maxRecDepth 100000
namespace Go.Kf
open Go

def rShareAcknowledgeRequestTopicPartitionAcknowledgementBatch : Fds := .cons .all (.pr .i64 none) (.cons .all (.pr .i64 none) (.cons .all (.arr 188 none (.pr .i8)) (.tags)))
theorem df_ShareAcknowledgeRequestTopicPartitionAcknowledgementBatch : FOk Go.Proofs.Tryz.prog 217 1 (seqs (rShareAcknowledgeRequestTopicPartitionAcknowledgementBatch.dfl NS 190 0)) [] := ⟨Go.Proofs.Tryz.f217, _, [0], Go.Proofs.Tryz.func217, rfl, by kernel_rfl, by kernel_rfl, by decide, by kernel_rfl, by kernel_rfl⟩

def rShareAcknowledgeRequestTopicPartition : Fds := .cons .all (.pr .i32 none) (.cons .all (.arr 184 none (.row 190 187 217 (.cons .all (.pr .i64 none) (.cons .all (.pr .i64 none) (.cons .all (.arr 188 none (.pr .i8)) (.tags)))))) (.tags))
theorem df_ShareAcknowledgeRequestTopicPartition : FOk Go.Proofs.Tryz.prog 216 1 (seqs (rShareAcknowledgeRequestTopicPartition.dfl NS 186 0)) [] := ⟨Go.Proofs.Tryz.f216, _, [0], Go.Proofs.Tryz.func216, rfl, by kernel_rfl, by kernel_rfl, by decide, by kernel_rfl, by kernel_rfl⟩

def rShareAcknowledgeRequestTopic : Fds := .cons .all (.pr .uuid none) (.cons .all (.arr 180 none (.row 186 183 216 (.cons .all (.pr .i32 none) (.cons .all (.arr 184 none (.row 190 187 217 (.cons .all (.pr .i64 none) (.cons .all (.pr .i64 none) (.cons .all (.arr 188 none (.pr .i8)) (.tags)))))) (.tags))))) (.tags))
theorem df_ShareAcknowledgeRequestTopic : FOk Go.Proofs.Tryz.prog 215 1 (seqs (rShareAcknowledgeRequestTopic.dfl NS 182 0)) [] := ⟨Go.Proofs.Tryz.f215, _, [0], Go.Proofs.Tryz.func215, rfl, by kernel_rfl, by kernel_rfl, by decide, by kernel_rfl, by kernel_rfl⟩

def mS : Msg := ⟨178, 71, 168, 0, false, .cons .all (.txt .nstr) (.cons .all (.txt .nstr) (.cons .all (.pr .i32 none) (.cons (.ge 2) (.pr .bool none) (.cons .all (.arr 176 none (.row 182 179 215 (.cons .all (.pr .uuid none) (.cons .all (.arr 180 none (.row 186 183 216 (.cons .all (.pr .i32 none) (.cons .all (.arr 184 none (.row 190 187 217 (.cons .all (.pr .i64 none) (.cons .all (.pr .i64 none) (.cons .all (.arr 188 none (.pr .i8)) (.tags)))))) (.tags))))) (.tags))))) (.tags)))))⟩
def dS : zyt where
  newP := 114
  setV := 117
  maxV := 115
  readF := 118
  readf := 170
  maxI := 48
  tellI := 50
theorem rd_m : FOk Go.Proofs.Tryz.prog 170 3 (mS.gen NS true) [.var 3] := ⟨Go.Proofs.Tryz.f170, _, [0, 1, 2, 6, 7, 8, 9, 10, 11, 55, 56, 59, 12, 66, 67, 70, 13, 83, 14, 15, 16, 17, 94, 98, 103, 18, 109, 19, 20, 21, 22, 23, 24, 128, 132, 137, 25, 143, 26, 27, 28, 29, 30, 31, 162, 166, 171, 32, 177, 33, 34, 35, 36, 37, 38, 39, 201, 205, 210, 40, 216, 41, 229, 239, 249, 259], Go.Proofs.Tryz.func170, rfl, by kernel_rfl, by kernel_rfl, by decide, by kernel_rfl, by kernel_rfl⟩
theorem df_m : FOk Go.Proofs.Tryz.prog 168 1 (seqs (mS.fs.dfl NS mS.tT 1)) [] := ⟨Go.Proofs.Tryz.f168, _, [0], Go.Proofs.Tryz.func168, rfl, by kernel_rfl, by kernel_rfl, by decide, by kernel_rfl, by kernel_rfl⟩
theorem mt : MsgT Go.Proofs.Tryz.prog NS mS true := msgT_of baseS fnsS (by kernel_rfl) (by kernel_rfl) (by kernel_rfl) ⟨trivial, ⟨trivial, ⟨trivial, ⟨trivial, ⟨⟨df_ShareAcknowledgeRequestTopic, ⟨trivial, ⟨⟨df_ShareAcknowledgeRequestTopicPartition, ⟨trivial, ⟨⟨df_ShareAcknowledgeRequestTopicPartitionAcknowledgementBatch, ⟨trivial, ⟨trivial, ⟨trivial, trivial⟩⟩⟩⟩, trivial⟩⟩⟩, trivial⟩⟩⟩, trivial⟩⟩⟩⟩⟩ df_m
theorem fd_new : FOk Go.Proofs.Tryz.prog 114 0 (c_new NS mS.tT mS.dflt) [.var 0] := ⟨Go.Proofs.Tryz.f114, _, [0, 1], Go.Proofs.Tryz.func114, rfl, by kernel_rfl, by kernel_rfl, by decide, by kernel_rfl, by kernel_rfl⟩
theorem fd_set : FOk Go.Proofs.Tryz.prog 117 2 (c_set NS mS.tT) [] := ⟨Go.Proofs.Tryz.f117, _, [0, 1], Go.Proofs.Tryz.func117, rfl, by kernel_rfl, by kernel_rfl, by decide, by kernel_rfl, by kernel_rfl⟩
theorem door : DoorT Go.Proofs.Tryz.prog NS mS true dS where
  msg := mt
  vin := rfl
  ti := (tsB_ok (by' := bytesOf Go.Proofs.Tryz.prog 178) (by kernel_rfl)).imp fun _ h => ⟨_, h⟩
  newP := fd_new
  setV := fd_set
  readf := rd_m
  tell := fun h => absurd rfl h
  dok := ⟨⟨_, rfl, by decide⟩, ⟨⟨_, rfl⟩, ⟨⟨⟨List.replicate 16 0, rfl, rfl⟩, ⟨⟨⟨_, rfl, by decide⟩, ⟨⟨⟨_, rfl, by decide⟩, ⟨⟨_, rfl, by decide⟩, ⟨trivial, trivial⟩⟩⟩, trivial⟩⟩, trivial⟩⟩, trivial⟩⟩⟩
  shB := by kernel_rfl
  cnt := by decide
theorem fd_rf : FOk Go.Proofs.Tryz.prog 118 2 (c_rf NS mS.pT 170 false) [.var 2] := ⟨Go.Proofs.Tryz.f118, _, [0, 1, 4], Go.Proofs.Tryz.func118, rfl, by kernel_rfl, by kernel_rfl, by decide, by kernel_rfl, by kernel_rfl⟩
theorem fd_mv : FOk Go.Proofs.Tryz.prog 115 1 (c_max 2) [.var 1] := ⟨Go.Proofs.Tryz.f115, _, [0, 2], Go.Proofs.Tryz.func115, rfl, by kernel_rfl, by kernel_rfl, by decide, by kernel_rfl, by kernel_rfl⟩
theorem fd_mi : FOk Go.Proofs.Tryz.prog 48 0 (c_maxI NS mS.pT 114 115) [.var 0] := ⟨Go.Proofs.Tryz.f48, _, [0], Go.Proofs.Tryz.func48, rfl, by kernel_rfl, by kernel_rfl, by decide, by kernel_rfl, by kernel_rfl⟩
theorem fd_tellI : FOk Go.Proofs.Tryz.prog 50 3 (zzv NS mS.pT 114 117 118 119) [.var 3, .var 4] := ⟨Go.Proofs.Tryz.f50, _, [0, 1, 2, 6, 7, 8, 18], Go.Proofs.Tryz.func50, rfl, by kernel_rfl, by kernel_rfl, by decide, by kernel_rfl, by kernel_rfl⟩
theorem fd_app : FOk Go.Proofs.Tryz.prog 119 2 (mS.appC NS AN) [.var 2] := ⟨Go.Proofs.Tryz.f119, _, [0, 1, 4, 5, 6, 7, 39, 8, 50, 9, 65, 10, 11, 77, 87, 88, 89, 12, 13, 14, 15, 105, 115, 116, 117, 16, 17, 18, 19, 133, 143, 144, 145, 20, 21, 22, 23, 24, 168, 178, 179, 180, 25, 26, 190, 205, 220, 235], Go.Proofs.Tryz.func119, rfl, by kernel_rfl, by kernel_rfl, by decide, by kernel_rfl, by kernel_rfl⟩
theorem aokS : mS.fs.aok Go.Proofs.Tryz.prog NS AN := ⟨⟨by decide, by decide, fun _ => by decide⟩, ⟨⟨by decide, by decide, fun _ => by decide⟩, ⟨⟨by decide, fun h => nomatch h⟩, ⟨⟨by decide, fun h => nomatch h⟩, ⟨⟨zij (by kernel_rfl), el_ti (fx := true) baseS fnsS _ (by kernel_rfl) ⟨df_ShareAcknowledgeRequestTopic, ⟨trivial, ⟨⟨df_ShareAcknowledgeRequestTopicPartition, ⟨trivial, ⟨⟨df_ShareAcknowledgeRequestTopicPartitionAcknowledgementBatch, ⟨trivial, ⟨trivial, ⟨trivial, trivial⟩⟩⟩⟩, trivial⟩⟩⟩, trivial⟩⟩⟩, ⟨by decide, by decide⟩, ⟨(Fds.ok_of (fx := true) (Tt := 182) (idx := 0) (off := 0) baseS fnsS rShareAcknowledgeRequestTopic (by kernel_rfl) ⟨trivial, ⟨⟨df_ShareAcknowledgeRequestTopicPartition, ⟨trivial, ⟨⟨df_ShareAcknowledgeRequestTopicPartitionAcknowledgementBatch, ⟨trivial, ⟨trivial, ⟨trivial, trivial⟩⟩⟩⟩, trivial⟩⟩⟩, trivial⟩⟩).2.1, ⟨⟨by decide, fun _ => by decide⟩, ⟨⟨zij (by kernel_rfl), el_ti (fx := true) baseS fnsS _ (by kernel_rfl) ⟨df_ShareAcknowledgeRequestTopicPartition, ⟨trivial, ⟨⟨df_ShareAcknowledgeRequestTopicPartitionAcknowledgementBatch, ⟨trivial, ⟨trivial, ⟨trivial, trivial⟩⟩⟩⟩, trivial⟩⟩⟩, ⟨by decide, by decide⟩, ⟨(Fds.ok_of (fx := true) (Tt := 186) (idx := 0) (off := 0) baseS fnsS rShareAcknowledgeRequestTopicPartition (by kernel_rfl) ⟨trivial, ⟨⟨df_ShareAcknowledgeRequestTopicPartitionAcknowledgementBatch, ⟨trivial, ⟨trivial, ⟨trivial, trivial⟩⟩⟩⟩, trivial⟩⟩).2.1, ⟨⟨by decide, fun h => nomatch h⟩, ⟨⟨zij (by kernel_rfl), el_ti (fx := true) baseS fnsS _ (by kernel_rfl) ⟨df_ShareAcknowledgeRequestTopicPartitionAcknowledgementBatch, ⟨trivial, ⟨trivial, ⟨trivial, trivial⟩⟩⟩⟩, ⟨by decide, by decide⟩, ⟨(Fds.ok_of (fx := true) (Tt := 190) (idx := 0) (off := 0) baseS fnsS rShareAcknowledgeRequestTopicPartitionAcknowledgementBatch (by kernel_rfl) ⟨trivial, ⟨trivial, ⟨trivial, trivial⟩⟩⟩).2.1, ⟨⟨by decide, fun h => nomatch h⟩, ⟨⟨by decide, fun h => nomatch h⟩, ⟨⟨zij (by kernel_rfl), el_ti (fx := true) baseS fnsS _ (by kernel_rfl) trivial, ⟨by decide, by decide⟩, ⟨by decide, fun h => nomatch h⟩⟩, trivial⟩⟩⟩⟩⟩, trivial⟩⟩⟩⟩, trivial⟩⟩⟩⟩, trivial⟩⟩⟩⟩⟩

def sc_sShareAcknowledgeRequestTopicPartitionAcknowledgementBatch : List SC := [.mk [(0, 4), (2, -1), (3, -1), (4, -1)] none [], .mk [(0, 4), (2, -1), (3, -1), (4, -1)] none [], .mk [(0, 11), (2, -1), (3, -1), (4, -1), (6, 1)] none []]
theorem fsc_sShareAcknowledgeRequestTopicPartitionAcknowledgementBatch : FOk Go.Proofs.Tryz.prog 214 0 (c_flds MS sc_sShareAcknowledgeRequestTopicPartitionAcknowledgementBatch) [.var 0] := ⟨Go.Proofs.Tryz.f214, _, [0], Go.Proofs.Tryz.func214, rfl, by kernel_rfl, by kernel_rfl, by decide, by kernel_rfl, by kernel_rfl⟩
theorem mk_sShareAcknowledgeRequestTopicPartitionAcknowledgementBatch : MkOk Go.Proofs.Tryz.prog 214 (SC.flds sc_sShareAcknowledgeRequestTopicPartitionAcknowledgementBatch) := mk_flds (l := sc_sShareAcknowledgeRequestTopicPartitionAcknowledgementBatch) spT (by kernel_rfl) ⟨rfl, ⟨rfl, ⟨rfl, trivial⟩⟩⟩ fsc_sShareAcknowledgeRequestTopicPartitionAcknowledgementBatch

def sc_sShareAcknowledgeRequestTopicPartition : List SC := [.mk [(0, 3), (2, -1), (3, -1), (4, -1)] none [], .mk [(0, 11), (2, -1), (3, -1), (4, -1), (6, 10)] (some 214) sc_sShareAcknowledgeRequestTopicPartitionAcknowledgementBatch]
theorem fsc_sShareAcknowledgeRequestTopicPartition : FOk Go.Proofs.Tryz.prog 169 0 (c_flds MS sc_sShareAcknowledgeRequestTopicPartition) [.var 0] := ⟨Go.Proofs.Tryz.f169, _, [0], Go.Proofs.Tryz.func169, rfl, by kernel_rfl, by kernel_rfl, by decide, by kernel_rfl, by kernel_rfl⟩
theorem mk_sShareAcknowledgeRequestTopicPartition : MkOk Go.Proofs.Tryz.prog 169 (SC.flds sc_sShareAcknowledgeRequestTopicPartition) := mk_flds (l := sc_sShareAcknowledgeRequestTopicPartition) spT (by kernel_rfl) ⟨rfl, ⟨⟨mk_sShareAcknowledgeRequestTopicPartitionAcknowledgementBatch, fsc_sShareAcknowledgeRequestTopicPartitionAcknowledgementBatch.has⟩, trivial⟩⟩ fsc_sShareAcknowledgeRequestTopicPartition

def sc_sShareAcknowledgeRequestTopic : List SC := [.mk [(0, 7), (2, -1), (3, -1), (4, -1)] none [], .mk [(0, 11), (2, -1), (3, -1), (4, -1), (6, 10)] (some 169) sc_sShareAcknowledgeRequestTopicPartition]
theorem fsc_sShareAcknowledgeRequestTopic : FOk Go.Proofs.Tryz.prog 116 0 (c_flds MS sc_sShareAcknowledgeRequestTopic) [.var 0] := ⟨Go.Proofs.Tryz.f116, _, [0], Go.Proofs.Tryz.func116, rfl, by kernel_rfl, by kernel_rfl, by decide, by kernel_rfl, by kernel_rfl⟩
theorem mk_sShareAcknowledgeRequestTopic : MkOk Go.Proofs.Tryz.prog 116 (SC.flds sc_sShareAcknowledgeRequestTopic) := mk_flds (l := sc_sShareAcknowledgeRequestTopic) spT (by kernel_rfl) ⟨rfl, ⟨⟨mk_sShareAcknowledgeRequestTopicPartition, fsc_sShareAcknowledgeRequestTopicPartition.has⟩, trivial⟩⟩ fsc_sShareAcknowledgeRequestTopic

def sc_ShareAcknowledgeRequest : List SC := [.mk [(0, 8), (2, -1), (3, 0), (4, -1)] none [], .mk [(0, 8), (2, -1), (3, 0), (4, -1)] none [], .mk [(0, 3), (2, -1), (3, -1), (4, -1)] none [], .mk [(0, 0), (1, 2), (2, -1), (3, -1), (4, -1)] none [], .mk [(0, 11), (2, -1), (3, -1), (4, -1), (6, 10)] (some 116) sc_sShareAcknowledgeRequestTopic]
theorem fsc_ShareAcknowledgeRequest : FOk Go.Proofs.Tryz.prog 49 0 (c_msg MS sc_ShareAcknowledgeRequest (0)) [.cell 0 MS.zas] := ⟨Go.Proofs.Tryz.f49, _, [0], Go.Proofs.Tryz.func49, rfl, by kernel_rfl, by kernel_rfl, by decide, by kernel_rfl, by kernel_rfl⟩
theorem lawT : LawBB Go.Proofs.Tryz.prog NS MS AN mS dS 119 2 49 sc_ShareAcknowledgeRequest (0) := ⟨door, fd_rf, fd_mv, fd_mi, fd_tellI, fd_app, aokS, by decide, by decide, by decide, fsc_ShareAcknowledgeRequest, by kernel_rfl, ⟨rfl, ⟨rfl, ⟨rfl, ⟨rfl, ⟨⟨mk_sShareAcknowledgeRequestTopic, fsc_sShareAcknowledgeRequestTopic.has⟩, trivial⟩⟩⟩⟩⟩, by kernel_rfl, by kernel_rfl⟩
theorem fd_law : FOk Go.Proofs.Tryz.prog 13 3 (c_lawB NS MS 35 dS.maxI dS.tellI 49) [.var 4] := ⟨Go.Proofs.Tryz.f13, _, [0, 1, 2, 5, 6, 20, 7, 23, 8, 9, 30, 10, 11, 12], Go.Proofs.Tryz.func13, rfl, by kernel_rfl, by kernel_rfl, by decide, by kernel_rfl, by kernel_rfl⟩
end Go.Kf

namespace Go.Proofs.YtgmhkfdpdbecmaaGreatDoor.fnBehindShareAcknowledgeRequest
open Go.ChangeShapes Go.WideShapes Go.ChangeAt Go.RowKit Go.Kf

theorem reads (os : Os) {H : Type} (enc : TypeId × Value → H) : ∃ places, DataW.whole enc Go.Proofs.Tryz.prog ((World.doorLaid Go.Proofs.Tryz.prog 400 os).forCall (fun _ _ => 0) ⟨#[], #[.int .u8 0, .slice none 0 0, .agg #[.int .i64 0, .slice none 0 0, .bool false, .slice none 0 0, .slice none 0 0]], []⟩).memory Go.Proofs.Tryz.f13.params.toList Rows.fnBehindShareAcknowledgeRequestSpec.vars false #[Value.int .u8 0, .slice none 0 0, .agg #[.int .i64 0, .slice none 0 0, .bool false, .slice none 0 0, .slice none 0 0]].toList 8 = some ([.lit (.int .u8 0), .nil, .agg [.lit (.int .i64 0), .nil, .lit (.bool false), .nil, .nil]], [], places) :=
  ⟨[], by kernel_rfl⟩
set_option maxHeartbeats 4000000 in
theorem lifted (os : Os) (started : os.Started) (H : Type) (enc : TypeId × Value → H) (F : Stop.Interp) :
    ReturnsInHanded {} Go.Proofs.Tryz.checked os 13 .any ((Rows.OpenSpec.upto Rows.fnBehindShareAcknowledgeRequestSpec).preRow enc Go.Proofs.Tryz.prog Go.Proofs.Tryz.f13 Rows.fnBehindShareAcknowledgeRequestUptoRow.domain false Rows.fnBehindShareAcknowledgeRequestUptoRow.laid) (((Rows.OpenSpec.upto Rows.fnBehindShareAcknowledgeRequestSpec).at F).post enc Go.Proofs.Tryz.prog Go.Proofs.Tryz.f13 false true false false) := by
  obtain ⟨places, hx⟩ := reads os enc
  refine returnsInHanded_of_row (C := Go.Proofs.Tryz.checked) (s := Rows.OpenSpec.upto Rows.fnBehindShareAcknowledgeRequestSpec) own started (by kernel_rfl) Go.Proofs.Tryz.func13
    ⟨World.doorLaid Go.Proofs.Tryz.prog 400 os, fun _ _ => 0, ⟨#[], #[.int .u8 0, .slice none 0 0, .agg #[.int .i64 0, .slice none 0 0, .bool false, .slice none 0 0, .slice none 0 0]], []⟩, rfl, shaped os _, rfl, (Input.okWide_of_okWideB (by kernel_rfl)).2,
      OpenSpec.preRow_of_cond 8 hx (by kernel_rfl) (fun k hk => by cases hk; kernel_rfl) (by kernel_rfl) (door_met os _), by
        simp only [Assume.holds]
        exact ⟨by simp, by simp, fun _ => Modest.zero, by simp, by simp⟩⟩ ?_
  intro W base args ds gs before hval0 hW _ hcond _ hL _ _
  have hval : ∀ (j : Nat) t v, Go.Proofs.Tryz.f13.params[j]? = some t → args[j]? = some v → Value.okWide Go.Proofs.Tryz.prog W .any base t v := hval0
  have hW' := hW
  obtain ⟨p, q, hA0, hV, rfl, hfz, hnd⟩ := hW
  have hA : DataW.TrodAll enc Go.Proofs.Tryz.prog W 0 (fun _ => true) true Go.Proofs.Tryz.f13.params.toList args.toList ds p := hA0
  rw [Go.Proofs.Tryz.params13] at hA hval
  obtain ⟨v0, vs0, d0, ds0, p0, q0, hargs, rfl, rfl, h0, r0⟩ := trodAll_cons hA
  obtain ⟨v1, vs1, d1, ds1, p1, q1, rfl, rfl, rfl, h1, r1⟩ := trodAll_cons r0
  obtain ⟨v2, vs2, d2, ds2, p2, q2, rfl, rfl, rfl, h2, r2⟩ := trodAll_cons r1
  obtain ⟨rfl, rfl, rfl⟩ := trodAll_nil r2
  obtain rfl : args = #[v0, v1, v2] := by cases args; simp_all
  obtain ⟨rfl, rfl⟩ := trodVars_none hV
  obtain ⟨n0, rfl, rfl, rfl, w0⟩ := open_int Go.Proofs.Tryz.underlying5 (hval 0 5 v0 rfl rfl) h0
  obtain ⟨dl, had⟩ := argOct_of Go.Proofs.Tryz.underlying22 Go.Proofs.Tryz.underlying5 (by kernel_rfl) (hval 1 22 v1 rfl rfl) h1
  obtain ⟨t, ct, rfl, ht, hwf, hsz⟩ := treeArg_of treeO baseS specT (bulkF H) (hval 2 26 v2 rfl rfl) h2
  have hc := hcond _ rfl
  have hsz2 : szT t ≤ 1048576 := by
    have hc2 : Rows.uptoBulkAll ([.lit (.int .u8 n0), d1, d2] ++ []) ≤ 1048576 := of_decide_eq_true hc
    simp only [List.cons_append, List.nil_append, Rows.uptoBulkAll] at hc2
    omega
  have lt1 : ∀ x ∈ p1, x.block < W.heap.size := by obtain ⟨m, hm⟩ := h1; exact DataW.trod_lt m _ _ _ hm
  have lt2 : ∀ x ∈ p2, x.block < W.heap.size := by obtain ⟨m, hm⟩ := h2; exact DataW.trod_lt m _ _ _ hm
  rw [MakeChecks.laidMetH_plain _ _ _ (by kernel_rfl)] at hL
  obtain ⟨a1, s1, hv1, _⟩ := laid_sentinel hL gO gT Go.Proofs.Tryz.underlying49 rowP Go.Proofs.Tryz.underlying264 Go.Proofs.Tryz.underlying282 rfl rfl Go.Proofs.Tryz.underlying9 cS cStr
  have hg : W.cell? ⟨0, 0, none⟩ = some (.iface 264 (.pointer (some a1))) := by simpa using World.var?_cell gO hv1 0
  have hn0 : 0 ≤ n0 ∧ n0 ≤ 255 := by
    simp [Lit.wf, IntKind.min, IntKind.max, IntKind.signed, IntKind.bits] at w0
    omega
  clear hA0 hval0
  refine Calls.mono (call_lawB baseS fnsS spT thSZ thSW apC (by decide) (by decide) lawT fd_law (n := n0) hn0 had ht hwf hsz2 hg) fun e W' ⟨v', he, hv', hm⟩ => ?_
  subst he hv'
  have bel := hm.below
  exact ⟨_, rfl, _, _, _, [], _, [], hW', trodAll_mk1 (shut_bool Go.Proofs.Tryz.underlying4 _), trodAll_cons_mk (shut_int Go.Proofs.Tryz.underlying5 w0) (trodAll_cons_mk (Below.trod laidOut (by kernel_rfl) (of_decide_eq_true (by kernel_rfl)) h1 bel lt1) (trodAll_cons_mk (Below.trod laidOut (by kernel_rfl) (of_decide_eq_true (by kernel_rfl)) h2 bel lt2) trodAll_mk0)), rfl, bel.frame _, fun h => by cases h⟩

set_option maxHeartbeats 4000000 in
theorem joined : joinedFacts Go.Proofs.Tryz.prog 13 Go.Proofs.Tryz.f13 (Rows.OpenSpec.upto Rows.fnBehindShareAcknowledgeRequestSpec).bare Rows.fnBehindShareAcknowledgeRequestUptoRow = true := by
  unfold joinedFacts
  exact bandT (bandT (bandT (bandT (bandT (bandT (bandT (bandT (bandT (bandT (bandT (bandT (bandT (bandT (bandT (bandT (bandT (bandT (bandT (bandT (bandT (bandT (bandT (bandT (bandT (bandT (bandT (bandT (bandT (bandT (bandT (by as_aux_lemma => kernel_rfl) laidOut) mapsRowedS) (by as_aux_lemma => kernel_rfl)) (by as_aux_lemma => kernel_rfl)) (by as_aux_lemma => kernel_rfl)) (by as_aux_lemma => kernel_rfl)) (by as_aux_lemma => kernel_rfl)) (by as_aux_lemma => kernel_rfl)) (by as_aux_lemma => kernel_rfl)) (by as_aux_lemma => kernel_rfl)) (by as_aux_lemma => kernel_rfl)) (by as_aux_lemma => kernel_rfl)) (by as_aux_lemma => kernel_rfl)) (by as_aux_lemma => kernel_rfl)) (by as_aux_lemma => kernel_rfl)) (by as_aux_lemma => kernel_rfl)) (by as_aux_lemma => kernel_rfl)) (by as_aux_lemma => kernel_rfl)) (by as_aux_lemma => kernel_rfl)) (by as_aux_lemma => kernel_rfl)) (by as_aux_lemma => kernel_rfl)) plainKeysS) (by as_aux_lemma => kernel_rfl)) stopsHeardS) bigEnter) bigLifts) bigMake) (by as_aux_lemma => kernel_rfl)) (by as_aux_lemma => kernel_rfl)) (by as_aux_lemma => kernel_rfl)) (by as_aux_lemma => kernel_rfl)
theorem named : Go.Proofs.Tryz.prog.funcNamed Rows.fnBehindShareAcknowledgeRequestUptoRow.func = some 13 := by kernel_rfl
theorem isInst : Go.Proofs.Tryz.f13.isInstance Go.Proofs.Tryz.prog Rows.fnBehindShareAcknowledgeRequestUptoRow.origin Rows.fnBehindShareAcknowledgeRequestUptoRow.targs := of_decide_eq_true (by kernel_rfl)
theorem isWrap : Go.Proofs.Tryz.f13.isWrapper Go.Proofs.Tryz.prog Rows.fnBehindShareAcknowledgeRequestUptoRow.wrapper Rows.fnBehindShareAcknowledgeRequestUptoRow.mainSum := by unfold Func.isWrapper; first | (rw [if_pos (by decide +kernel)]; kernel_rfl) | (rw [if_neg (by decide +kernel)]; exact ⟨rfl, rfl⟩)
theorem row : Rows.FnBehindShareAcknowledgeRequestUptoSaid :=
  OpenClaim.holds_of_cond 13 Go.Proofs.Tryz.f13 rfl rfl rfl rfl rfl rfl rfl ⟨rfl, rfl, rfl, rfl, rfl⟩ rfl rfl rfl rfl rfl named Go.Proofs.Tryz.func13 joined
    isInst isWrap
    (fun os started H enc _ F => by rw [OpenClaim.pre_eq_preRow]; exact lifted os started H enc F)
end Go.Proofs.YtgmhkfdpdbecmaaGreatDoor.fnBehindShareAcknowledgeRequest

namespace Go.Proofs.YtgmhkfdpdbecmaaGreatDoor
open Go.Kf
set_option maxHeartbeats 4000000 in
theorem fnBehindShareAcknowledgeRequest_card : Rows.FnBehindShareAcknowledgeRequestUptoCardSaid :=
  Claim7.holds_tied_plain_at .later [] [.sentinel] true Rows.fnBehindShareAcknowledgeRequestUptoCard.stood.harness false
    fnBehindShareAcknowledgeRequest.row (fun _ h => by cases h) (by as_aux_lemma => kernel_rfl) (fun _ h => by cases h) fnBehindShareAcknowledgeRequestUpto_row_tie rfl ⟨rfl, rfl⟩ mainS rfl
    (fun f fn hf hfn => by
      obtain rfl : f = 13 := Option.some.inj (fnBehindShareAcknowledgeRequest.named.symm.trans hf) |>.symm
      obtain rfl : fn = Go.Proofs.Tryz.f13 := (Option.some.inj (Go.Proofs.Tryz.func13.symm.trans hfn)).symm
      refine ⟨looksS, fun j t ht => ?_⟩
      rw [Go.Proofs.Tryz.params13] at ht
      rcases j with _ | _ | _ | j
      · obtain rfl : 5 = t := by simpa using ht
        exact (show Go.Proofs.Tryz.prog.wantsStandIn 5 = false by kernel_rfl)
      · obtain rfl : 22 = t := by simpa using ht
        exact (show Go.Proofs.Tryz.prog.wantsStandIn 22 = false by kernel_rfl)
      · obtain rfl : 26 = t := by simpa using ht
        exact (show Go.Proofs.Tryz.prog.wantsStandIn 26 = false by kernel_rfl)
      · simp at ht)
    (by as_aux_lemma => kernel_rfl)
#print axioms fnBehindShareAcknowledgeRequest_card
end Go.Proofs.YtgmhkfdpdbecmaaGreatDoor
