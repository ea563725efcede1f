/- A request's whole frame is as the reference lays it (laws.FnFrameConsumerGroupDescribeRequest): the second form's tied card is proved, at every version number, every client's name, every number and every tree whose bulk is at most 1048576; no other condition. -/
import Derived.Test.YtapclkhkldikeaaGreatDoorKs
set_option linter.unusedSimpArgs false
set_option linter.unusedVariables false
set_option maxRecDepth 100000
namespace Go.Kf
open Go

def mS:Msg:=⟨89,58,44,0,false,.cons .all (.arr 87 none (.txt .str)) (.cons .all (.pr .bool none) (.tags none))⟩
def dS:zaax where
  newP:=26
  setV:=28
  maxV:=27
  readF:=29
  readf:=45
  maxI:=15
  tellI:=17
theorem rd_m:FOk Go.Proofs.Tryz.prog 45 3 (mS.gen NS true) [.var 3]:=⟨Go.Proofs.Tryz.f45,_,[0,1,2,6,7,8,9,10,11,12,13,35,39,44,14,50,15,53,54,57,16,74],Go.Proofs.Tryz.func45,rfl,by kernel_rfl,by kernel_rfl,by decide,by kernel_rfl,by kernel_rfl⟩
theorem df_m:FOk Go.Proofs.Tryz.prog 44 1 (seqs (mS.fs.dfl NS mS.tT 1)) []:=⟨Go.Proofs.Tryz.f44,_,[0],Go.Proofs.Tryz.func44,rfl,by kernel_rfl,by kernel_rfl,by decide,by kernel_rfl,by kernel_rfl⟩
theorem mt:MsgT Go.Proofs.Tryz.prog NS mS true:=msgT_of baseS fnsS (by kernel_rfl) (by kernel_rfl) (by kernel_rfl) (by kernel_rfl) ⟨trivial,⟨trivial,trivial⟩⟩ df_m
theorem fd_new:FOk Go.Proofs.Tryz.prog 26 0 (c_new NS mS.tT mS.dflt) [.var 0]:=⟨Go.Proofs.Tryz.f26,_,[0,1],Go.Proofs.Tryz.func26,rfl,by kernel_rfl,by kernel_rfl,by decide,by kernel_rfl,by kernel_rfl⟩
theorem fd_set:FOk Go.Proofs.Tryz.prog 28 2 (c_set NS mS.tT) []:=⟨Go.Proofs.Tryz.f28,_,[0,1],Go.Proofs.Tryz.func28,rfl,by kernel_rfl,by kernel_rfl,by decide,by kernel_rfl,by kernel_rfl⟩
theorem door:DoorT Go.Proofs.Tryz.prog NS mS true dS where
  msg:=mt
  vin:=rfl
  ti:=(zys (by':=zya Go.Proofs.Tryz.prog 89) (by kernel_rfl)).imp fun _ h=>⟨_,h⟩
  newP:=fd_new
  setV:=fd_set
  readf:=rd_m
  tell:=fun h=>absurd rfl h
  dok:=⟨trivial,⟨⟨_,rfl⟩,trivial⟩⟩
  shB:=by kernel_rfl
  cnt:=by decide
theorem fd_rf:FOk Go.Proofs.Tryz.prog 29 2 (c_rf NS mS.pT 45 false) [.var 2]:=⟨Go.Proofs.Tryz.f29,_,[0,1,4],Go.Proofs.Tryz.func29,rfl,by kernel_rfl,by kernel_rfl,by decide,by kernel_rfl,by kernel_rfl⟩
theorem fd_mv:FOk Go.Proofs.Tryz.prog 27 1 (c_max 1) [.var 1]:=⟨Go.Proofs.Tryz.f27,_,[0,2],Go.Proofs.Tryz.func27,rfl,by kernel_rfl,by kernel_rfl,by decide,by kernel_rfl,by kernel_rfl⟩
theorem fd_mi:FOk Go.Proofs.Tryz.prog 15 0 (c_maxI NS mS.pT 26 27) [.var 0]:=⟨Go.Proofs.Tryz.f15,_,[0],Go.Proofs.Tryz.func15,rfl,by kernel_rfl,by kernel_rfl,by decide,by kernel_rfl,by kernel_rfl⟩
theorem fd_tellI:FOk Go.Proofs.Tryz.prog 17 4 (zack NS QRS mS.pT 26 28 29) [.var 5,.var 6]:=⟨Go.Proofs.Tryz.f17,_,[0,1,2,3,4,8,9,10,20],Go.Proofs.Tryz.func17,rfl,by kernel_rfl,by kernel_rfl,by decide,by kernel_rfl,by kernel_rfl⟩
theorem fm_key:FOk Go.Proofs.Tryz.prog 142 1 (c_key 69) [.var 1]:=⟨Go.Proofs.Tryz.f142,_,[0,2],Go.Proofs.Tryz.func142,rfl,by kernel_rfl,by kernel_rfl,by decide,by kernel_rfl,by kernel_rfl⟩
theorem fm_getv:FOk Go.Proofs.Tryz.prog 140 1 (c_getV NS mS.tT) [.var 1]:=⟨Go.Proofs.Tryz.f140,_,[0,2],Go.Proofs.Tryz.func140,rfl,by kernel_rfl,by kernel_rfl,by decide,by kernel_rfl,by kernel_rfl⟩
theorem fm_flx:FOk Go.Proofs.Tryz.prog 141 1 (c_flx NS mS.tT mS.fl) [.var 1]:=⟨Go.Proofs.Tryz.f141,_,[0,2],Go.Proofs.Tryz.func141,rfl,by kernel_rfl,by kernel_rfl,by decide,by kernel_rfl,by kernel_rfl⟩
theorem fm_iKey (v:Value) (w:World):(invoke (.fn (.method "Key") #[]) #[.iface mS.pT v]).run Go.Proofs.Tryz.prog w=.ok (.enter 142 #[v]) w:=by kernel_rfl
theorem fm_iGetVersion (v:Value) (w:World):(invoke (.fn (.method "GetVersion") #[]) #[.iface mS.pT v]).run Go.Proofs.Tryz.prog w=.ok (.enter 140 #[v]) w:=by kernel_rfl
theorem fm_iIsFlexible (v:Value) (w:World):(invoke (.fn (.method "IsFlexible") #[]) #[.iface mS.pT v]).run Go.Proofs.Tryz.prog w=.ok (.enter 141 #[v]) w:=by kernel_rfl
theorem fm_iApp (v x:Value) (w:World):(invoke (.fn (.method "AppendTo") #[]) #[.iface mS.pT v,x]).run Go.Proofs.Tryz.prog w=.ok (.enter 139 #[v,x]) w:=by kernel_rfl
theorem frM:FrM Go.Proofs.Tryz.prog NS mS mS.pT 69 139:=⟨⟨_,fm_iKey,fm_key⟩,⟨_,fm_iGetVersion,fm_getv⟩,⟨_,fm_iIsFlexible,fm_flx⟩,fm_iApp,rfl,by decide,⟨.pointer mS.tT,1,8,.pointer none,zhr (by kernel_rfl),fun _ h=>nomatch h⟩⟩
theorem fd_app:FOk Go.Proofs.Tryz.prog 139 2 (mS.appC NS AN) [.var 2]:=⟨Go.Proofs.Tryz.f139,_,[0,1,4,5,6,7,23,33,34,35,8,9,41,10,56],Go.Proofs.Tryz.func139,rfl,by kernel_rfl,by kernel_rfl,by decide,by kernel_rfl,by kernel_rfl⟩
theorem aokS:mS.fs.aok Go.Proofs.Tryz.prog NS AN:=⟨⟨zhr (by kernel_rfl),el_ti (fx:=true) baseS fnsS _ (by kernel_rfl) trivial,⟨by decide,by decide⟩,⟨by decide,by decide,(fun h=>nomatch h)⟩⟩,⟨⟨by decide,⟨(fun h=>nomatch h),(fun h=>absurd h (by decide))⟩⟩,trivial⟩⟩

def sc_ConsumerGroupDescribeRequest:List SC:=[.mk [(0,11),(2,-1),(3,-1),(4,-1),(6,8)] none [],.mk [(0,0),(2,-1),(3,-1),(4,-1)] none []]
theorem fsc_ConsumerGroupDescribeRequest:FOk Go.Proofs.Tryz.prog 16 0 (c_msg MS sc_ConsumerGroupDescribeRequest (0)) [.cell 0 MS.zam]:=⟨Go.Proofs.Tryz.f16,_,[0],Go.Proofs.Tryz.func16,rfl,by kernel_rfl,by kernel_rfl,by decide,by kernel_rfl,by kernel_rfl⟩
theorem lawT:LawFF Go.Proofs.Tryz.prog NS MS AN QRS mS dS 139 69 1 16 sc_ConsumerGroupDescribeRequest (0):=⟨door,fd_rf,fd_mv,fd_mi,fd_tellI,fd_app,frM,aokS,by decide,by decide,by decide,fsc_ConsumerGroupDescribeRequest,by kernel_rfl,⟨rfl,⟨rfl,trivial⟩⟩,by kernel_rfl,by kernel_rfl⟩
theorem fd_law:FOk Go.Proofs.Tryz.prog 4 4 (c_lawF NS MS QRS 69 38 dS.maxI dS.tellI 16) [.var 6]:=⟨Go.Proofs.Tryz.f4,_,[0,1,2,3,5,7,8,22,9,25,10,11,33,12,13,14],Go.Proofs.Tryz.func4,rfl,by kernel_rfl,by kernel_rfl,by decide,by kernel_rfl,by kernel_rfl⟩
end Go.Kf

namespace Go.Proofs.YtapclkhkldikeaaGreatDoor.fnFrameConsumerGroupDescribeRequest
open Go.ChangeShapes Go.WideShapes Go.ChangeAt Go.RowKit Go.Kf

theorem reads (os:Os) {H:Type} (enc:TypeId × Value→H):∃ places,DataW.whole enc Go.Proofs.Tryz.prog ((World.doorLaid Go.Proofs.Tryz.prog 400 os).forCall (fun _ _=>0) ⟨#[],#[.int .u8 0,.agg #[.bool false,.string ⟨#[]⟩],.int .i32 0,.agg #[.int .i64 0,.slice none 0 0,.bool false,.slice none 0 0,.slice none 0 0]],[]⟩).memory Go.Proofs.Tryz.f4.params.toList Rows.fnFrameConsumerGroupDescribeRequestSpec.vars false #[Value.int .u8 0,.agg #[.bool false,.string ⟨#[]⟩],.int .i32 0,.agg #[.int .i64 0,.slice none 0 0,.bool false,.slice none 0 0,.slice none 0 0]].toList 8=some ([.lit (.int .u8 0),.agg [.lit (.bool false),.lit (.string [])],.lit (.int .i32 0),.agg [.lit (.int .i64 0),.nil,.lit (.bool false),.nil,.nil]],[],places):=
  ⟨[],by kernel_rfl⟩
set_option maxHeartbeats 4000000 in
theorem lifted (os:Os) (started:os.Started) (H:Type) (enc:TypeId × Value→H) (F:Stop.Interp) :
    ReturnsInHanded {} Go.Proofs.Tryz.checked os 4 .any ((Rows.OpenSpec.upto Rows.fnFrameConsumerGroupDescribeRequestSpec).preRow enc Go.Proofs.Tryz.prog Go.Proofs.Tryz.f4 Rows.fnFrameConsumerGroupDescribeRequestUptoRow.domain false Rows.fnFrameConsumerGroupDescribeRequestUptoRow.laid) (((Rows.OpenSpec.upto Rows.fnFrameConsumerGroupDescribeRequestSpec).at F).post enc Go.Proofs.Tryz.prog Go.Proofs.Tryz.f4 false true false false):=by
  obtain⟨places,hx⟩:=reads os enc
  refine returnsInHanded_of_row (C:=Go.Proofs.Tryz.checked) (s:=Rows.OpenSpec.upto Rows.fnFrameConsumerGroupDescribeRequestSpec) own started (by kernel_rfl) Go.Proofs.Tryz.func4
    ⟨World.doorLaid Go.Proofs.Tryz.prog 400 os,fun _ _=>0,⟨#[],#[.int .u8 0,.agg #[.bool false,.string ⟨#[]⟩],.int .i32 0,.agg #[.int .i64 0,.slice none 0 0,.bool false,.slice none 0 0,.slice none 0 0]],[]⟩,rfl,shaped os _,rfl,(Input.okWide_of_okWideB (by kernel_rfl)).2,
      OpenSpec.preRow_of_cond 8 hx (by kernel_rfl) (fun k hk=>by cases hk; kernel_rfl) (by kernel_rfl) (door_met os _),by
        simp only [Assume.holds]
        exact⟨by simp,by simp,fun _=>Modest.zero,by simp,by simp⟩⟩ ?_
  intro W base args ds gs before hval0 hW _ hcond _ hL _ _
  have hval:∀ (j:Nat) t v,Go.Proofs.Tryz.f4.params[j]?=some t→args[j]?=some v→Value.okWide Go.Proofs.Tryz.prog W .any base t v:=hval0
  have hW':=hW
  obtain⟨p,q,hA0,hV,rfl,hfz,hnd⟩:=hW
  have hA:DataW.TrodAll enc Go.Proofs.Tryz.prog W 0 (fun _=>true) true Go.Proofs.Tryz.f4.params.toList args.toList ds p:=hA0
  rw[Go.Proofs.Tryz.params4] at hA hval
  obtain⟨v0,vs0,d0,ds0,p0,q0,hargs,rfl,rfl,h0,r0⟩:=trodAll_cons hA
  obtain⟨v1,vs1,d1,ds1,p1,q1,rfl,rfl,rfl,h1,r1⟩:=trodAll_cons r0
  obtain⟨v2,vs2,d2,ds2,p2,q2,rfl,rfl,rfl,h2,r2⟩:=trodAll_cons r1
  obtain⟨v3,vs3,d3,ds3,p3,q3,rfl,rfl,rfl,h3,r3⟩:=trodAll_cons r2
  obtain⟨rfl,rfl,rfl⟩:=trodAll_nil r3
  obtain rfl:args=#[v0,v1,v2,v3]:=by cases args; simp_all
  obtain⟨rfl,rfl⟩:=trodVars_none hV
  obtain⟨n0,rfl,rfl,rfl,w0⟩:=open_int Go.Proofs.Tryz.underlying5 (hval 0 5 v0 rfl rfl) h0
  obtain⟨hb,sl,rfl⟩:=idArg_of baseS idT (by kernel_rfl) (by kernel_rfl) (by kernel_rfl) (hval 1 23 v1 rfl rfl) h1
  obtain⟨corr,rfl,rfl,rfl,w2⟩:=open_int Go.Proofs.Tryz.underlying21 (hval 2 21 v2 rfl rfl) h2
  obtain⟨t,ct,rfl,ht,hwf,hsz⟩:=treeArg_of treeO baseS specT (bulkF H) (hval 3 28 v3 rfl rfl) h3
  have hc:=hcond _ rfl
  have hsz2:szT t≤1048576:=by
    have hc2:Rows.uptoBulkAll ([.lit (.int .u8 n0),d1,.lit (.int .i32 corr),d3]++[])≤1048576:=of_decide_eq_true hc
    simp only [List.cons_append,List.nil_append,Rows.uptoBulkAll] at hc2
    omega
  have lt1:∀ x∈p1,x.block < W.heap.size:=by obtain⟨m,hm⟩:=h1; exact DataW.trod_lt m _ _ _ hm
  have lt3:∀ x∈p3,x.block < W.heap.size:=by obtain⟨m,hm⟩:=h3; exact DataW.trod_lt m _ _ _ hm
  rw[MakeChecks.laidMetH_plain _ _ _ (by kernel_rfl)] at hL
  obtain⟨a1,s1,hv1,_⟩:=laid_sentinel hL gO gT Go.Proofs.Tryz.underlying54 rowP Go.Proofs.Tryz.underlying131 Go.Proofs.Tryz.underlying189 rfl rfl Go.Proofs.Tryz.underlying9 cS cStr
  have hg:W.cell? ⟨0,0,none⟩=some (.iface 131 (.pointer (some a1))):=by simpa using World.var?_cell gO hv1 0
  have hn0:0≤n0∧n0≤255:=by
    simp [Lit.wf,IntKind.min,IntKind.max,IntKind.signed,IntKind.bits] at w0
    omega
  have hcw:IntKind.i64.wrap corr=corr:=by
    simp [Lit.wf,IntKind.min,IntKind.max,IntKind.signed,IntKind.bits] at w2
    simp [IntKind.wrap,IntKind.signed,IntKind.bits]; omega
  clear hA0 hval0
  refine Calls.mono (call_lawF baseS fnsS spT thSZ thSW apC frS (by decide) (by decide) lawT fd_law (n:=n0) hn0 hcw ht hwf hsz2 hg) fun e W' ⟨v',he,hv',hm⟩=>?_
  subst he hv'
  have bel:=hm.below
  exact⟨_,rfl,_,_,_,[],_,[],hW',trodAll_mk1 (shut_bool Go.Proofs.Tryz.underlying4 _),trodAll_cons_mk (shut_int Go.Proofs.Tryz.underlying5 w0) (trodAll_cons_mk (Below.trod laidOut (by kernel_rfl) (of_decide_eq_true (by kernel_rfl)) h1 bel lt1) (trodAll_cons_mk (shut_int Go.Proofs.Tryz.underlying21 w2) (trodAll_cons_mk (Below.trod laidOut (by kernel_rfl) (of_decide_eq_true (by kernel_rfl)) h3 bel lt3) trodAll_mk0))),rfl,bel.frame _,fun h=>by cases h⟩

set_option maxHeartbeats 4000000 in
theorem joined:joinedFacts Go.Proofs.Tryz.prog 4 Go.Proofs.Tryz.f4 (Rows.OpenSpec.upto Rows.fnFrameConsumerGroupDescribeRequestSpec).bare Rows.fnFrameConsumerGroupDescribeRequestUptoRow=true:=by
  unfold joinedFacts
  exact bandT (bandT (bandT (bandT (bandT (bandT (bandT (bandT (bandT (bandT (bandT (bandT (bandT (bandT (bandT (bandT (bandT (bandT (bandT (bandT (bandT (bandT (bandT (bandT (bandT (bandT (bandT (bandT (bandT (bandT (bandT (by as_aux_lemma=>kernel_rfl) laidOut) mapsRowedS) (by as_aux_lemma=>kernel_rfl)) (by as_aux_lemma=>kernel_rfl)) (by as_aux_lemma=>kernel_rfl)) (by as_aux_lemma=>kernel_rfl)) (by as_aux_lemma=>kernel_rfl)) (by as_aux_lemma=>kernel_rfl)) (by as_aux_lemma=>kernel_rfl)) (by as_aux_lemma=>kernel_rfl)) (by as_aux_lemma=>kernel_rfl)) (by as_aux_lemma=>kernel_rfl)) (by as_aux_lemma=>kernel_rfl)) (by as_aux_lemma=>kernel_rfl)) (by as_aux_lemma=>kernel_rfl)) (by as_aux_lemma=>kernel_rfl)) (by as_aux_lemma=>kernel_rfl)) (by as_aux_lemma=>kernel_rfl)) (by as_aux_lemma=>kernel_rfl)) (by as_aux_lemma=>kernel_rfl)) (by as_aux_lemma=>kernel_rfl)) plainKeysS) (by as_aux_lemma=>kernel_rfl)) stopsHeardS) bigEnter) bigLifts) bigMake) (by as_aux_lemma=>kernel_rfl)) (by as_aux_lemma=>kernel_rfl)) (by as_aux_lemma=>kernel_rfl)) (by as_aux_lemma=>kernel_rfl)
theorem named:Go.Proofs.Tryz.prog.funcNamed Rows.fnFrameConsumerGroupDescribeRequestUptoRow.func=some 4:=by kernel_rfl
theorem isInst:Go.Proofs.Tryz.f4.isInstance Go.Proofs.Tryz.prog Rows.fnFrameConsumerGroupDescribeRequestUptoRow.origin Rows.fnFrameConsumerGroupDescribeRequestUptoRow.targs:=of_decide_eq_true (by kernel_rfl)
theorem isWrap:Go.Proofs.Tryz.f4.isWrapper Go.Proofs.Tryz.prog Rows.fnFrameConsumerGroupDescribeRequestUptoRow.wrapper Rows.fnFrameConsumerGroupDescribeRequestUptoRow.mainSum:=by unfold Func.isWrapper; first | (rw[if_pos (by decide +kernel)]; kernel_rfl) | (rw[if_neg (by decide +kernel)]; exact⟨rfl,rfl⟩)
theorem row:Rows.FnFrameConsumerGroupDescribeRequestUptoSaid:=
  OpenClaim.holds_of_cond 4 Go.Proofs.Tryz.f4 rfl rfl rfl rfl rfl rfl rfl ⟨rfl,rfl,rfl,rfl,rfl⟩ rfl rfl rfl rfl rfl named Go.Proofs.Tryz.func4 joined
    isInst isWrap
    (fun os started H enc _ F=>by rw[OpenClaim.pre_eq_preRow]; exact lifted os started H enc F)
end Go.Proofs.YtapclkhkldikeaaGreatDoor.fnFrameConsumerGroupDescribeRequest

namespace Go.Proofs.YtapclkhkldikeaaGreatDoor
open Go.Kf
set_option maxHeartbeats 4000000 in
theorem fnFrameConsumerGroupDescribeRequest_card:Rows.FnFrameConsumerGroupDescribeRequestUptoCardSaid:=
  Claim7.holds_tied_plain_at .later [] [.sentinel] true Rows.fnFrameConsumerGroupDescribeRequestUptoCard.stood.harness false
    fnFrameConsumerGroupDescribeRequest.row (fun _ h=>by cases h) (by as_aux_lemma=>kernel_rfl) (fun _ h=>by cases h) fnFrameConsumerGroupDescribeRequestUpto_row_tie rfl ⟨rfl,rfl⟩ mainS rfl
    (fun f fn hf hfn=>by
      obtain rfl:f=4:=Option.some.inj (fnFrameConsumerGroupDescribeRequest.named.symm.trans hf) |>.symm
      obtain rfl:fn=Go.Proofs.Tryz.f4:=(Option.some.inj (Go.Proofs.Tryz.func4.symm.trans hfn)).symm
      refine⟨looksS,fun j t ht=>?_⟩
      rw[Go.Proofs.Tryz.params4] at ht
      rcases j with _ | _ | _ | _ | j
      · obtain rfl:5=t:=by simpa using ht
        exact(show Go.Proofs.Tryz.prog.wantsStandIn 5=false by kernel_rfl)
      · obtain rfl:23=t:=by simpa using ht
        exact(show Go.Proofs.Tryz.prog.wantsStandIn 23=false by kernel_rfl)
      · obtain rfl:21=t:=by simpa using ht
        exact(show Go.Proofs.Tryz.prog.wantsStandIn 21=false by kernel_rfl)
      · obtain rfl:28=t:=by simpa using ht
        exact(show Go.Proofs.Tryz.prog.wantsStandIn 28=false by kernel_rfl)
      · simp at ht)
    (by as_aux_lemma=>kernel_rfl)
#print axioms fnFrameConsumerGroupDescribeRequest_card
end Go.Proofs.YtapclkhkldikeaaGreatDoor
