/- A part of the calculus by which the claim's proof goes: over any program and any numbering of its functions; no condition beyond those that each theorem names. -/
import Derived.Test.YtgiejoemfbeaeaaGreatDoorKf
set_option linter.unusedSimpArgs false
set_option linter.unusedVariables false
namespace Go.Kf
open Go Go.RowKit
section
variable (N:Nums) (A:zdo)
def zgr:C:=.seq (.ops [⟨some 102,.assign (.const (.slice none 0 0)),0,none,[]⟩]) (.seq (.ops [⟨some 0,.move (V 0),0,none,[]⟩,⟨some 1,.move (V 1),0,none,[]⟩,⟨some 2,.call ⟨.builtin .len,#[T 1],#[N.za]⟩,N.ze,none,[]⟩,
  ⟨some 3,.convert N.ze N.zb (T 2),0,none,[]⟩,⟨some 4,.binOp .add N.zb (.const (.int .u32 1)) (T 3) N.zb,0,none,[]⟩,⟨some 5,.call ⟨.value (.func A.zcu),#[T 0,T 4],#[N.za,N.zb]⟩,N.za,none,[]⟩,⟨some 100,.assign (T 5),0,none,[]⟩])
 (.seq (.ops [⟨some 0,.move (V 0),0,none,[]⟩,⟨some 1,.move (V 1),0,none,[]⟩,⟨some 2,.call ⟨.builtin .append,#[T 0,T 1],#[N.za,N.za]⟩,N.za,none,[]⟩,⟨some 102,.assign (T 2),0,none,[]⟩]) .ret))
def zmi:C:=.seq (.ops [⟨some 102,.assign (.const (.slice none 0 0)),0,none,[]⟩]) (.seq (.ops [⟨some 0,.move (V 0),0,none,[]⟩,⟨some 1,.move (V 1),0,none,[]⟩,⟨some 2,.call ⟨.builtin .len,#[T 1],#[N.za]⟩,N.ze,none,[]⟩,
  ⟨some 3,.convert N.ze N.zcd (T 2),0,none,[]⟩,⟨some 4,.call ⟨.value (.func A.zby),#[T 0,T 3],#[N.za,N.zcd]⟩,N.za,none,[]⟩,⟨some 100,.assign (T 4),0,none,[]⟩])
 (.seq (.ops [⟨some 0,.move (V 0),0,none,[]⟩,⟨some 1,.move (V 1),0,none,[]⟩,⟨some 2,.call ⟨.builtin .append,#[T 0,T 1],#[N.za,N.za]⟩,N.za,none,[]⟩,⟨some 102,.assign (T 2),0,none,[]⟩]) .ret))
end
section
variable {P:Program} {N:Nums} {A:zdo}
theorem zyv (B:Base P N) {w:World} {a:Option Addr} {n c:Nat} {ty:TypeId}:(Builtin.len_ #[N.za] ty #[.slice a n c]).run P w=.ok (.int .i64 (n:Int)) w:=by
 simp [Builtin.len_,Sem.run_bind,B.Lu8.run_und,goInt]
theorem zxb {w:World} {G:Nat→Prop} {v:Value} {o:Option (List UInt8)} (h:OctG w G v o):OctA w v (o.getD [])∧∃ a c,v=.slice a (o.getD []).length c:=by
 cases o with
 | none=>exact ⟨.inl ⟨none,0,h,rfl⟩,none,0,h⟩
 | some l=>
  obtain ⟨b,o,c,rfl,h2,h3,h4⟩:=h
  exact ⟨.inr ⟨b,o,c,rfl,h2,h4⟩,_,_,rfl⟩
theorem zuo (B:Base P N) (hU:UvT P N A) (h:FOk P A.zei 2 (zgr N A) [.var 2]) {w:World} {lo:Nat} {d c:Value} {l s:List UInt8} {G:Nat→Prop} {o:Option (List UInt8)} (hs:s=o.getD []) (hG:OctG w G c o) (hsm:s.length < 4294967295) (hGl:∀ k,G k→k < lo)
  (ho:OwnB w lo d l) (hlo:lo≤w.heap.size) (hb:l.length+(uvB (s.length+1)++s).length < 1099511627776):Call P A.zei #[d,c] w (Apd w lo d l (uvB (s.length+1)++s)):=by
 obtain ⟨hA,a,cc,e⟩:=zxb hG
 rw [← hs] at e hA
 refine h.call rfl fun loc N' hlo'=>?_
 unfold zgr
 refine zc fun K hK=>zk fun τ=>?_
 simp +decide only [bK]
 refine hK _ _ (zd fun σ1 hσ=>?_)
 have a0:=hσ 0
 have a1:=hσ 1
 simp +decide only [bE,Nat.reduceBeqDiff,Nat.reduceAdd,Nat.zero_add,zcv,zcl] at a0 a1
 clear hσ hK K
 rw [List.length_append] at hb
 refine zc fun K hK=>zk fun τ=>?_
 rw [e] at a1
 simp +decide only [bK,bE,Nat.reduceBeqDiff,BEq.rfl,Nat.reduceAdd,Nat.zero_add,a0,a1,zyv B,zar B.int B.uint32 ⟨_,rfl⟩,zsn hsm]
 rw [zal hU.uv.has]
 simp +decide only [bK,bE,Nat.reduceBeqDiff,BEq.rfl]
 refine (zxr B hU (n:=s.length+1) (by omega) ho hlo (by omega)).mono ?_
 intro v1 w1 h1
 refine hK _ _ (zd fun σ2 hσ=>?_)
 have c0:=hσ 0
 have c1:=hσ 1
 simp +decide only [bE,Nat.reduceBeqDiff,BEq.rfl,Nat.reduceAdd,Nat.zero_add,a1] at c0 c1
 clear hσ hK K
 have hl1:(l++uvB (s.length+1)).length+s.length < 1099511627776:=by rw [List.length_append]; omega
 have mL:=Apd.low ho h1
 have hA1:OctA w1 (.slice a s.length cc) s:=by
  have:=(zxb (OctG.mod (G':=G) mL (fun k hk=>⟨by have:=hGl k hk; omega,fun _ h=>by have:=hGl k hk; omega,hk⟩) hG)).1
  rwa [← hs,e] at this
 obtain ⟨v2,w2,h3,h4,h5,h6⟩:=zes (ty:=N.za) B h1.own hA1 (Nat.le_trans hlo h1.mod.size) hl1
 refine zc fun K hK=>zk fun τ=>?_
 simp +decide only [bK,bE,Nat.reduceBeqDiff,BEq.rfl,Nat.reduceAdd,Nat.zero_add,c0,c1,h3]
 refine hK _ _ (zd fun σ3 hσ=>zbd ?_)
 have b2:=hσ 2
 simp +decide only [bE,BEq.rfl,Nat.reduceAdd] at b2
 exact ⟨.inr rfl,_,rfl,by rw [b2]; exact h1.trans ⟨h4,h5,h6⟩⟩
theorem ap_Int32w (B:Base P N) (hU:FOk P A.zdu 2 (zem N A) [.var 2]) (h:FOk P A.zby 2 (zfp N A) [.var 2]) (n:Int):ApF P A.zby (.int .i32 (IntKind.i32.wrap n)) (fixB n 4):=by
 intro w lo v l ho hlo hb
 have:=zqq B hU h (IntKind.i32.wrap n) ho hlo (by rw [zbr] at hb ⊢; exact hb)
 rwa [zka (k:=4) rfl] at this
theorem ap_Bytes (B:Base P N) (hU:FOk P A.zdu 2 (zem N A) [.var 2]) (hI:FOk P A.zby 2 (zfp N A) [.var 2]) (h:FOk P A.zhs 2 (zmi N A) [.var 2]) {w:World} {lo:Nat} {d c:Value} {l s:List UInt8} {G:Nat→Prop} {o:Option (List UInt8)} (hs:s=o.getD []) (hG:OctG w G c o) (hsm:s.length < 4294967295) (hGl:∀ k,G k→k < lo)
  (ho:OwnB w lo d l) (hlo:lo≤w.heap.size) (hb:l.length+(fixB s.length 4++s).length < 1099511627776):Call P A.zhs #[d,c] w (Apd w lo d l (fixB s.length 4++s)):=by
 obtain ⟨hA,a,cc,e⟩:=zxb hG
 rw [← hs] at e hA
 refine h.call rfl fun loc N' hlo'=>?_
 unfold zmi
 refine zc fun K hK=>zk fun τ=>?_
 simp +decide only [bK]
 refine hK _ _ (zd fun σ1 hσ=>?_)
 have a0:=hσ 0
 have a1:=hσ 1
 simp +decide only [bE,Nat.reduceBeqDiff,Nat.reduceAdd,Nat.zero_add,zcv,zcl] at a0 a1
 clear hσ hK K
 rw [List.length_append] at hb
 refine zc fun K hK=>zk fun τ=>?_
 rw [e] at a1
 simp +decide only [bK,bE,Nat.reduceBeqDiff,BEq.rfl,Nat.reduceAdd,Nat.zero_add,a0,a1,zyv B,zar B.int B.int32 ⟨_,rfl⟩]
 rw [zal hI.has]
 simp +decide only [bK,bE,Nat.reduceBeqDiff,BEq.rfl]
 refine (ap_Int32w B hU hI s.length ho hlo (by omega)).mono ?_
 intro v1 w1 h1
 refine hK _ _ (zd fun σ2 hσ=>?_)
 have c0:=hσ 0
 have c1:=hσ 1
 simp +decide only [bE,Nat.reduceBeqDiff,BEq.rfl,Nat.reduceAdd,Nat.zero_add,a1] at c0 c1
 clear hσ hK K
 have hl1:(l++fixB s.length 4).length+s.length < 1099511627776:=by rw [List.length_append]; omega
 have mL:=Apd.low ho h1
 have hA1:OctA w1 (.slice a s.length cc) s:=by
  have:=(zxb (OctG.mod (G':=G) mL (fun k hk=>⟨by have:=hGl k hk; omega,fun _ h=>by have:=hGl k hk; omega,hk⟩) hG)).1
  rwa [← hs,e] at this
 obtain ⟨v2,w2,h3,h4,h5,h6⟩:=zes (ty:=N.za) B h1.own hA1 (Nat.le_trans hlo h1.mod.size) hl1
 refine zc fun K hK=>zk fun τ=>?_
 simp +decide only [bK,bE,Nat.reduceBeqDiff,BEq.rfl,Nat.reduceAdd,Nat.zero_add,c0,c1,h3]
 refine hK _ _ (zd fun σ3 hσ=>zbd ?_)
 have b2:=hσ 2
 simp +decide only [bE,BEq.rfl,Nat.reduceAdd] at b2
 exact ⟨.inr rfl,_,rfl,by rw [b2]; exact h1.trans ⟨h4,h5,h6⟩⟩
end
structure ApFns (P:Program) (N:Nums) (A:zdo):Prop where
 b:A.zjb≠0→FOk P A.zjb 2 (zns N A) [.var 2]
 i8:A.zja≠0→N.zir≠0∧FOk P A.zja 2 (znr N A) [.var 2]
 u16:FOk P A.zdv 2 (zfd N A) [.var 2]
 i16:A.zdh≠0→FOk P A.zdh 2 (zgp N A) [.var 2]
 u32:A.zby≠0→FOk P A.zdu 2 (zem N A) [.var 2]
 i32:A.zby≠0→FOk P A.zby 2 (zfp N A) [.var 2]
 u64:A.zgn≠0→FOk P A.zgv 2 (zim N A) [.var 2]
 i64:A.zgn≠0→FOk P A.zgn 2 (zmh N A) [.var 2]
 uu:A.ziy≠0→N.zak≠0∧FOk P A.ziy 2 (znq N A) [.var 3]
 str:A.zel≠0→A.zdh≠0∧FOk P A.zel 2 (zin N A) [.var 2]
 cstr:A.zck≠0→FOk P A.zck 2 (zex N A) [.var 2]
 nstr:A.zdr≠0→N.zbb≠0∧A.zel≠0∧FOk P A.zdr 2 (zfx N A) [.var 2]
 cnstr:A.zco≠0→N.zbb≠0∧A.zck≠0∧FOk P A.zco 2 (zee N A) [.var 2]
 byt:A.zhs≠0→A.zby≠0∧FOk P A.zhs 2 (zmi N A) [.var 2]
 cbyt:A.zei≠0→FOk P A.zei 2 (zgr N A) [.var 2]
 nob:A.ziz=0∧A.zfz=0
 al:A.zcy≠0→A.zby≠0∧FOk P A.zcy 2 (zjh N A) [.var 2]
 cal:A.zbl≠0→FOk P A.zbl 2 (zfq N A) [.var 2]
 nal:A.zbh≠0→A.zby≠0∧FOk P A.zbh 3 (zfi N A) [.var 3]
 cnal:A.zao≠0→FOk P A.zao 3 (zds N A) [.var 3]
 uv:UvT P N A
 tl:FOk P A.zke 1 (zmg N A) [.var 1]
 ea:FOk P A.zev 2 (zga N A) [.var 3]
 e1:FOk P A.zda 3 (zej N A) []
section
variable {P:Program} {N:Nums} {A:zdo}
theorem apC_of (B:Base P N) (H:ApFns P N A) (hT:EachN P N):ApC P N A where
 pr k hk:=by
  cases k with
  | en t=>exact absurd rfl hk
  | bool=>exact ⟨(H.b hk).has,fun v hv=>by obtain ⟨x,rfl⟩:=hv; exact ap_Bool B (H.b hk) x⟩
  | i8=>exact ⟨(H.i8 hk).2.has,fun v hv=>by obtain ⟨x,rfl,_⟩:=hv; exact ap_Int8 B (H.i8 hk).1 (H.i8 hk).2 x⟩
  | i16=>exact ⟨(H.i16 hk).has,fun v hv=>by obtain ⟨x,rfl,_⟩:=hv; exact zxs B H.u16 (H.i16 hk) x⟩
  | u16=>exact ⟨H.u16.has,fun v hv=>by obtain ⟨x,rfl,_⟩:=hv; exact zaag B H.u16 x⟩
  | i32=>exact ⟨(H.i32 hk).has,fun v hv=>by obtain ⟨x,rfl,_⟩:=hv; exact zqq B (H.u32 hk) (H.i32 hk) x⟩
  | i64=>exact ⟨(H.i64 hk).has,fun v hv=>by obtain ⟨x,rfl,_⟩:=hv; exact ap_Int64 B (H.u64 hk) (H.i64 hk) x⟩
  | uuid=>
   exact ⟨(H.uu hk).2.has,fun v hv=>by
    obtain ⟨s,rfl,hs⟩:=hv
    have e:PK.wr .uuid (.agg (s.map zac).toArray)=s:=zss s
    rw [e]
    intro w lo v l ho hlo hb
    exact ap_Uuid B (H.uu hk).1 (H.uu hk).2 hs ho hlo hb⟩
 txt t fl ht:=by
  obtain ⟨n3,n4⟩:=H.nob
  cases t with
  | str=>
   cases fl with
   | false=>
    refine ⟨(H.str ht).2.has,?_⟩
    intro w lo d c l G v hv hsm hr hG ho hlo hb
    cases v with
    | num x=>
     obtain ⟨s,rfl,hs⟩:=hv
     have hr:[c]=(strV s).cells.toList:=by simpa only [Rep] using hr
     have hc:c=strV s:=by simpa [strV,Value.cells] using hr
     subst hc
     have e:Txt.str.wr false (.num (strV s))=fixB s.length 2++s:=by rw [Txt.wr,zmc,zvy]
     rw [e] at hb ⊢
     have hs2:s.length < 4294967295:=by simpa only [Val.sm,zmc] using hsm
     exact zaah B H.u16 (H.i16 (H.str ht).1) (H.str ht).2 s hs2 ho hlo hb
    | _=>simp only [Txt.okV] at hv
   | true=>
    refine ⟨(H.cstr ht).has,?_⟩
    intro w lo d c l G v hv hsm hr hG ho hlo hb
    cases v with
    | num x=>
     obtain ⟨s,rfl,hs⟩:=hv
     have hr:[c]=(strV s).cells.toList:=by simpa only [Rep] using hr
     have hc:c=strV s:=by simpa [strV,Value.cells] using hr
     subst hc
     have e:Txt.str.wr true (.num (strV s))=uvB (s.length+1)++s:=by rw [Txt.wr,zmc,zoi]
     rw [e] at hb ⊢
     have hs2:s.length < 4294967295:=by simpa only [Val.sm,zmc] using hsm
     exact zmq B H.uv (H.cstr ht) s hs2 ho hlo hb
    | _=>simp only [Txt.okV] at hv
  | nstr=>
   cases fl with
   | false=>
    refine ⟨(H.nstr ht).2.2.has,?_⟩
    intro w lo d c l G v hv hsm hr hG ho hlo hb
    cases v with
    | nstr o=>
     have hs:(o.getD []).length < 4294967295:=by
      cases o with
      | none=>simp
      | some s=>simpa only [Val.sm,Option.getD_some] using hsm
     have h2:=H.str (H.nstr ht).2.1
     exact zrl B (H.nstr ht).1 H.u16 (H.i16 h2.1) h2.2 (H.nstr ht).2.2 (zwy hr) hs ho hlo hb
    | _=>simp only [Txt.okV] at hv
   | true=>
    refine ⟨(H.cnstr ht).2.2.has,?_⟩
    intro w lo d c l G v hv hsm hr hG ho hlo hb
    cases v with
    | nstr o=>
     have hs:(o.getD []).length < 4294967295:=by
      cases o with
      | none=>simp
      | some s=>simpa only [Val.sm,Option.getD_some] using hsm
     exact zqr B (H.cnstr ht).1 H.uv (H.cstr (H.cnstr ht).2.1) (H.cnstr ht).2.2 (zwy hr) hs ho hlo hb
    | _=>simp only [Txt.okV] at hv
  | byt=>
   cases fl with
   | false=>
    refine ⟨(H.byt ht).2.has,?_⟩
    intro w lo d c l G v hv hsm hr hG ho hlo hb
    cases v with
    | oct o=>
     simp only [Rep] at hr
     obtain ⟨x,hx,hx2⟩:=hr
     obtain rfl:c=x:=by simpa using hx
     have e:Txt.byt.wr false (.oct o)=fixB (o.getD []).length 4++o.getD []:=by rw [Txt.wr,zvx]
     rw [e] at hb ⊢
     have hs:(o.getD []).length < 4294967295:=by
      cases o with
      | none=>simp
      | some s=>simpa only [Val.sm,Option.getD_some] using hsm
     exact ap_Bytes B (H.u32 (H.byt ht).1) (H.i32 (H.byt ht).1) (H.byt ht).2 rfl hx2 hs hG ho hlo hb
    | _=>simp only [Txt.okV] at hv
   | true=>
    refine ⟨(H.cbyt ht).has,?_⟩
    intro w lo d c l G v hv hsm hr hG ho hlo hb
    cases v with
    | oct o=>
     simp only [Rep] at hr
     obtain ⟨x,hx,hx2⟩:=hr
     obtain rfl:c=x:=by simpa using hx
     have e:Txt.byt.wr true (.oct o)=uvB ((o.getD []).length+1)++o.getD []:=by rw [Txt.wr,zoi]
     rw [e] at hb ⊢
     have hs:(o.getD []).length < 4294967295:=by
      cases o with
      | none=>simp
      | some s=>simpa only [Val.sm,Option.getD_some] using hsm
     exact zuo B H.uv (H.cbyt ht) rfl hx2 hs hG ho hlo hb
    | _=>simp only [Txt.okV] at hv
  | nbyt=>cases fl<;>exact absurd (by assumption) ht
 al fl h:=by
  cases fl with
  | false=>
   refine ⟨(H.al h).2.has,fun n hn=>?_⟩
   rw [zvx]
   exact zabz B (H.u32 (H.al h).1) (H.i32 (H.al h).1) (H.al h).2 n
  | true=>
   refine ⟨(H.cal h).has,fun n hn=>?_⟩
   rw [zoi]
   exact zaaj B H.uv (H.cal h) hn
 nl fl h:=by
  cases fl with
  | false=>exact ⟨(H.nal h).2.has,fun n b hn=>zaai B (H.u32 (H.nal h).1) (H.i32 (H.nal h).1) (H.nal h).2 n b⟩
  | true=>exact ⟨(H.cnal h).has,fun n b hn=>zxt B H.uv (H.cnal h) hn b⟩
 uv:=H.uv
 tl:=H.tl
 ea:=H.ea
 e1:=H.e1
 tn:=hT
end
end Go.Kf
