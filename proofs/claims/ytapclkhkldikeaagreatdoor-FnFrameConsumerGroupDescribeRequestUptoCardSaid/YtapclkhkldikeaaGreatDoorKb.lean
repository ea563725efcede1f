/- A part of the calculus by which the claim's proof goes: over any program and any numbering of its functions; no condition beyond those that each theorem names. -/
import Derived.Laws.BytesArg
import Derived.Laws.IdiomCopy
import Derived.Laws.AppendOwn
import Derived.Test.YtapclkhkldikeaaGreatDoorKa
set_option linter.unusedSimpArgs false
set_option linter.unusedVariables false
namespace Go.Kf
open Go Go.RowKit
section
variable {P:Program} {N:Nums} {loc:List Nat} {N':Nat} {Q:Exit→Env→World→Prop} {σ:Env} {w:World}
theorem zao {i:Nat} {v:Value} (h:Q .normal (upd σ i v) w):W P loc N' (.ops [⟨some (i+100),.assign (.const v),0,none,[]⟩]) Q σ w:=by
 refine zi fun τ=>?_
 simp +decide only [bK,zk,locs_envOf]
 exact h
theorem zgp {i j:Nat} (h:Q .normal (upd σ i (σ j)) w):W P loc N' (.ops [⟨some 0,.move (V j),0,none,[]⟩,⟨some (i+100),.assign (T 0),0,none,[]⟩]) Q σ w:=by
 refine zi fun τ=>?_
 simp +decide only [bK,bE,BEq.rfl,Nat.reduceLT,zk,zai,locs_envOf]
 exact h
theorem W_if {i:Nat} {x y:C} {t:Bool} (hlo:zei loc N') (hi:σ i=.bool t) (h:W P loc N' (if t then x else y) Q σ w):W P loc N' (.cond i x y) Q σ w:=
 W_cond hi (fun s hs=>hlo.lt i s hs) h
def fixC (N:Nums) (c:Int) (z:Value) (mid tail:C):C:=
 .seq (.ops [⟨some (1+100),.assign (.const z),0,none,[]⟩]) (
 .seq (.seq (.ops [⟨some 0,.move (V 0),0,none,[]⟩,⟨some 1,.nilCheck (T 0),0,none,[]⟩,⟨some 2,.fieldAddr N.zv (T 1) 0,0,none,[]⟩,⟨some 3,.load N.za (T 2),0,none,[]⟩,
   ⟨some 4,.call ⟨.builtin .len,#[T 3],#[N.za]⟩,N.ze,none,[]⟩,⟨some (2+100),.binOp .lss N.ze (T 4) (.const (.int .i64 c)) N.ze,0,none,[]⟩])
  (.cond 2
   (.seq (.ops [⟨some 0,.move (V 0),0,none,[]⟩,⟨some 1,.nilCheck (T 0),0,none,[]⟩,⟨some 2,.fieldAddr N.zv (T 1) 1,0,none,[]⟩,⟨none,.store N.zay (T 2) (.const (.bool true)),0,none,[]⟩])
   (.seq (.ops [⟨some 0,.move (V 0),0,none,[]⟩,⟨some 1,.nilCheck (T 0),0,none,[]⟩,⟨some 2,.fieldAddr N.zv (T 1) 0,0,none,[]⟩,⟨none,.store N.za (T 2) (.const (.slice none 0 0)),0,none,[]⟩])
   (.seq (.ops [⟨some (1+100),.assign (.const z),0,none,[]⟩]) .ret)))
   .skip)) (
 .seq mid (
 .seq (.ops [⟨some 0,.move (V 0),0,none,[]⟩,⟨some 1,.move (V 0),0,none,[]⟩,⟨some 2,.nilCheck (T 1),0,none,[]⟩,⟨some 3,.fieldAddr N.zv (T 2) 0,0,none,[]⟩,⟨some 4,.load N.za (T 3),0,none,[]⟩,
   ⟨some 5,.slice N.za (T 4) (some (.const (.int .i64 c))) none none,0,none,[]⟩,⟨some 6,.nilCheck (T 0),0,none,[]⟩,⟨some 7,.fieldAddr N.zv (T 6) 0,0,none,[]⟩,⟨none,.store N.za (T 7) (T 5),0,none,[]⟩]) (
 .seq tail .ret))))
theorem W_fix (B:Base P N) {c:Nat} {ci:Int} (hci:ci=c) {z:Value} {mid tail:C} {u f:List UInt8→Value}
  (hmid:∀ (σ:Env) (w:World) (lo hi r:Nat) (s:RS) (Q:Exit→Env→World→Prop),RdAt w lo hi r s→c≤s.l.length→σ 0=.pointer (some ⟨r,0,none⟩)→(∀ w',Mod w w' zy→Q .normal (upd σ 3 (u (s.l.take c))) w')→W P loc N' mid Q σ w)
  (htail:∀ (σ:Env) (w:World) (l:List UInt8) (Q:Exit→Env→World→Prop),σ 3=u l→Q .normal (upd σ 1 (f l)) w→W P loc N' tail Q σ w)
  (hlo:zei loc N') {lo hi r:Nat} {s:RS} (hr:RdAt w lo hi r s) :
  W P loc N' (fixC N ci z mid tail) (retQ P [.var 1] fun v w'=>v=(zeh c f z s).1∧RdAt w' lo hi r (zeh c f z s).2∧Mod w w' (blk r)) (zdf #[.pointer (some ⟨r,0,none⟩)]) w:=by
 subst hci
 unfold fixC
 refine zd fun K hK=>zao ?_
 refine hK _ _ ?_
 clear hK K
 refine zd fun K hK=>zd fun K1 hK1=>W_left (i:=0) B (by simp [zg,zbh]) hr ?_
 refine hK1 _ _ (W_if hlo (upd_same _ _ _) ?_)
 clear hK1 K1
 by_cases hc:s.l.length < c
 ·have h1:decide ((s.l.length:Int) < (c:Int))=true:=by simpa using hc
  rw[h1,if_pos rfl]
  clear hK
  refine zd fun K1 hK1=>W_bad (i:=0) B (r:=r) (by simp [zg,zbh]) hr.there ?_
  refine hK1 _ _ ?_
  clear hK1 K1
  refine zd fun K1 hK1=>zvc (i:=0) B (r:=r) (by simp [zg,zbh]) (zhu hr.there) ?_
  refine hK1 _ _ ?_
  clear hK1 K1
  refine zd fun K1 hK1=>zao ?_
  refine hK1 _ _ (zbb ⟨.inr rfl,z,by simp [Gives,zacx],?_⟩)
  have e:zeh c f z s=(z,⟨[],true,true⟩):=by unfold zeh; rw[if_pos hc]
  rw[e]
  exact⟨rfl,hr.bad.1,hr.bad.2⟩
 ·have h1:decide ((s.l.length:Int) < (c:Int))=false:=by simpa using hc
  rw[h1,if_neg (by simp)]
  refine zbd (hK _ _ ?_)
  clear hK K
  refine zd fun K hK=>hmid _ _ lo hi r s _ hr (by omega) (by simp [zg,zbh]) fun w1 hm1=>hK _ _ ?_
  clear hK K
  have hr1:RdAt w1 lo hi r s:=hr.mod hm1 (fun _ h=>h) (fun _ _ _ _ h=>h)
  refine zd fun K hK=>W_adv (i:=0) B (by simp [zg,zbh]) hr1 (k:=c) (by omega) fun w2 hr2 hm2=>hK _ _ ?_
  clear hK K
  refine zd fun K hK=>htail _ _ (s.l.take c) _ (upd_same _ _ _) (hK _ _ (zbb ⟨.inr rfl,f (s.l.take c),by simp [Gives,zacx],?_⟩))
  have e:zeh c f z s=(f (s.l.take c),⟨s.l.drop c,s.bad,s.nl⟩):=by unfold zeh; rw[if_neg hc]
  rw[e]
  exact⟨rfl,hr2,hm1.trans hm2 fun k o _ h=>h.elim (fun h=>h.elim) id⟩
theorem zyk {r lo hi:Nat} {s:RS} (B:Base P N) (hr:RdAt w lo hi r s) {f:FuncId} {ty:TypeId} {n:Nat} {u:List UInt8→Value} (hn:n≤s.l.length) (hf:zcp P f)
  (hc:∀ w v,zbz w lo hi v s.nl s.l→hi≤w.heap.size→Call P f #[.agg #[],v] w fun v w'=>v=u (s.l.take n)∧Mod w w' zy) (hi0:σ 0=.pointer (some ⟨r,0,none⟩)) {rest:List ROp}
  (hB:tailB [⟨some 0,.load N.zbt (.global N.zfr),0,none,[]⟩,⟨some 1,.move (V 0),0,none,[]⟩,⟨some 2,.nilCheck (T 1),0,none,[1]⟩,⟨some 3,.fieldAddr N.zv (T 2) 0,0,none,[2]⟩,⟨some 4,.load N.za (T 3),0,none,[3]⟩]
   (⟨some 5,.call ⟨.value (.func f),#[T 0,T 4],#[N.zbt,N.za]⟩,ty,none,[0,4]⟩ :: rest)=true)
  (h:∀ (ρ:Env) (w':World),(∀ i,ρ (i+100)=σ i)→ρ 5=u (s.l.take n)→Mod w w' zy→runR P rest ρ w' fun ρ w=>Q .normal (locs ρ) w) :
  W P loc N' (.draw (⟨some 0,.load N.zbt (.global N.zfr),0,none,[]⟩ :: ⟨some 1,.move (V 0),0,none,[]⟩ :: ⟨some 2,.nilCheck (T 1),0,none,[1]⟩ :: ⟨some 3,.fieldAddr N.zv (T 2) 0,0,none,[2]⟩ :: ⟨some 4,.load N.za (T 3),0,none,[3]⟩ ::
   ⟨some 5,.call ⟨.value (.func f),#[T 0,T 4],#[N.zbt,N.za]⟩,ty,none,[0,4]⟩ :: rest)) Q σ w:=by
 refine zvd B.mixed [⟨some 0,.load N.zbt (.global N.zfr),0,none,[]⟩,⟨some 1,.move (V 0),0,none,[]⟩,⟨some 2,.nilCheck (T 1),0,none,[1]⟩,⟨some 3,.fieldAddr N.zv (T 2) 0,0,none,[2]⟩,⟨some 4,.load N.za (T 3),0,none,[3]⟩] _ rfl hB fun τ=>?_
 obtain⟨v,hv,hb⟩:=hr.cell0
 have hv':w.drew.cell? ⟨r,0,none⟩=some v:=hv
 have hbig:(Instr.loadAt N.zbt (.pointer (some ⟨N.zfr,0,none⟩))).run P w.drew=.ok (.agg #[]) w.drew:=
  B.big.run_load (b:=N.zfr) (o:=0) (cs:=[]) (fun j v hj=>by simp at hj) rfl (fun h=>by cases h)
 simp +decide (disch:=omega) only [bK,bE,zjt,Nat.reduceBeqDiff,BEq.rfl,Nat.zero_add,true_and,hbig,hi0]
 rw[zw rfl]
 simp +decide (disch:=omega) only [bK,bE,BEq.rfl,Nat.add_zero,true_and,B.reader0.run,B.Lu8.run_load1 rfl,hv']
 rw[zah hf]
 simp +decide only [bK,bE,Nat.reduceBeqDiff,BEq.rfl]
 have hm:Mod w w.drew zy:=Mod.drew _ _
 refine(hc w.drew v (hb.mod hm hr.hi_le fun _ _ _ _ h=>h) hr.hi_le).mono ?_
 rintro v' w' ⟨rfl,hm'⟩
 refine h _ _ (fun i=>?_) ?_ (hm.trans' hm')
 ·simp +decide only [bE,Nat.reduceBeqDiff]
 ·simp +decide only [bE,BEq.rfl]
end
section
variable {P:Program} {N:Nums}
theorem rd_Int16 (B:Base P N) (F:Fns P N) (hN:N.zbm≠0):RdOk P N.zbm (zeh 2 (fun l=>.int .i16 (IntKind.i16.wrap (be l))) (.int .i16 0)):=by
 intro w lo hi r s hr
 have h:=F.PReader_Int16 hN
 refine h.1.call rfl fun loc N' hlo=>?_
 have hU:=F.bigEndian_Uint16 h.2
 refine W_fix B (c:=2) (ci:=2) rfl (z:=(.int .i16 0)) (u:=(fun l=>.int .i16 (IntKind.i16.wrap (be l)))) (f:=(fun l=>.int .i16 (IntKind.i16.wrap (be l)))) ?_ ?_ hlo hr
 ·intro σ w lo hi r s Q hr hn h0 hQ
  refine zyk B hr (u:=fun l=>.int .u16 (be l)) hn hU.has (fun w v hb hh=>zyn B F h.2 hb hn hh) h0 (by kernel_rfl) fun ρ w' hρ h5 hm=>?_
  simp +decide only [bK,bE,BEq.rfl,Nat.reduceAdd,Nat.reduceLT,h5,zat B.uint16 B.int16 ⟨_,rfl⟩,zk,zai]
  have e:locs ρ=σ:=funext hρ
  rw[e]
  exact hQ w' hm
 ·intro σ w l Q h3 hQ
  refine zgp (i:=1) (j:=3) ?_
  rw[h3]; exact hQ
theorem rd_Int32 (B:Base P N) (F:Fns P N) (hN:N.zcc≠0):RdOk P N.zcc (zeh 4 (fun l=>.int .i32 (IntKind.i32.wrap (be l))) (.int .i32 0)):=by
 intro w lo hi r s hr
 have h:=F.PReader_Int32 hN
 refine h.1.call rfl fun loc N' hlo=>?_
 have hU:=F.bigEndian_Uint32 h.2
 refine W_fix B (c:=4) (ci:=4) rfl (z:=(.int .i32 0)) (u:=(fun l=>.int .i32 (IntKind.i32.wrap (be l)))) (f:=(fun l=>.int .i32 (IntKind.i32.wrap (be l)))) ?_ ?_ hlo hr
 ·intro σ w lo hi r s Q hr hn h0 hQ
  refine zyk B hr (u:=fun l=>.int .u32 (be l)) hn hU.has (fun w v hb hh=>uint32_ok B F h.2 hb hn hh) h0 (by kernel_rfl) fun ρ w' hρ h5 hm=>?_
  simp +decide only [bK,bE,BEq.rfl,Nat.reduceAdd,Nat.reduceLT,h5,zat B.uint32 B.int32 ⟨_,rfl⟩,zk,zai]
  have e:locs ρ=σ:=funext hρ
  rw[e]
  exact hQ w' hm
 ·intro σ w l Q h3 hQ
  refine zgp (i:=1) (j:=3) ?_
  rw[h3]; exact hQ
theorem rd_Uint16 (B:Base P N) (F:Fns P N) (hN:N.zfy≠0):RdOk P N.zfy (zeh 2 (fun l=>.int .u16 (be l)) (.int .u16 0)):=by
 intro w lo hi r s hr
 have h:=F.PReader_Uint16 hN
 refine h.1.call rfl fun loc N' hlo=>?_
 have hU:=F.bigEndian_Uint16 h.2
 refine W_fix B (c:=2) (ci:=2) rfl (z:=(.int .u16 0)) (u:=(fun l=>.int .u16 (be l))) (f:=(fun l=>.int .u16 (be l))) ?_ ?_ hlo hr
 ·intro σ w lo hi r s Q hr hn h0 hQ
  refine zyk B hr (u:=fun l=>.int .u16 (be l)) hn hU.has (fun w v hb hh=>zyn B F h.2 hb hn hh) h0 (by kernel_rfl) fun ρ w' hρ h5 hm=>?_
  simp +decide only [bK,Nat.reduceAdd,h5,zk]
  have e:locs ρ=σ:=funext hρ
  rw[e]
  exact hQ w' hm
 ·intro σ w l Q h3 hQ
  refine zgp (i:=1) (j:=3) ?_
  rw[h3]; exact hQ
theorem zxj (B:Base P N) (F:Fns P N) (hN:N.zdw≠0):RdOk P N.zdw (zeh 8 (fun l=>.int .u64 (be l)) (.int .u64 0)):=by
 intro w lo hi r s hr
 have h:=F.PReader_readUint64 hN
 refine h.1.call rfl fun loc N' hlo=>?_
 have hU:=F.bigEndian_Uint64 h.2
 refine W_fix B (c:=8) (ci:=8) rfl (z:=(.int .u64 0)) (u:=(fun l=>.int .u64 (be l))) (f:=(fun l=>.int .u64 (be l))) ?_ ?_ hlo hr
 ·intro σ w lo hi r s Q hr hn h0 hQ
  refine zyk B hr (u:=fun l=>.int .u64 (be l)) hn hU.has (fun w v hb hh=>uint64_ok B F h.2 hb hn hh) h0 (by kernel_rfl) fun ρ w' hρ h5 hm=>?_
  simp +decide only [bK,Nat.reduceAdd,h5,zk]
  have e:locs ρ=σ:=funext hρ
  rw[e]
  exact hQ w' hm
 ·intro σ w l Q h3 hQ
  refine zgp (i:=1) (j:=3) ?_
  rw[h3]; exact hQ
theorem zabt (B:Base P N) (F:Fns P N) (hN:N.zdt≠0) (h8:N.zjd≠0):RdOk P N.zdt (zeh 1 (fun l=>.int .i8 (IntKind.i8.wrap (be l))) (.int .i8 0)):=by
 intro w lo hi r s hr
 refine(F.PReader_Int8 hN).call rfl fun loc N' hlo=>?_
 refine W_fix B (c:=1) (ci:=1) rfl (z:=.int .i8 0) (u:=fun l=>.int .u8 (be l)) (f:=fun l=>.int .i8 (IntKind.i8.wrap (be l))) ?_ ?_ hlo hr
 ·intro σ w lo hi r s Q hr hn h0 hQ
  refine zi fun τ=>?_
  obtain⟨v,hv,hb⟩:=hr.cell0
  rcases hb with⟨_,_,hl⟩ | ⟨b,o,c,_,rfl,h2,h34,h5⟩
  ·rw[hl] at hn; simp at hn
  obtain⟨x,l,hl⟩:∃ x l,s.l=x :: l:=by
   cases hs:s.l with
   | nil=>rw[hs] at hn; simp at hn
   | cons x l=>exact⟨x,l,rfl⟩
  rw[hl] at h5
  have hx:w.cell? ⟨b,o,none⟩=some (zz x):=h5 0 _ rfl
  simp +decide (disch:=omega) only [bK,bE,BEq.rfl,Nat.reduceAdd,Nat.zero_add,h0]
  rw[zw rfl]
  simp +decide (disch:=omega) only [bK,bE,BEq.rfl,Int.reduceToNat,Nat.add_zero,Nat.mul_one,B.reader0.run,B.Lu8.run_load1 rfl,hv,zhk B.Lu8 B.uint8,B.uint8.run_load1 rfl,hx,zz,zk,zai,locs_envOf]
  have e:=hQ w (Mod.refl _ _)
  rw[hl] at e
  simpa [be] using e
 ·intro σ w l Q h3 hQ
  refine zi fun τ=>?_
  simp +decide (disch:=omega) only [bK,bE,BEq.rfl,Nat.reduceAdd,h3,zat B.uint8 (B.int8 h8) ⟨_,rfl⟩,zk,zai,locs_envOf]
  exact hQ
theorem rd_Bool (B:Base P N) (F:Fns P N) (hN:N.zhd≠0):RdOk P N.zhd (zeh 1 (fun l=>.bool (be l != 0)) (.bool false)):=by
 intro w lo hi r s hr
 refine(F.PReader_Bool hN).call rfl fun loc N' hlo=>?_
 refine W_fix B (c:=1) (ci:=1) rfl (z:=.bool false) (u:=fun l=>.bool (be l != 0)) (f:=fun l=>.bool (be l != 0)) ?_ ?_ hlo hr
 ·intro σ w lo hi r s Q hr hn h0 hQ
  refine zi fun τ=>?_
  obtain⟨v,hv,hb⟩:=hr.cell0
  rcases hb with⟨_,_,hl⟩ | ⟨b,o,c,_,rfl,h2,h34,h5⟩
  ·rw[hl] at hn; simp at hn
  obtain⟨x,l,hl⟩:∃ x l,s.l=x :: l:=by
   cases hs:s.l with
   | nil=>rw[hs] at hn; simp at hn
   | cons x l=>exact⟨x,l,rfl⟩
  rw[hl] at h5
  have hx:w.cell? ⟨b,o,none⟩=some (zz x):=h5 0 _ rfl
  simp +decide (disch:=omega) only [bK,bE,BEq.rfl,Nat.reduceAdd,Nat.zero_add,h0]
  rw[zw rfl]
  simp +decide (disch:=omega) only [bK,bE,BEq.rfl,Int.reduceToNat,Nat.add_zero,Nat.mul_one,B.reader0.run,B.Lu8.run_load1 rfl,hv,zhk B.Lu8 B.uint8,B.uint8.run_load1 rfl,hx,zz,zk,zai,locs_envOf]
  have e:=hQ w (Mod.refl _ _)
  rw[hl] at e
  have e2:((x.toNat:Int) != 0)=(be (List.take 1 (x :: l)) != 0):=by
   have:be (List.take 1 (x :: l))=x.toNat:=by simp [be]
   rw[this]
   cases hx0:x.toNat with
   | zero=>rfl
   | succ n=>rfl
  rw[e2]
  exact e
 ·intro σ w l Q h3 hQ
  refine zgp (i:=1) (j:=3) ?_
  rw[h3]; exact hQ
theorem rd_Int64 (B:Base P N) (F:Fns P N) (hN:N.zgn≠0):RdOk P N.zgn (zeh 8 (fun l=>.int .i64 (IntKind.i64.wrap (be l))) (.int .i64 0)):=by
 intro w lo hi r s hr
 have h:=F.PReader_Int64 hN
 refine h.1.call rfl fun loc N' hlo=>?_
 unfold znw
 refine zd fun K hK=>zao (hK _ _ ?_)
 clear hK K
 refine zd fun K hK=>zi fun τ=>?_
 simp +decide only [bK,bE,BEq.rfl,Nat.reduceAdd,Nat.zero_add,zg]
 rw[zan (F.PReader_readUint64 h.2).1.has]
 simp +decide only [bK,bE,BEq.rfl]
 refine(zxj B F h.2 w lo hi r s hr).mono ?_
 rintro v w' ⟨rfl,hr',hm⟩
 have ec:∀ w',(convert N.zaj N.zcv (zeh 8 (fun l=>.int .u64 (be l)) (.int .u64 0) s).1).run P w'=.ok (zeh 8 (fun l=>.int .i64 (IntKind.i64.wrap (be l))) (.int .i64 0) s).1 w':=by
  intro w'
  unfold zeh
  split
  ·exact zat B.uint64 B.int64 ⟨_,rfl⟩
  ·exact zat B.uint64 B.int64 ⟨_,rfl⟩
 have es:(zeh 8 (fun l=>.int .u64 (be l)) (.int .u64 0) s).2=(zeh 8 (fun l=>.int .i64 (IntKind.i64.wrap (be l))) (.int .i64 0) s).2:=by
  unfold zeh; split<;>rfl
 rw[es] at hr'
 simp +decide only [bK,ec]
 refine hK _ _ (zb fun σ1 hσ=>zbb ⟨.inr rfl,_,rfl,?_⟩)
 have e1:=hσ 1
 simp +decide only [bE,BEq.rfl,Nat.reduceAdd] at e1
 rw[e1]
 exact⟨rfl,hr',hm⟩
end
def strV (l:List UInt8):Value:=.string ⟨l.toArray⟩
section
variable {P:Program} {N:Nums}
theorem zbz.toStr (B:Base P N) {w:World} {lo hi:Nat} {v:Value} {nl:Bool} {l:List UInt8} (h:zbz w lo hi v nl l):(convert N.za N.zac v).run P w=.ok (strV l) w:=by
 rcases h with⟨_,rfl,rfl⟩ | ⟨b,o,c,_,rfl,h2,h34,h5⟩
 ·exact run_convert_bytes_nil w _ _ B.Lu8.und B.uint8.und 0 0 _ B.string.und
 ·rw[run_convert_bytes_arg w _ _ B.Lu8.und B.uint8.und b o l.length c (l.map fun x=>(x.toNat:Int)) (by simp) (fun i hi=>?_) _ B.string.und]
  ·unfold strOfNums strV
   rw[List.map_map]
   have e:l.map ((fun n:Int=>UInt8.ofNat n.toNat) ∘ fun x:UInt8=>(x.toNat:Int))=l:=by
    conv=>rhs; rw[← List.map_id l]
    refine List.map_congr_left fun x _=>?_
    simp
   rw[e]
  ·have:=h5 i (zz l[i]) (by simp [hi])
   rw[this]
   simp [zz,List.getD,hi]
theorem zbz.oneCell {w:World} {lo hi:Nat} {v:Value} {nl:Bool} {l:List UInt8} (h:zbz w lo hi v nl l):v.oneCell'=true:=by
 rcases h with⟨_,rfl,rfl⟩ | ⟨b,o,c,_,rfl,_⟩<;>rfl
theorem zbz.len (B:Base P N) {w w':World} {lo hi:Nat} {v:Value} {nl:Bool} {l:List UInt8} {ty:TypeId} (h:zbz w lo hi v nl l):(Builtin.len_ #[N.za] ty #[v]).run P w'=.ok (.int .i64 l.length) w':=by
 rcases h with⟨_,rfl,rfl⟩ | ⟨b,o,c,_,rfl,_⟩
 ·rw[B.Lu8.run_len]; rfl
 ·exact B.Lu8.run_len
theorem rd_Ok (B:Base P N) (F:Fns P N) (hN:N.zeg≠0):RdOk P N.zeg fun s=>(.bool (!s.bad),s):=by
 intro w lo hi r s hr
 refine(F.PReader_Ok hN).call rfl fun loc N' hlo=>?_
 unfold zsm
 refine zd fun K hK=>zao (hK _ _ ?_)
 clear hK K
 refine zd fun K hK=>zi fun τ=>?_
 have h1:=hr.cell1
 simp +decide only [bK,bE,BEq.rfl,Nat.reduceAdd,Nat.zero_add,zg]
 rw[zw rfl]
 simp +decide only [bK,bE,BEq.rfl,Nat.zero_add,B.reader1.run,B.bool.run_load1 rfl,h1]
 refine hK _ _ (zb fun σ1 hσ=>zbb ⟨.inr rfl,_,rfl,?_⟩)
 have e1:=hσ 1
 simp +decide only [bE,BEq.rfl,Nat.reduceAdd] at e1
 rw[e1]
 exact⟨rfl,hr,Mod.refl _ _⟩
theorem zie (B:Base P N) (F:Fns P N) (hN:N.zaf≠0) {ds:TypeDesc} {by':Nat} (hE:TI P N.zgc ds 1 by' .nilIface) (hEd:zqn ds=false) {w:World} {e:Value} (he:w.cell? ⟨N.zj,0,none⟩=some e) {lo hi r:Nat} {s:RS} (hr:RdAt w lo hi r s) :
  Call P N.zaf #[.pointer (some ⟨r,0,none⟩)] w fun v w'=>v=(if s.bad then e else .nilIface)∧w'=w:=by
 refine(F.PReader_Complete hN).call rfl fun loc N' hlo=>?_
 unfold zlc
 refine zd fun K hK=>zao (hK _ _ ?_)
 clear hK K
 obtain⟨bd,hbd⟩:∃ b,s.bad=b:=⟨_,rfl⟩
 rw[hbd]
 refine zd fun K hK=>zd fun K1 hK1=>zi fun τ=>?_
 have h1:=hr.cell1
 rw[hbd] at h1
 simp +decide only [bK,bE,BEq.rfl,Nat.reduceAdd,Nat.zero_add,zg]
 rw[zw rfl]
 simp +decide only [bK,bE,BEq.rfl,Nat.zero_add,B.reader1.run,B.bool.run_load1 rfl,h1]
 refine hK1 _ _ (zb fun σ1 hσ=>?_)
 have e2:=hσ 2
 simp +decide only [bE,BEq.rfl,Nat.reduceAdd] at e2
 refine W_if hlo e2 ?_
 cases bd with
 | true=>
  rw[if_pos rfl]
  refine zd fun K2 hK2=>zi fun τ=>?_
  simp +decide only [bK,bE,BEq.rfl,Nat.reduceAdd,if_true,hE.run_load1 hEd,he]
  refine hK2 _ _ (zb fun σ2 hσ=>zbb ⟨.inr rfl,_,rfl,?_⟩)
  have e1:=hσ 1
  simp +decide only [bE,BEq.rfl,Nat.reduceAdd] at e1
  rw[e1]
  exact⟨rfl,rfl⟩
 | false=>
  rw[if_neg (by simp)]
  refine zbd (hK _ _ ?_)
  refine zd fun K2 hK2=>zao (hK2 _ _ (zbb ⟨.inr rfl,_,rfl,?_⟩))
  exact⟨rfl,rfl⟩
def zso (n:Int) (s:RS):Bool:=decide (n < 0) || decide ((s.l.length:Int) < n)
def zeu (n:Int) (s:RS):List UInt8:=if zso n s then [] else s.l.take n.toNat
def zvj (n:Int) (s:RS):Bool:=if zso n s then true else s.nl
def zjn (n:Int) (s:RS):RS:=if zso n s then ⟨[],true,true⟩ else ⟨s.l.drop n.toNat,s.bad,s.nl⟩
theorem zbz.cut (B:Base P N) {w:World} {lo hi:Nat} {v:Value} {nl:Bool} {l:List UInt8} {k:Nat} (h:zbz w lo hi v nl l) (hk:k≤l.length) :
  ∃ v',(Instr.sliceAt N.za v none (some (.int .i64 k)) (some (.int .i64 k))).run P w=.ok v' w∧zbz w lo hi v' nl (l.take k):=by
 rcases h with⟨h0,rfl,rfl⟩ | ⟨b,o,c,h0,rfl,h2,h34,h5⟩
 ·have:k=0:=by simpa using hk
  subst this
  exact⟨_,zqh B.Lu8 B.uint8 (Nat.le_refl _),.inl ⟨h0,rfl,by simp⟩⟩
 ·refine⟨_,zqh B.Lu8 B.uint8 (by omega),.inr ⟨b,o,k,h0,by simp; omega,by simp; omega,fun hne=>h34 (fun e=>hne (by rw[e]; simp)),fun j u hj=>h5 j u ?_⟩⟩
  rw[List.map_take] at hj
  have hjk:j < k:=by have:=(List.getElem?_eq_some_iff.1 hj).1; simp at this; omega
  rw[List.getElem?_take_of_lt hjk] at hj
  exact hj
theorem W_advV {loc:List Nat} {N':Nat} {Q:Exit→Env→World→Prop} {σ:Env} {w:World} {i j r lo hi k:Nat} {s:RS} (B:Base P N) (h:σ i=.pointer (some ⟨r,0,none⟩)) (hj:σ j=.int .i64 k) (hr:RdAt w lo hi r s) (hk:k≤s.l.length) (hQ:∀ w',RdAt w' lo hi r ⟨s.l.drop k,s.bad,s.nl⟩→Mod w w' (blk r)→Q .normal σ w') :
  W P loc N' (.ops [⟨some 0,.move (V i),0,none,[]⟩,⟨some 1,.move (V i),0,none,[]⟩,⟨some 2,.nilCheck (T 1),0,none,[]⟩,⟨some 3,.fieldAddr N.zv (T 2) 0,0,none,[]⟩,⟨some 4,.load N.za (T 3),0,none,[]⟩,⟨some 5,.move (V j),0,none,[]⟩,
   ⟨some 6,.slice N.za (T 4) (some (T 5)) none none,0,none,[]⟩,⟨some 7,.nilCheck (T 0),0,none,[]⟩,⟨some 8,.fieldAddr N.zv (T 7) 0,0,none,[]⟩,⟨none,.store N.za (T 8) (T 6),0,none,[]⟩]) Q σ w:=by
 refine zi fun τ=>?_
 obtain⟨v,hv,hb⟩:=hr.cell0
 obtain⟨v',hs,hb',hone⟩:=hb.adv B hk
 have st:=B.Lu8.run_store1 (w:=w) (b:=r) (o:=0) (v:=v') hone (zqb (i:=0) hr.there (by omega))
 simp +decide (disch:=omega) only [bK,bE,Nat.reduceBeqDiff,BEq.rfl,Option.map_some,Option.map_none,h]
 rw[zw rfl]
 simp +decide (disch:=omega) only [bK,bE,Nat.reduceBeqDiff,BEq.rfl,Nat.add_zero,B.reader0.run,B.Lu8.run_load1 rfl,hv,hj,hs]
 rw[zw rfl]
 simp +decide (disch:=omega) only [bK,bE,Nat.reduceBeqDiff,BEq.rfl,Nat.add_zero,B.reader0.run,st,zai,locs_envOf]
 have m:Mod w (w.setCell ⟨r,0,none⟩ v') (blk r):=Mod.setCell fun _=>rfl
 refine hQ _ (RdAt.mk' (World.cell?_setCell_same _ _ _ hv) (by rw[World.cell?_setCell_other _ _ _ _ (by simp)]; exact hr.cell1) (hb'.mod m hr.hi_le fun k o h1 h2 he=>?_) (m.there hr.lt hr.there) (Nat.le_trans hr.hi_le m.size) hr.apart) m
 have:k=r:=he
 have:=hr.apart
 omega
theorem zly (B:Base P N) (F:Fns P N) (hN:N.zu≠0) {w:World} {lo hi r:Nat} {s:RS} {n:Int} (hr:RdAt w lo hi r s) :
  Call P N.zu #[.pointer (some ⟨r,0,none⟩),.int .i64 n] w fun v w'=>zbz w' lo hi v (zvj n s) (zeu n s)∧RdAt w' lo hi r (zjn n s)∧Mod w w' (blk r):=by
 refine(F.PReader_Span hN).call rfl fun loc N' hlo=>?_
 unfold zpj
 refine zd fun K hK=>zao (hK _ _ ?_)
 clear hK K
 have hp:upd (zdf #[.pointer (some ⟨r,0,none⟩),.int .i64 n]) 2 (.slice none 0 0) 0=.pointer (some ⟨r,0,none⟩):=by simp [zg,zcx]
 have hn:upd (zdf #[.pointer (some ⟨r,0,none⟩),.int .i64 n]) 2 (.slice none 0 0) 1=.int .i64 n:=by simp [zg,zck]
 generalize upd (zdf #[.pointer (some ⟨r,0,none⟩),.int .i64 n]) 2 (.slice none 0 0)=σ at *
 obtain⟨v,hv,hb⟩:=hr.cell0
 have hlen:=hb.len B (w':=w) (ty:=N.ze)
 refine zd fun K hK=>zd fun K1 hK1=>zi fun τ=>?_
 have key:∀ σ':Env,σ' 0=.pointer (some ⟨r,0,none⟩)→σ' 1=.int .i64 n→σ' 3=.bool (zso n s)→K1 σ' w:=by
  intro σ1 h0 h1 h3
  refine hK1 _ _ (W_if hlo h3 ?_)
  cases hbad:zso n s with
  | true=>
   rw[if_pos rfl]
   refine zd fun K2 hK2=>W_bad (i:=0) B h0 hr.there (hK2 _ _ ?_)
   refine zd fun K3 hK3=>zvc (i:=0) B h0 (zhu hr.there) (hK3 _ _ ?_)
   refine zd fun K4 hK4=>zao (hK4 _ _ (zbb ⟨.inr rfl,_,rfl,?_⟩))
   rw[upd_same]
   unfold zvj zeu zjn
   rw[hbad]
   exact⟨.inl ⟨rfl,rfl,rfl⟩,hr.bad.1,hr.bad.2⟩
  | false=>
   rw[if_neg (by simp)]
   refine zbd (hK _ _ ?_)
   unfold zso at hbad
   simp only [Bool.or_eq_false_iff,decide_eq_false_iff_not] at hbad
   obtain⟨m,rfl⟩:∃ m:Nat,n=m:=⟨n.toNat,by omega⟩
   have hm:m≤s.l.length:=by omega
   obtain⟨v',hcut,hb'⟩:=hb.cut B hm
   refine zd fun K2 hK2=>zi fun τ=>?_
   simp +decide (disch:=omega) only [bK,bE,Nat.reduceBeqDiff,BEq.rfl,Nat.reduceAdd,Nat.zero_add,Option.map_some,Option.map_none,h0]
   rw[zw rfl]
   simp +decide (disch:=omega) only [bK,bE,Nat.reduceBeqDiff,BEq.rfl,Nat.add_zero,B.reader0.run,B.Lu8.run_load1 rfl,hv,h1,hcut]
   refine hK2 _ _ (zb fun σ2 hσ=>?_)
   have f0:=hσ 0
   have f1:=hσ 1
   have f4:=hσ 4
   simp +decide only [bE,Nat.reduceBeqDiff,BEq.rfl,Nat.reduceAdd,Nat.zero_add,h0,h1] at f0 f1 f4
   refine zd fun K3 hK3=>W_advV (i:=0) (j:=1) B f0 f1 hr hm fun w' hr' hmod=>hK3 _ _ ?_
   refine zd fun K4 hK4=>zgp (i:=2) (j:=4) (hK4 _ _ (zbb ⟨.inr rfl,_,rfl,?_⟩))
   rw[upd_same,f4]
   have hsb:zso (m:Int) s=false:=by unfold zso; simp; omega
   unfold zvj zeu zjn
   rw[hsb]
   refine⟨hb'.mod hmod hr.hi_le fun k o h1 h2 he=>?_,hr',hmod⟩
   have:k=r:=he
   have:=hr.apart
   omega
 by_cases hlt:(s.l.length:Int) < n
 ·simp +decide (disch:=omega) only [bK,bE,Nat.reduceBeqDiff,BEq.rfl,Nat.reduceAdd,Nat.zero_add,hp]
  rw[zw rfl]
  simp +decide (disch:=omega) only [bK,bE,Nat.reduceBeqDiff,BEq.rfl,Nat.add_zero,B.reader0.run,B.Lu8.run_load1 rfl,hv,hlen,hn]
  refine Eq.mpr (zbi (by simp +decide only [bE,decide_true,BEq.rfl,hlt,Bool.not_false])) ?_
  refine Eq.mpr (zbi (by simp +decide only [bE,Nat.reduceBeqDiff,decide_true,BEq.rfl,hlt,Bool.not_false])) ?_
  simp +decide only [decide_true,hlt]
  refine zb fun σ' hσ=>key σ' ?_ ?_ ?_
  ·rw[hσ 0]; simp +decide only [bE,Nat.reduceBeqDiff,Nat.zero_add,hp]
  ·rw[hσ 1]; simp +decide only [bE,Nat.reduceBeqDiff,Nat.reduceAdd,hn]
  ·rw[hσ 3]; simp +decide only [bE,BEq.rfl,Nat.reduceAdd]; simp [zso,hlt]
 ·simp +decide (disch:=omega) only [bK,bE,Nat.reduceBeqDiff,BEq.rfl,Nat.reduceAdd,Nat.zero_add,hp]
  rw[zw rfl]
  simp +decide (disch:=omega) only [bK,bE,Nat.reduceBeqDiff,BEq.rfl,Nat.add_zero,B.reader0.run,B.Lu8.run_load1 rfl,hv,hlen,hn]
  refine Eq.mpr (zap (by simp +decide only [bE,decide_false,BEq.rfl,hlt])) ?_
  simp +decide only [bK,bE,Nat.reduceBeqDiff,Nat.reduceAdd,hn]
  refine Eq.mpr (zap (by simp +decide only [bE,Nat.reduceBeqDiff,decide_false,BEq.rfl,hlt])) ?_
  simp +decide only [bK,bE,decide_false,BEq.rfl,hlt]
  refine zb fun σ' hσ=>key σ' ?_ ?_ ?_
  ·rw[hσ 0]; simp +decide only [bE,Nat.reduceBeqDiff,Nat.zero_add,hp]
  ·rw[hσ 1]; simp +decide only [bE,Nat.reduceBeqDiff,Nat.reduceAdd,hn]
  ·rw[hσ 3]; simp +decide only [bE,BEq.rfl,Nat.reduceAdd]; simp [zso,hlt,zin]
end
def uvD (l:List UInt8):Nat × Int:=
 match l with
 | []=>(0,0)
 | a :: l=>if a.toNat < 128 then (a.toNat,1) else match l with
  | []=>(0,0)
  | b :: l=>if b.toNat < 128 then (a.toNat % 128+b.toNat * 128,2) else match l with
   | []=>(0,0)
   | c :: l=>if c.toNat < 128 then (a.toNat % 128+b.toNat % 128 * 128+c.toNat * 16384,3) else match l with
    | []=>(0,0)
    | d :: l=>if d.toNat < 128 then (a.toNat % 128+b.toNat % 128 * 128+c.toNat % 128 * 16384+d.toNat * 2097152,4) else match l with
     | []=>(0,0)
     | e :: _=>if e.toNat≤15 then (a.toNat % 128+b.toNat % 128 * 128+c.toNat % 128 * 16384+d.toNat % 128 * 2097152+e.toNat * 268435456,5) else (0,-5)
theorem band127:∀ n:Nat,n < 256→band .u8 n 127=(n % 128:Nat):=by
 have h:∀ n:Fin 256,band .u8 (n.val:Nat) 127=(n.val % 128:Nat):=by decide +kernel
 exact fun n hn=>h ⟨n,hn⟩
theorem band128:∀ n:Nat,n < 256→(band .u8 n 128 == 0)=decide (n < 128):=by
 have h:∀ n:Fin 256,(band .u8 (n.val:Nat) 128 == 0)=decide (n.val < 128):=by decide +kernel
 exact fun n hn=>h ⟨n,hn⟩
theorem uv_arith (acc n s:Nat) (hs:s < 25) (hacc:acc < 2 ^ s) (hn:n < 128):bor .u32 (acc:Int) (shl .u32 (IntKind.u32.wrap (n:Int)) (s:Int))=(acc+n * 2 ^ s:Nat):=by
 have hp:2 ^ s≤2 ^ 24:=Nat.pow_le_pow_right (by omega) (by omega)
 have hm:n * 2 ^ s≤127 * 2 ^ s:=Nat.mul_le_mul_right _ (by omega)
 have e:(2:Nat) ^ 24=16777216:=by decide
 have e2:(2:Nat) ^ 32=4294967296:=by decide
 rw[e] at hp
 have h1:n * 2 ^ s < 2 ^ 32:=by rw[e2]; omega
 have h2:acc+n * 2 ^ s < 2 ^ 32:=by rw[e2]; omega
 have h0:n < 2 ^ 32:=by rw[e2]; omega
 rw[zhg n h0,ztr n s (by omega) h1,zuz acc _ s hacc (Nat.mul_mod_left _ _) h2]
theorem uv_arith4 (acc n:Nat) (hacc:acc < 2 ^ 28) (hn:n≤15):bor .u32 (acc:Int) (shl .u32 (IntKind.u32.wrap (n:Int)) 28)=(acc+n * 268435456:Nat):=by
 have e2:(2:Nat) ^ 32=4294967296:=by decide
 have e3:(2:Nat) ^ 28=268435456:=by decide
 have h1:n * 2 ^ 28 < 2 ^ 32:=by rw[e2,e3]; omega
 have h2:acc+n * 2 ^ 28 < 2 ^ 32:=by rw[e3] at hacc; rw[e2,e3]; omega
 have h0:n < 2 ^ 32:=by rw[e2]; omega
 rw[zhg n h0,show shl .u32 (n:Int) 28=((n * 2 ^ 28:Nat):Int) from ztr n 28 (by omega) h1,zuz acc _ 28 hacc (Nat.mul_mod_left _ _) h2,e3]
section
variable {P:Program} {N:Nums} {loc:List Nat} {N':Nat} {Q:Exit→Env→World→Prop} {σ:Env} {w:World} {lo hi:Nat} {v:Value} {nl:Bool} {l:List UInt8}
theorem UV_len (B:Base P N) {d:Nat} {k:Int} (h0:σ 0=v) (hb:zbz w lo hi v nl l) (h:Q .normal (upd σ d (.bool (decide ((l.length:Int) < k)))) w) :
  W P loc N' (.ops [⟨some 0,.move (V 0),0,none,[]⟩,⟨some 1,.call ⟨.builtin .len,#[T 0],#[N.za]⟩,N.ze,none,[]⟩,⟨some (d+100),.binOp .lss N.ze (T 1) (.const (.int .i64 k)) N.ze,0,none,[]⟩]) Q σ w:=by
 refine zi fun τ=>?_
 simp +decide only [bK,bE,BEq.rfl,Nat.reduceLT,Nat.zero_add,h0,hb.len B,zk,zai,locs_envOf]
 exact h
theorem zbz.get (B:Base P N) (hb:zbz w lo hi v nl l) {j:Nat} {x:UInt8} (hx:l[j]?=some x) :
  ∃ b o,(Instr.indexAt N.za v (.int .i64 j)).run P w=.ok (.pointer (some ⟨b,o,none⟩)) w∧w.cell? ⟨b,o,none⟩=some (.int .u8 x.toNat):=by
 have hj:=(List.getElem?_eq_some_iff.1 hx).1
 rcases hb with⟨_,rfl,rfl⟩ | ⟨b,o,c,_,rfl,h2,h34,h5⟩
 ·simp at hj
 ·refine⟨b,o+j * 1,zcb B.Lu8 B.uint8 hj,?_⟩
  have:=h5 j (zz x) (by rw[List.getElem?_map,hx]; rfl)
  simpa [zz] using this
theorem UV_test (B:Base P N) {d j:Nat} {x:UInt8} (h0:σ 0=v) (hb:zbz w lo hi v nl l) (hx:l[j]?=some x) (h:Q .normal (upd σ d (.bool (decide (x.toNat < 128)))) w) :
  W P loc N' (.ops [⟨some 0,.move (V 0),0,none,[]⟩,⟨some 1,.indexAddr N.za (T 0) (.const (.int .i64 j)),0,none,[]⟩,⟨some 2,.load N.zh (T 1),0,none,[]⟩,⟨some 3,.binOp .and N.zh (T 2) (.const (.int .u8 128)) N.zh,0,none,[]⟩,⟨some (d+100),.binOp .eql N.zh (T 3) (.const (.int .u8 0)) N.zh,0,none,[]⟩]) Q σ w:=by
 refine zi fun τ=>?_
 obtain⟨b,o,h1,h2⟩:=hb.get B hx
 simp +decide only [bK,bE,BEq.rfl,Nat.reduceLT,Nat.zero_add,h0,h1,B.uint8.run_load1 rfl,h2,band128 _ x.toNat_lt,zk,zai,locs_envOf]
 exact h
theorem UV_test4 (B:Base P N) {d j:Nat} {x:UInt8} (h0:σ 0=v) (hb:zbz w lo hi v nl l) (hx:l[j]?=some x) (h:Q .normal (upd σ d (.bool (decide (x.toNat≤15)))) w) :
  W P loc N' (.ops [⟨some 0,.move (V 0),0,none,[]⟩,⟨some 1,.indexAddr N.za (T 0) (.const (.int .i64 j)),0,none,[]⟩,⟨some 2,.load N.zh (T 1),0,none,[]⟩,⟨some (d+100),.binOp .leq N.zh (T 2) (.const (.int .u8 15)) N.zh,0,none,[]⟩]) Q σ w:=by
 refine zi fun τ=>?_
 obtain⟨b,o,h1,h2⟩:=hb.get B hx
 simp +decide only [bK,bE,BEq.rfl,Nat.reduceLT,Nat.zero_add,h0,h1,B.uint8.run_load1 rfl,h2,zk,zai,locs_envOf]
 have e:decide ((x.toNat:Int)≤15)=decide (x.toNat≤15):=by
  by_cases h:x.toNat≤15
  ·simp only [h,decide_true]; exact decide_eq_true (by omega)
  ·simp only [h,decide_false]; exact decide_eq_false (by omega)
 rw[e]
 exact h
theorem UV_first (B:Base P N) {x:UInt8} (h0:σ 0=v) (hb:zbz w lo hi v nl l) (hx:l[0]?=some x) (h:Q .normal (upd σ 3 (.int .u32 (x.toNat % 128:Nat))) w) :
  W P loc N' (.ops [⟨some 0,.move (V 0),0,none,[]⟩,⟨some 1,.indexAddr N.za (T 0) (.const (.int .i64 0)),0,none,[]⟩,⟨some 2,.load N.zh (T 1),0,none,[]⟩,⟨some 3,.binOp .and N.zh (T 2) (.const (.int .u8 127)) N.zh,0,none,[]⟩,⟨some 4,.convert N.zh N.zc (T 3),0,none,[]⟩,⟨some (3+100),.assign (T 4),0,none,[]⟩]) Q σ w:=by
 refine zi fun τ=>?_
 obtain⟨b,o,h1,h2⟩:=hb.get B (j:=0) hx
 simp only [Int.natCast_zero] at h1
 simp +decide only [bK,bE,BEq.rfl,Nat.reduceAdd,Nat.reduceLT,Nat.zero_add,h0,h1,B.uint8.run_load1 rfl,h2,band127 _ x.toNat_lt,zat B.uint8 B.uint32 ⟨_,rfl⟩,zk,zai,locs_envOf]
 have:=x.toNat_lt
 rw[zhg _ (by omega)]
 exact h
theorem zacu (B:Base P N) {j s acc:Nat} {x:UInt8} (h0:σ 0=v) (h3:σ 3=.int .u32 acc) (hb:zbz w lo hi v nl l) (hx:l[j]?=some x) (hs:s < 25) (hacc:acc < 2 ^ s) (h:Q .normal (upd σ 3 (.int .u32 (acc+x.toNat % 128 * 2 ^ s:Nat))) w) :
  W P loc N' (.ops [⟨some 0,.move (V 3),0,none,[]⟩,⟨some 1,.move (V 0),0,none,[]⟩,⟨some 2,.indexAddr N.za (T 1) (.const (.int .i64 j)),0,none,[]⟩,⟨some 3,.load N.zh (T 2),0,none,[]⟩,⟨some 4,.binOp .and N.zh (T 3) (.const (.int .u8 127)) N.zh,0,none,[]⟩,⟨some 5,.convert N.zh N.zc (T 4),0,none,[]⟩,
   ⟨some 6,.binOp .shl N.zc (T 5) (.const (.int .u64 s)) N.zcq,0,none,[]⟩,⟨some 7,.binOp .or N.zc (T 0) (T 6) N.zc,0,none,[]⟩,⟨some (3+100),.assign (T 7),0,none,[]⟩]) Q σ w:=by
 refine zi fun τ=>?_
 obtain⟨b,o,h1,h2⟩:=hb.get B hx
 have hr:=fun t x y a=>zxf (P:=P) (w:=w) (t:=t) (x:=x) (y:=y) (k:=.u32) (yk:=.u64) (a:=a) (b:=(s:Int)) (by omega)
 simp +decide only [bK,bE,Nat.reduceBeqDiff,BEq.rfl,Nat.reduceAdd,Nat.reduceLT,Nat.zero_add,h0,h3,h1,B.uint8.run_load1 rfl,h2,band127 _ x.toNat_lt,zat B.uint8 B.uint32 ⟨_,rfl⟩,hr,zk,zai,locs_envOf]
 have e:=uv_arith acc (x.toNat % 128) s hs hacc (Nat.mod_lt _ (by decide))
 rw[e]
 exact h
theorem UV_last (B:Base P N) {j s acc:Nat} {x:UInt8} (hs:s=28) (h0:σ 0=v) (h3:σ 3=.int .u32 acc) (hb:zbz w lo hi v nl l) (hx:l[j]?=some x) (hacc:acc < 2 ^ 28) (h:∀ n:Int,(x.toNat≤15→n=(acc+x.toNat * 268435456:Nat))→Q .normal (upd σ 3 (.int .u32 n)) w) :
  W P loc N' (.ops [⟨some 0,.move (V 3),0,none,[]⟩,⟨some 1,.move (V 0),0,none,[]⟩,⟨some 2,.indexAddr N.za (T 1) (.const (.int .i64 j)),0,none,[]⟩,⟨some 3,.load N.zh (T 2),0,none,[]⟩,⟨some 4,.convert N.zh N.zc (T 3),0,none,[]⟩,
   ⟨some 5,.binOp .shl N.zc (T 4) (.const (.int .u64 s)) N.zcq,0,none,[]⟩,⟨some 6,.binOp .or N.zc (T 0) (T 5) N.zc,0,none,[]⟩,⟨some (3+100),.assign (T 6),0,none,[]⟩]) Q σ w:=by
 refine zi fun τ=>?_
 obtain⟨b,o,h1,h2⟩:=hb.get B hx
 have hr:=fun t x y a=>zxf (P:=P) (w:=w) (t:=t) (x:=x) (y:=y) (k:=.u32) (yk:=.u64) (a:=a) (b:=(s:Int)) (by omega)
 simp +decide only [bK,bE,Nat.reduceBeqDiff,BEq.rfl,Nat.reduceAdd,Nat.reduceLT,Nat.zero_add,h0,h3,h1,B.uint8.run_load1 rfl,h2,zat B.uint8 B.uint32 ⟨_,rfl⟩,hr,zk,zai,locs_envOf]
 subst hs
 exact h _ fun hle=>uv_arith4 acc x.toNat hacc hle
theorem UV_ret {c:Int} {n:Value} (h3:σ 3=n) {Rt:Value→World→Prop} (h:Rt (.tuple #[n,.int .i64 c]) w) (hQ:∀ σ w,retQ P [.var 1,.var 2] Rt .ret σ w→Q .ret σ w) :
  W P loc N' (.seq (.ops [⟨some 0,.move (V 3),0,none,[]⟩,⟨some (1+100),.assign (T 0),0,none,[]⟩,⟨some (2+100),.assign (.const (.int .i64 c)),0,none,[]⟩]) .ret) Q σ w:=by
 refine zd fun K hK=>zi fun τ=>?_
 simp +decide only [bK,bE,BEq.rfl,Nat.reduceAdd,h3]
 refine hK _ _ (zb fun σ' hσ=>zbb (hQ _ _ ⟨.inr rfl,_,⟨_,_,rfl,rfl,rfl⟩,?_⟩))
 have e1:=hσ 1
 have e2:=hσ 2
 simp +decide only [bE,Nat.reduceBeqDiff,BEq.rfl,Nat.reduceAdd] at e1 e2
 rw[e1,e2]
 exact h
theorem zth {d e j acc:Nat} {c c2:Int} {rest:C} {x:UInt8} (hc:c=j+1) (hc2:c2=j+2) (B:Base P N) (hlo:zei loc N') (h0:σ 0=v) (h3:σ 3=.int .u32 acc) (h4:σ 4=.int .i64 0) (hb:zbz w lo hi v nl l) (hx:l[j]?=some x)
  (hret:∀ σ,x.toNat < 128→retQ P [.var 1,.var 2] (fun r w'=>r=.tuple #[.int .u32 acc,.int .i64 c]∧w'=w) .ret σ w→Q .ret σ w)
  (hgo:∀ σ,σ 4=.int .i64 0→¬ x.toNat < 128→l[j+1]?=none→Q (.goto 0) σ w)
  (hd:4 < d) (he:4 < e)
  (hnext:∀ (σ:Env) (y:UInt8),¬ x.toNat < 128→l[j+1]?=some y→σ 0=v→σ 3=.int .u32 acc→σ 4=.int .i64 0→W P loc N' rest Q σ w) :
  W P loc N' (.seq (.seq (.ops [⟨some 0,.move (V 0),0,none,[]⟩,⟨some 1,.indexAddr N.za (T 0) (.const (.int .i64 j)),0,none,[]⟩,⟨some 2,.load N.zh (T 1),0,none,[]⟩,⟨some 3,.binOp .and N.zh (T 2) (.const (.int .u8 128)) N.zh,0,none,[]⟩,⟨some (d+100),.binOp .eql N.zh (T 3) (.const (.int .u8 0)) N.zh,0,none,[]⟩])
   (.cond d (.seq (.ops [⟨some 0,.move (V 3),0,none,[]⟩,⟨some (1+100),.assign (T 0),0,none,[]⟩,⟨some (2+100),.assign (.const (.int .i64 c)),0,none,[]⟩]) .ret)
    (.seq (.ops [⟨some 0,.move (V 0),0,none,[]⟩,⟨some 1,.call ⟨.builtin .len,#[T 0],#[N.za]⟩,N.ze,none,[]⟩,⟨some (e+100),.binOp .lss N.ze (T 1) (.const (.int .i64 c2)) N.ze,0,none,[]⟩]) (.cond e (.goto 0) .skip)))) rest) Q σ w:=by
 subst hc hc2
 refine zd fun K hK=>zd fun K1 hK1=>UV_test (d:=d) B h0 hb hx (hK1 _ _ (W_if hlo (upd_same _ _ _) ?_))
 clear hK1 K1
 by_cases hlt:x.toNat < 128
 ·rw[show decide (x.toNat < 128)=true from decide_eq_true hlt,if_pos rfl]
  refine UV_ret (n:=.int .u32 acc) (by rw[zg (by omega)]; exact h3) (Rt:=fun r w'=>r=.tuple #[.int .u32 acc,.int .i64 (j+1)]∧w'=w) ⟨rfl,rfl⟩ fun σ' w' h=>?_
  obtain⟨h1,v',h2,h3,h4⟩:=h
  subst h4
  exact hret σ' hlt ⟨h1,v',h2,h3,rfl⟩
 ·rw[show decide (x.toNat < 128)=false from decide_eq_false hlt,if_neg (by simp)]
  have h0':upd σ d (.bool false) 0=v:=by rw[zg (by omega)]; exact h0
  refine zd fun K1 hK1=>UV_len (d:=e) B h0' hb (hK1 _ _ (W_if hlo (upd_same _ _ _) ?_))
  cases hy:l[j+1]? with
  | none=>
   have hle:l.length≤j+1:=by simpa using hy
   rw[show decide ((l.length:Int) < (j:Int)+2)=true from decide_eq_true (by omega),if_pos rfl]
   refine W_goto (hgo _ ?_ hlt hy)
   rw[zg (by omega),zg (by omega)]; exact h4
  | some y=>
   have hle:=(List.getElem?_eq_some_iff.1 hy).1
   rw[show decide ((l.length:Int) < (j:Int)+2)=false from decide_eq_false (by omega),if_neg (by simp)]
   refine zbd (hK _ _ (hnext _ y hlt hy ?_ ?_ ?_))
   ·rw[zg (by omega),zg (by omega)]; exact h0
   ·rw[zg (by omega),zg (by omega)]; exact h3
   ·rw[zg (by omega),zg (by omega)]; exact h4
theorem zaag (B:Base P N) (F:Fns P N) (hN:N.zlx≠0) {w:World} {lo hi:Nat} {v:Value} {nl:Bool} {l:List UInt8} (hb:zbz w lo hi v nl l) :
  Call P N.zlx #[v] w fun r w'=>r=.tuple #[.int .u32 (uvD l).1,.int .i64 (uvD l).2]∧w'=w:=by
 refine(F.Uvarint hN).call rfl fun loc N' hlo=>?_
 have hfail:∀ (σ:Env) (n:Int) (Rt:Value→World→Prop),σ 4=.int .i64 n→Rt (.tuple #[.int .u32 0,.int .i64 n]) w→
   W P loc N' (.seq .skip (.seq (.ops [⟨some 0,.move (V 4),0,none,[]⟩,⟨some (1+100),.assign (.const (.int .u32 0)),0,none,[]⟩,⟨some (2+100),.assign (T 0),0,none,[]⟩]) .ret)) (noJ (retQ P [.var 1,.var 2] Rt)) σ w:=by
  intro σ n Rt h4 h
  refine zd fun K hK=>zbd (hK _ _ ?_)
  refine zd fun K1 hK1=>zi fun τ=>?_
  simp +decide only [bK,bE,Nat.reduceBeqDiff,BEq.rfl,Nat.reduceAdd,h4]
  refine hK1 _ _ (zb fun σ' hσ=>zbb ⟨.inr rfl,_,⟨_,_,rfl,rfl,rfl⟩,?_⟩)
  have e1:=hσ 1
  have e2:=hσ 2
  simp +decide only [bE,Nat.reduceBeqDiff,BEq.rfl,Nat.reduceAdd] at e1 e2
  rw[e1,e2]
  exact h
 have hjump:∀ (c:C) (σ:Env) (n:Int) (Rt:Value→World→Prop),zkp c 0=some (.seq .skip (.seq (.ops [⟨some 0,.move (V 4),0,none,[]⟩,⟨some (1+100),.assign (.const (.int .u32 0)),0,none,[]⟩,⟨some (2+100),.assign (T 0),0,none,[]⟩]) .ret))→
   σ 4=.int .i64 n→Rt (.tuple #[.int .u32 0,.int .i64 n]) w→jumpQ P loc N' c (retQ P [.var 1,.var 2] Rt) (.goto 0) σ w:=
  fun c σ n Rt hf h4 h=>⟨_,hf,hfail σ n Rt h4 h⟩
 unfold zaan
 refine zd fun K hK=>zi fun τ=>?_
 simp +decide only [bK,Nat.reduceAdd]
 refine hK _ _ (zb fun σ1 hσ=>?_)
 have e0:=hσ 0
 simp +decide only [bE,Nat.reduceBeqDiff,Nat.zero_add,zbh] at e0
 clear hσ hK K τ
 refine W_scope ?_
 generalize hc:C.seq _ _=c
 have hfc:zkp c 0=some (.seq .skip (.seq (.ops [⟨some 0,.move (V 4),0,none,[]⟩,⟨some (1+100),.assign (.const (.int .u32 0)),0,none,[]⟩,⟨some (2+100),.assign (T 0),0,none,[]⟩]) .ret)):=by rw[← hc]; rfl
 generalize hJ:jumpQ P loc N' c _=J
 have hgo:∀ (σ:Env) (n:Int),σ 4=.int .i64 n→uvD l=(0,n)→J (.goto 0) σ w:=by
  intro σ n h4 he
  rw[← hJ]
  exact hjump c σ n _ hfc h4 ⟨by rw[he]; rfl,rfl⟩
 have hret:∀ (σ:Env) (n:Nat) (k:Int),uvD l=(n,k)→retQ P [.var 1,.var 2] (fun r w'=>r=.tuple #[.int .u32 n,.int .i64 k]∧w'=w) .ret σ w→J .ret σ w:=by
  intro σ n k he h
  rw[← hJ]
  simp only [jumpQ,he]
  exact h
 rw[← hc]
 clear hc hJ hfc hjump hfail
 refine zd fun K hK=>zao (hK _ _ ?_)
 clear hK K
 refine zd fun K hK=>zao (hK _ _ ?_)
 clear hK K
 have f0:upd (upd σ1 3 (.int .u32 0)) 4 (.int .i64 0) 0=v:=by simp [zg,e0]
 have f4:upd (upd σ1 3 (.int .u32 0)) 4 (.int .i64 0) 4=.int .i64 0:=by simp []
 generalize upd (upd σ1 3 (.int .u32 0)) 4 (.int .i64 0)=σ at *
 refine zd fun K hK=>zd fun K1 hK1=>UV_len (d:=5) B f0 hb (hK1 _ _ (W_if hlo (upd_same _ _ _) ?_))
 cases hl:l with
 | nil=>
  rw[hl] at hgo
  exact W_goto (hgo _ 0 (by simp [zg,f4]) rfl)
 | cons a r1=>
 rw[show decide (((a :: r1).length:Int) < 1)=false from decide_eq_false (by simp only [List.length_cons]; omega),if_neg (by simp)]
 refine zbd (hK _ _ ?_)
 clear hK hK1 K K1
 have g0:upd σ 5 (.bool false) 0=v:=by rw[zg (by decide),f0]
 have g4:upd σ 5 (.bool false) 4=.int .i64 0:=by rw[zg (by decide),f4]
 generalize upd σ 5 (.bool false)=σ2 at *
 have ha:=a.toNat_lt
 have hx0:l[0]?=some a:=by rw[hl]; rfl
 refine zd fun K hK=>UV_first B g0 hb hx0 (hK _ _ ?_)
 clear hK K
 refine zth (d:=6) (e:=7) (j:=0) (c:=1) (c2:=2) rfl rfl B hlo (by rw[zg (by decide)]; exact g0) (upd_same _ _ _) (by rw[zg (by decide)]; exact g4) hb hx0 (fun σ hx h=>hret σ (a.toNat % 128) 1 (by rw[hl]; simp only [uvD]; rw[if_pos hx,Nat.mod_eq_of_lt hx]) h)
  (fun σ h4 hx hn=>hgo σ 0 h4 (by rw[hl] at hn ⊢; cases r1 with | nil=>simp only [uvD]; rw[if_neg hx] | cons=>simp at hn)) (by omega) (by omega) fun σ b hx hx1 k0 k3 k4=>?_
 obtain⟨r2,hl1⟩:∃ r,r1=b :: r:=by rw[hl] at hx1; cases r1 with | nil=>simp at hx1 | cons y r=>simp at hx1; exact⟨r,by rw[hx1]⟩
 subst hl1
 have hb':=b.toNat_lt
 refine zd fun K hK=>zacu (j:=1) (s:=7) B k0 k3 hb hx1 (by omega) (Nat.lt_of_lt_of_le (Nat.mod_lt _ (by decide)) (by decide)) (hK _ _ ?_)
 clear hK K
 refine zth (d:=8) (e:=9) (j:=1) (c:=2) (c2:=3) rfl rfl B hlo (by rw[zg (by decide)]; exact k0) (upd_same _ _ _) (by rw[zg (by decide)]; exact k4) hb hx1 (fun σ hx' h=>hret σ _ 2 (by rw[hl]; simp only [uvD]; rw[if_neg hx,if_pos hx',Nat.mod_eq_of_lt hx']) h)
  (fun σ h4 hx' hn=>hgo σ 0 h4 (by rw[hl] at hn ⊢; cases r2 with | nil=>simp only [uvD]; rw[if_neg hx,if_neg hx'] | cons=>simp at hn)) (by omega) (by omega) fun σ c hx' hx2 k0 k3 k4=>?_
 obtain⟨r3,hl2⟩:∃ r,r2=c :: r:=by rw[hl] at hx2; cases r2 with | nil=>simp at hx2 | cons y r=>simp at hx2; exact⟨r,by rw[hx2]⟩
 subst hl2
 have hc':=c.toNat_lt
 have q1:a.toNat % 128 < 128:=Nat.mod_lt _ (by decide)
 have q2:b.toNat % 128 < 128:=Nat.mod_lt _ (by decide)
 have q3:c.toNat % 128 < 128:=Nat.mod_lt _ (by decide)
 refine zd fun K hK=>zacu (j:=2) (s:=14) B k0 k3 hb hx2 (by omega) (by omega) (hK _ _ ?_)
 clear hK K
 refine zth (d:=10) (e:=11) (j:=2) (c:=3) (c2:=4) rfl rfl B hlo (by rw[zg (by decide)]; exact k0) (upd_same _ _ _) (by rw[zg (by decide)]; exact k4) hb hx2 (fun σ hx'' h=>hret σ _ 3 (by rw[hl]; simp only [uvD]; rw[if_neg hx,if_neg hx',if_pos hx'',Nat.mod_eq_of_lt hx'']) h)
  (fun σ h4 hx'' hn=>hgo σ 0 h4 (by rw[hl] at hn ⊢; cases r3 with | nil=>simp only [uvD]; rw[if_neg hx,if_neg hx',if_neg hx''] | cons=>simp at hn)) (by omega) (by omega) fun σ d hx'' hx3 k0 k3 k4=>?_
 obtain⟨r4,hl3⟩:∃ r,r3=d :: r:=by rw[hl] at hx3; cases r3 with | nil=>simp at hx3 | cons y r=>simp at hx3; exact⟨r,by rw[hx3]⟩
 subst hl3
 have hd':=d.toNat_lt
 have q4:d.toNat % 128 < 128:=Nat.mod_lt _ (by decide)
 refine zd fun K hK=>zacu (j:=3) (s:=21) B k0 k3 hb hx3 (by omega) (by omega) (hK _ _ ?_)
 clear hK K
 refine zth (d:=12) (e:=13) (j:=3) (c:=4) (c2:=5) rfl rfl B hlo (by rw[zg (by decide)]; exact k0) (upd_same _ _ _) (by rw[zg (by decide)]; exact k4) hb hx3 (fun σ hx3' h=>hret σ _ 4 (by rw[hl]; simp only [uvD]; rw[if_neg hx,if_neg hx',if_neg hx'',if_pos hx3',Nat.mod_eq_of_lt hx3']) h)
  (fun σ h4 hx3' hn=>hgo σ 0 h4 (by rw[hl] at hn ⊢; cases r4 with | nil=>simp only [uvD]; rw[if_neg hx,if_neg hx',if_neg hx'',if_neg hx3'] | cons=>simp at hn)) (by omega) (by omega) fun σ e hx3' hx4 k0 k3 k4=>?_
 obtain⟨r5,hl4⟩:∃ r,r4=e :: r:=by rw[hl] at hx4; cases r4 with | nil=>simp at hx4 | cons y r=>simp at hx4; exact⟨r,by rw[hx4]⟩
 subst hl4
 refine zd fun K hK=>UV_last (j:=4) (s:=28) B rfl k0 k3 hb hx4 (by omega) fun n hn=>hK _ _ ?_
 clear hK K
 have m0:upd σ 3 (.int .u32 n) 0=v:=by rw[zg (by decide)]; exact k0
 refine zd fun K hK=>zd fun K1 hK1=>UV_test4 (d:=14) (j:=4) B m0 hb hx4 (hK1 _ _ (W_if hlo (upd_same _ _ _) ?_))
 by_cases h15:e.toNat≤15
 ·rw[show decide (e.toNat≤15)=true from decide_eq_true h15,if_pos rfl]
  have hn':=hn h15
  refine UV_ret (n:=.int .u32 n) (by simp [zg]) (Rt:=fun r w'=>r=.tuple #[.int .u32 n,.int .i64 5]∧w'=w) ⟨rfl,rfl⟩ fun σ' w' h=>?_
  have hu:uvD l=(a.toNat % 128+b.toNat % 128 * 2 ^ 7+c.toNat % 128 * 2 ^ 14+d.toNat % 128 * 2 ^ 21+e.toNat * 268435456,5):=by
   rw[hl]; simp only [uvD]; rw[if_neg hx,if_neg hx',if_neg hx'',if_neg hx3',if_pos h15]
  rw[hn'] at h
  obtain⟨h1,v',h2,h3,h4⟩:=h
  subst h4
  exact hret σ' _ 5 hu ⟨h1,v',h2,h3,rfl⟩
 ·rw[show decide (e.toNat≤15)=false from decide_eq_false h15,if_neg (by simp)]
  refine zbd (hK _ _ ?_)
  clear hK hK1 K K1
  refine zd fun K hK=>zao (hK _ _ ?_)
  clear hK K
  have hu:uvD l=(0,-5):=by rw[hl]; simp only [uvD]; rw[if_neg hx,if_neg hx',if_neg hx'',if_neg hx3',if_neg h15]
  refine zd fun K hK=>W_label (hK _ _ ?_)
  clear hK K
  have m4:upd (upd (upd σ 3 (.int .u32 n)) 14 (.bool (decide (e.toNat≤15)))) 4 (.int .i64 (-5)) 4=.int .i64 (-5):=upd_same _ _ _
  refine zd fun K hK=>zi fun τ=>?_
  simp +decide only [bK,bE,Nat.reduceBeqDiff,BEq.rfl,Nat.reduceAdd]
  refine hK _ _ (zb fun σ' hσ=>zbb (hret σ' 0 (-5) hu ⟨.inr rfl,_,⟨_,_,rfl,rfl,rfl⟩,?_⟩))
  have e1:=hσ 1
  have e2:=hσ 2
  simp +decide only [bE,Nat.reduceBeqDiff,BEq.rfl,Nat.reduceAdd,upd_same] at e1 e2
  rw[e1,e2]
  exact⟨rfl,rfl⟩
end
def zqm (c:Nat) (g:List UInt8→Int) (s:RS):Int × RS:=if s.l.length < c then (0,⟨[],true,true⟩) else (g (s.l.take c),⟨s.l.drop c,s.bad,s.nl⟩)
theorem zzi (c:Nat) (k:IntKind) (g:List UInt8→Int) (s:RS):zeh c (fun l=>.int k (g l)) (.int k 0) s=(.int k (zqm c g s).1,(zqm c g s).2):=by
 unfold zeh zqm; split<;>rfl
def i16N:RS→Int × RS:=zqm 2 fun l=>IntKind.i16.wrap (be l)
def i32N:RS→Int × RS:=zqm 4 fun l=>IntKind.i32.wrap (be l)
def uvN (s:RS):Nat × RS:=if (uvD s.l).2≤0 then (0,⟨[],true,true⟩) else ((uvD s.l).1,⟨s.l.drop (uvD s.l).2.toNat,s.bad,s.nl⟩)
theorem uvD_lt (l:List UInt8):(uvD l).1 < 4294967296:=by
 unfold uvD
 rcases l with _ | ⟨a,_ | ⟨b,_ | ⟨c,_ | ⟨d,_ | ⟨e,l⟩⟩⟩⟩⟩
 ·decide
 all_goals
  have ha:=a.toNat_lt
  repeat' split
  all_goals dsimp only
 all_goals (try omega)
theorem uvD_le (l:List UInt8):(uvD l).2≤l.length:=by
 unfold uvD
 rcases l with _ | ⟨a,_ | ⟨b,_ | ⟨c,_ | ⟨d,_ | ⟨e,l⟩⟩⟩⟩⟩
 ·decide
 all_goals
  repeat' split
  all_goals simp only [List.length_cons,List.length_nil]
 all_goals first | omega | simp_all
theorem uvN_neg {s:RS} (h:(uvD s.l).2≤0):uvN s=(0,⟨[],true,true⟩):=by unfold uvN; rw[if_pos h]
theorem uvN_pos {s:RS} (h:¬ (uvD s.l).2≤0):uvN s=((uvD s.l).1,⟨s.l.drop (uvD s.l).2.toNat,s.bad,s.nl⟩):=by unfold uvN; rw[if_neg h]
theorem zlm (s:RS):(uvN s).1 < 4294967296:=by
 unfold uvN; split
 ·simp only []; omega
 ·exact uvD_lt s.l
def strR (s:RS):List UInt8 × RS:=(zeu (i16N s).1 (i16N s).2,zjn (i16N s).1 (i16N s).2)
def zkq (s:RS):List UInt8 × RS:=(zeu ((uvN s).1 - 1:Int) (uvN s).2,zjn ((uvN s).1 - 1:Int) (uvN s).2)
def zow (s:RS):Option (List UInt8) × RS:=if (i16N s).1 < 0 then (none,(i16N s).2) else (some (strR s).1,(strR s).2)
def zju (s:RS):Option (List UInt8) × RS:=if ((uvN s).1 - 1:Int) < 0 then (none,(uvN s).2) else (some (zkq s).1,(zkq s).2)
def zqf (n:Int) (s:RS):Option (List UInt8):=if zvj n s then none else some (zeu n s)
def bytR (s:RS):Option (List UInt8) × RS:=if (i32N s).1=-1 then (some [],(i32N s).2) else (zqf (i32N s).1 (i32N s).2,zjn (i32N s).1 (i32N s).2)
def zxt (s:RS):Option (List UInt8) × RS:=if ((uvN s).1 - 1:Int)=-1 then (some [],(uvN s).2) else (zqf ((uvN s).1 - 1:Int) (uvN s).2,zjn ((uvN s).1 - 1:Int) (uvN s).2)
def zub (s:RS):Option (List UInt8) × RS:=if (i32N s).1 < 0 then (none,(i32N s).2) else (zqf (i32N s).1 (i32N s).2,zjn (i32N s).1 (i32N s).2)
def znr (s:RS):Option (List UInt8) × RS:=if ((uvN s).1 - 1:Int) < 0 then (none,(uvN s).2) else (zqf ((uvN s).1 - 1:Int) (uvN s).2,zjn ((uvN s).1 - 1:Int) (uvN s).2)
def arrR (s:RS):Int × RS:=if ((i32N s).2.l.length:Int) < (i32N s).1 then (0,⟨[],true,true⟩) else i32N s
def zox (s:RS):Int:=IntKind.i32.wrap (IntKind.i32.wrap (uvN s).1 - 1)
def zlj (s:RS):Int × RS:=if ((uvN s).2.l.length:Int) < zox s then (0,⟨[],true,true⟩) else (zox s,(uvN s).2)
def OctAt (w:World) (lo hi:Nat) (v:Value) (o:Option (List UInt8)):Prop:=
 match o with
 | none=>v=.slice none 0 0
 | some l=>zbz w lo hi v false l
theorem zbz.oct {w:World} {lo hi:Nat} {v:Value} {n:Int} {s:RS} (h:zbz w lo hi v (zvj n s) (zeu n s)):OctAt w lo hi v (zqf n s):=by
 unfold zqf
 cases hn:zvj n s with
 | true=>
  rw[hn] at h
  rcases h with⟨_,h,_⟩ | ⟨_,_,_,h,_⟩
  ·exact h
  ·cases h
 | false=>rw[hn] at h; exact h
def PtrStr (w w':World) (v:Value) (o:Option (List UInt8)):Prop:=
 match o with
 | none=>v=.pointer none
 | some l=>∃ b,v=.pointer (some ⟨b,0,none⟩)∧w.heap.size≤b∧b < w'.heap.size∧w'.cell? ⟨b,0,none⟩=some (strV l)
def zacv (P:Program) (f:FuncId) (g:RS→List UInt8 × RS):Prop:=
 ∀ w lo hi r s,RdAt w lo hi r s→Call P f #[.pointer (some ⟨r,0,none⟩)] w fun v w'=>v=strV (g s).1∧RdAt w' lo hi r (g s).2∧Mod w w' (blk r)
def zaaw (P:Program) (f:FuncId) (g:RS→Option (List UInt8) × RS):Prop:=
 ∀ w lo hi r s,RdAt w lo hi r s→Call P f #[.pointer (some ⟨r,0,none⟩)] w fun v w'=>PtrStr w w' v (g s).1∧RdAt w' lo hi r (g s).2∧Mod w w' (blk r)
def OctOk (P:Program) (f:FuncId) (g:RS→Option (List UInt8) × RS):Prop:=
 ∀ w lo hi r s,RdAt w lo hi r s→Call P f #[.pointer (some ⟨r,0,none⟩)] w fun v w'=>OctAt w' lo hi v (g s).1∧RdAt w' lo hi r (g s).2∧Mod w w' (blk r)
def LenOk (P:Program) (f:FuncId) (g:RS→Int × RS):Prop:=
 ∀ w lo hi r s,RdAt w lo hi r s→Call P f #[.pointer (some ⟨r,0,none⟩)] w fun v w'=>v=.int .i32 (g s).1∧RdAt w' lo hi r (g s).2∧Mod w w' (blk r)
theorem wrap_i64 {n:Int} (h1:-9223372036854775808≤n) (h2:n < 9223372036854775808):IntKind.i64.wrap n=n:=by
 simp [IntKind.wrap,IntKind.bits,IntKind.signed]
 split<;>omega
theorem zhz (s:RS):-32768≤(i16N s).1∧(i16N s).1 < 32768:=by
 unfold i16N zqm
 split
 ·simp only []; omega
 ·simp only []
  constructor
  ·simp [IntKind.wrap,IntKind.bits,IntKind.signed]; split<;>omega
  ·simp [IntKind.wrap,IntKind.bits,IntKind.signed]; split<;>omega
theorem zkg (s:RS):-2147483648≤(i32N s).1∧(i32N s).1 < 2147483648:=by
 unfold i32N zqm
 split
 ·simp only []; omega
 ·simp only []
  constructor
  ·simp [IntKind.wrap,IntKind.bits,IntKind.signed]; split<;>omega
  ·simp [IntKind.wrap,IntKind.bits,IntKind.signed]; split<;>omega
theorem zwo (s:RS):-2147483648≤zox s∧zox s < 2147483648:=by
 unfold zox
 generalize IntKind.i32.wrap (uvN s).1 - 1=n
 constructor
 ·simp [IntKind.wrap,IntKind.bits,IntKind.signed]; split<;>omega
 ·simp [IntKind.wrap,IntKind.bits,IntKind.signed]; split<;>omega
section
variable {P:Program} {N:Nums}
theorem rd_i16 (B:Base P N) (F:Fns P N) (hN:N.zbm≠0):RdOk P N.zbm fun s=>(.int .i16 (i16N s).1,(i16N s).2):=
 fun w lo hi r s hr=>(rd_Int16 B F hN w lo hi r s hr).mono fun v w' h=>by rw[zzi 2 .i16 (fun l=>IntKind.i16.wrap (be l))] at h; exact h
theorem rd_i32 (B:Base P N) (F:Fns P N) (hN:N.zcc≠0):RdOk P N.zcc fun s=>(.int .i32 (i32N s).1,(i32N s).2):=
 fun w lo hi r s hr=>(rd_Int32 B F hN w lo hi r s hr).mono fun v w' h=>by rw[zzi 4 .i32 (fun l=>IntKind.i32.wrap (be l))] at h; exact h
theorem zgr (B:Base P N) (F:Fns P N) (hN:N.zq≠0):RdOk P N.zq fun s=>(.int .u32 (uvN s).1,(uvN s).2):=by
 intro w lo hi r s hr
 have h:=F.PReader_Uvarint hN
 refine h.1.call rfl fun loc N' hlo=>?_
 unfold zlz
 refine zd fun K hK=>zao (hK _ _ ?_)
 clear hK K
 refine zd fun K hK=>zi fun τ=>?_
 obtain⟨v,hv,hb⟩:=hr.cell0
 simp +decide only [bK,bE,Nat.reduceBeqDiff,BEq.rfl,Nat.reduceAdd,Nat.zero_add,zg]
 rw[zw rfl]
 simp +decide only [bK,bE,BEq.rfl,Nat.add_zero,B.reader0.run,B.Lu8.run_load1 rfl,hv]
 rw[zan (F.Uvarint h.2).has]
 simp +decide only [bK,bE,BEq.rfl]
 refine(zaag B F h.2 hb).mono ?_
 rintro t w' ⟨rfl,rfl⟩
 simp +decide only [bK]
 refine hK _ _ (zb fun σ hσ=>?_)
 have e0:=hσ 0
 have e2:=hσ 2
 have e3:=hσ 3
 simp +decide only [bE,Nat.reduceBeqDiff,BEq.rfl,Nat.reduceAdd,Nat.zero_add,zg,zbh] at e0 e2 e3
 clear hσ hK K τ
 refine zd fun K hK=>zd fun K1 hK1=>zi fun τ=>?_
 simp +decide only [bK,bE,BEq.rfl,Nat.reduceAdd,e3]
 refine hK1 _ _ (zb fun σ1 hσ=>?_)
 have f0:=hσ 0
 have f2:=hσ 2
 have f3:=hσ 3
 have f4:=hσ 4
 simp +decide only [bE,Nat.reduceBeqDiff,BEq.rfl,Nat.reduceAdd,Nat.zero_add,e0,e2,e3] at f0 f2 f3 f4
 refine W_if hlo f4 ?_
 clear hσ hK1 K1 τ
 by_cases hle:(uvD s.l).2≤0
 ·rw[decide_eq_true hle,if_pos rfl]
  refine zd fun K2 hK2=>W_bad (i:=0) B f0 hr.there (hK2 _ _ ?_)
  refine zd fun K3 hK3=>zvc (i:=0) B f0 (zhu hr.there) (hK3 _ _ ?_)
  refine zd fun K4 hK4=>zao (hK4 _ _ (zbb ⟨.inr rfl,_,rfl,?_⟩))
  rw[upd_same]
  simp only [uvN_neg hle]
  exact⟨by trivial,hr.bad.1,hr.bad.2⟩
 ·rw[decide_eq_false hle,if_neg (by simp)]
  refine zbd (hK _ _ ?_)
  have hll:=uvD_le s.l
  have e:(uvD s.l).2=((uvD s.l).2.toNat:Int):=by omega
  rw[e] at f3
  refine zd fun K2 hK2=>W_advV (i:=0) (j:=3) B f0 f3 hr (by omega) fun w' hr' hm=>hK2 _ _ ?_
  refine zd fun K3 hK3=>zgp (i:=1) (j:=2) (hK3 _ _ (zbb ⟨.inr rfl,_,rfl,?_⟩))
  rw[upd_same,f2]
  simp only [uvN_pos hle]
  exact⟨by trivial,hr',hm⟩
theorem zjz (B:Base P N) (F:Fns P N) (hN:N.zdi≠0) {w:World} {lo hi:Nat} {v:Value} {nl:Bool} {l:List UInt8} (hb:zbz w lo hi v nl l) :
  Call P N.zdi #[v] w fun r w'=>r=strV l∧w'=w:=by
 refine(F.UnsafeString hN).call rfl fun loc N' hlo=>?_
 unfold zpg
 refine zd fun K hK=>zao (hK _ _ ?_)
 clear hK K
 refine zd fun K hK=>zi fun τ=>?_
 simp +decide only [bK,bE,BEq.rfl,Nat.reduceAdd,Nat.zero_add,zg,hb.toStr B]
 refine hK _ _ (zb fun σ hσ=>zbb ⟨.inr rfl,_,rfl,?_⟩)
 have e1:=hσ 1
 simp +decide only [bE,BEq.rfl,Nat.reduceAdd] at e1
 rw[e1]
 exact⟨rfl,rfl⟩
theorem ztf {loc:List Nat} {N':Nat} {Q:Exit→Env→World→Prop} {σ:Env} {w:World} {lo hi r:Nat} {s:RS} (B:Base P N) (F:Fns P N) (hN:N.zbm≠0) (h0:σ 0=.pointer (some ⟨r,0,none⟩)) (hr:RdAt w lo hi r s)
  (h:∀ w',RdAt w' lo hi r (i16N s).2→Mod w w' (blk r)→Q .normal (upd σ 2 (.int .i16 (i16N s).1)) w') :
  W P loc N' (.ops [⟨some 0,.move (V 0),0,none,[]⟩,⟨some 1,.call ⟨.value (.func N.zbm),#[T 0],#[N.zbk]⟩,N.zbf,none,[]⟩,⟨some (2+100),.assign (T 1),0,none,[]⟩]) Q σ w:=by
 refine zi fun τ=>?_
 simp +decide only [bK,bE,Nat.reduceAdd,Nat.zero_add,h0]
 rw[zan (F.PReader_Int16 hN).1.has]
 simp +decide only [bK,bE,BEq.rfl]
 refine(rd_i16 B F hN w lo hi r s hr).mono ?_
 rintro v w' ⟨rfl,hr',hm⟩
 simp +decide only [Nat.reduceLT,zk,zai,locs_envOf]
 exact h w' hr' hm
theorem zyg {loc:List Nat} {N':Nat} {Q:Exit→Env→World→Prop} {σ:Env} {w:World} {lo hi r:Nat} {s:RS} (B:Base P N) (F:Fns P N) (hN:N.zcc≠0) (h0:σ 0=.pointer (some ⟨r,0,none⟩)) (hr:RdAt w lo hi r s)
  (h:∀ w',RdAt w' lo hi r (i32N s).2→Mod w w' (blk r)→Q .normal (upd σ 2 (.int .i32 (i32N s).1)) w') :
  W P loc N' (.ops [⟨some 0,.move (V 0),0,none,[]⟩,⟨some 1,.call ⟨.value (.func N.zcc),#[T 0],#[N.zbk]⟩,N.zbr,none,[]⟩,⟨some (2+100),.assign (T 1),0,none,[]⟩]) Q σ w:=by
 refine zi fun τ=>?_
 simp +decide only [bK,bE,Nat.reduceAdd,Nat.zero_add,h0]
 rw[zan (F.PReader_Int32 hN).1.has]
 simp +decide only [bK,bE,BEq.rfl]
 refine(rd_i32 B F hN w lo hi r s hr).mono ?_
 rintro v w' ⟨rfl,hr',hm⟩
 simp +decide only [Nat.reduceLT,zk,zai,locs_envOf]
 exact h w' hr' hm
theorem zrz {loc:List Nat} {N':Nat} {Q:Exit→Env→World→Prop} {σ:Env} {w:World} {lo hi r:Nat} {s:RS} (B:Base P N) (F:Fns P N) (hN:N.zq≠0) (h0:σ 0=.pointer (some ⟨r,0,none⟩)) (hr:RdAt w lo hi r s)
  (h:∀ w',RdAt w' lo hi r (uvN s).2→Mod w w' (blk r)→Q .normal (upd σ 2 (.int .i64 ((uvN s).1 - 1))) w') :
  W P loc N' (.ops [⟨some 0,.move (V 0),0,none,[]⟩,⟨some 1,.call ⟨.value (.func N.zq),#[T 0],#[N.zbk]⟩,N.zc,none,[]⟩,⟨some 2,.convert N.zc N.ze (T 1),0,none,[]⟩,⟨some 3,.binOp .sub N.ze (T 2) (.const (.int .i64 1)) N.ze,0,none,[]⟩,⟨some (2+100),.assign (T 3),0,none,[]⟩]) Q σ w:=by
 refine zi fun τ=>?_
 simp +decide only [bK,bE,BEq.rfl,Nat.reduceAdd,Nat.zero_add,h0]
 rw[zan (F.PReader_Uvarint hN).1.has]
 simp +decide only [bK,bE,BEq.rfl]
 refine(zgr B F hN w lo hi r s hr).mono ?_
 rintro v w' ⟨rfl,hr',hm⟩
 have hlt:=zlm s
 have e1:IntKind.i64.wrap (uvN s).1=(uvN s).1:=wrap_i64 (by omega) (by omega)
 have e2:IntKind.i64.wrap ((uvN s).1 - 1)=((uvN s).1:Int) - 1:=wrap_i64 (by omega) (by omega)
 simp +decide only [bK,Nat.reduceLT,zat B.uint32 B.int ⟨_,rfl⟩,e1,e2,zk,zai,locs_envOf]
 exact h w' hr' hm
theorem zry {loc:List Nat} {N':Nat} {Q:Exit→Env→World→Prop} {σ:Env} {w:World} {lo hi r:Nat} {s:RS} {n:Int} {rest:List ROp} (B:Base P N) (F:Fns P N) (hN:N.zu≠0) (h0:σ 0=.pointer (some ⟨r,0,none⟩)) (h2:σ 2=.int .i64 n) (hr:RdAt w lo hi r s)
  (h:∀ (ρ:Env) (w':World) (v:Value),(∀ i,ρ (i+100)=σ i)→ρ 2=v→zbz w' lo hi v (zvj n s) (zeu n s)→RdAt w' lo hi r (zjn n s)→Mod w w' (blk r)→runR P rest ρ w' fun ρ w=>Q .normal (locs ρ) w) :
  W P loc N' (.ops (⟨some 0,.move (V 0),0,none,[]⟩ :: ⟨some 1,.move (V 2),0,none,[]⟩ :: ⟨some 2,.call ⟨.value (.func N.zu),#[T 0,T 1],#[N.zbk,N.ze]⟩,N.za,none,[]⟩ :: rest)) Q σ w:=by
 refine zi fun τ=>?_
 simp +decide only [bK,bE,Nat.reduceBeqDiff,Nat.reduceAdd,Nat.zero_add,h0,h2]
 rw[zah (F.PReader_Span hN).has]
 simp +decide only [bK,bE,Nat.reduceBeqDiff,BEq.rfl]
 refine(zly B F hN hr).mono ?_
 rintro v w' ⟨hb,hr',hm⟩
 refine h _ w' v (fun i=>?_) ?_ hb hr' hm
 ·simp +decide only [bE,Nat.reduceBeqDiff]
 ·simp +decide only [bE,BEq.rfl]
theorem zrx {loc:List Nat} {N':Nat} {Q:Exit→Env→World→Prop} {σ:Env} {w:World} {lo hi r:Nat} {s:RS} {n:Int} {k:IntKind} {t:TypeId} {a b:Nat} {z:Value} {rest:List ROp} (B:Base P N) (F:Fns P N) (ht:TI P t (.int k) a b z) (hw:IntKind.i64.wrap n=n) (hN:N.zu≠0) (h0:σ 0=.pointer (some ⟨r,0,none⟩)) (h2:σ 2=.int k n) (hr:RdAt w lo hi r s)
  (h:∀ (ρ:Env) (w':World) (v:Value),(∀ i,ρ (i+100)=σ i)→ρ 3=v→zbz w' lo hi v (zvj n s) (zeu n s)→RdAt w' lo hi r (zjn n s)→Mod w w' (blk r)→runR P rest ρ w' fun ρ w=>Q .normal (locs ρ) w) :
  W P loc N' (.ops (⟨some 0,.move (V 0),0,none,[]⟩ :: ⟨some 1,.move (V 2),0,none,[]⟩ :: ⟨some 2,.convert t N.ze (T 1),0,none,[]⟩ :: ⟨some 3,.call ⟨.value (.func N.zu),#[T 0,T 2],#[N.zbk,N.ze]⟩,N.za,none,[]⟩ :: rest)) Q σ w:=by
 refine zi fun τ=>?_
 simp +decide only [bK,bE,Nat.reduceBeqDiff,BEq.rfl,Nat.reduceAdd,Nat.zero_add,h0,h2,zat ht B.int ⟨_,rfl⟩,hw]
 rw[zah (F.PReader_Span hN).has]
 simp +decide only [bK,bE,Nat.reduceBeqDiff,BEq.rfl]
 refine(zly B F hN hr).mono ?_
 rintro v w' ⟨hb,hr',hm⟩
 refine h _ w' v (fun i=>?_) ?_ hb hr' hm
 ·simp +decide only [bE,Nat.reduceBeqDiff]
 ·simp +decide only [bE,BEq.rfl]
theorem zfb {w w1 w2:World} {r:Nat} (h:Mod w w1 (blk r)) (h':Mod w1 w2 (blk r)):Mod w w2 (blk r):=h.trans' h'
theorem zqj (B:Base P N) (F:Fns P N) (hN:N.zdr≠0):zacv P N.zdr strR:=by
 intro w lo hi r s hr
 have h:=F.PReader_String hN
 have hU:=h.2.1
 have hS:=h.2.2
 refine h.1.call rfl fun loc N' hlo=>?_
 unfold zmx
 refine zd fun K hK=>zao (hK _ _ ?_)
 clear hK K
 refine zd fun K hK=>ztf B F hU (r:=r) (by simp [zg,zbh]) hr fun w1 hr1 hm1=>hK _ _ ?_
 clear hK K
 refine zd fun K hK=>zrx B F B.int16 (wrap_i64 (by have:=zhz s; omega) (by have:=zhz s; omega)) hS (r:=r) (n:=(i16N s).1) (by simp [zg,zbh]) (upd_same _ _ _) hr1 fun ρ w2 v hρ h3 hb hr2 hm2=>?_
 ·subst h3
  have h3:ρ 3=ρ 3:=rfl
  simp +decide only [bK,bE,BEq.rfl,Nat.reduceAdd,hb.toStr B]
  refine hK _ _ (zb fun σ hσ=>zbb ⟨.inr rfl,_,rfl,?_⟩)
  have e1:=hσ 1
  simp +decide only [bE,BEq.rfl,Nat.reduceAdd] at e1
  rw[e1]
  exact⟨rfl,hr2,zfb hm1 hm2⟩
theorem zhw (B:Base P N) (F:Fns P N) (hN:N.zcd≠0):zacv P N.zcd strR:=by
 intro w lo hi r s hr
 have h:=F.PReader_UnsafeString hN
 have hU:=h.2.1
 have hS:=h.2.2.1
 have hT:=h.2.2.2
 refine h.1.call rfl fun loc N' hlo=>?_
 unfold zio
 refine zd fun K hK=>zao (hK _ _ ?_)
 clear hK K
 refine zd fun K hK=>ztf B F hU (r:=r) (by simp [zg,zbh]) hr fun w1 hr1 hm1=>hK _ _ ?_
 clear hK K
 refine zd fun K hK=>zrx B F B.int16 (wrap_i64 (by have:=zhz s; omega) (by have:=zhz s; omega)) hS (r:=r) (n:=(i16N s).1) (by simp [zg,zbh]) (upd_same _ _ _) hr1 fun ρ w2 v hρ h3 hb hr2 hm2=>?_
 ·subst h3
  have h3:ρ 3=ρ 3:=rfl
  simp +decide only [bK,Nat.reduceAdd]
  rw[zan (F.UnsafeString hT).has]
  simp +decide only [bK,bE,BEq.rfl]
  refine(zjz B F hT hb).mono ?_
  rintro u w3 ⟨rfl,rfl⟩
  refine hK _ _ (zb fun σ hσ=>zbb ⟨.inr rfl,_,rfl,?_⟩)
  have e1:=hσ 1
  simp +decide only [bE,BEq.rfl,Nat.reduceAdd] at e1
  rw[e1]
  exact⟨rfl,hr2,zfb hm1 hm2⟩
theorem zmv (B:Base P N) (F:Fns P N) (hN:N.zcu≠0):zacv P N.zcu zkq:=by
 intro w lo hi r s hr
 have h:=F.PReader_CompactString hN
 have hU:=h.2.2
 have hS:=h.2.1
 refine h.1.call rfl fun loc N' hlo=>?_
 unfold zig
 refine zd fun K hK=>zao (hK _ _ ?_)
 clear hK K
 refine zd fun K hK=>zrz B F hU (r:=r) (by simp [zg,zbh]) hr fun w1 hr1 hm1=>hK _ _ ?_
 clear hK K
 refine zd fun K hK=>zry B F hS (r:=r) (n:=((uvN s).1 - 1:Int)) (by simp [zg,zbh]) (upd_same _ _ _) hr1 fun ρ w2 v hρ h3 hb hr2 hm2=>?_
 ·subst h3
  have h3:ρ 2=ρ 2:=rfl
  simp +decide only [bK,bE,BEq.rfl,Nat.reduceAdd,hb.toStr B]
  refine hK _ _ (zb fun σ hσ=>zbb ⟨.inr rfl,_,rfl,?_⟩)
  have e1:=hσ 1
  simp +decide only [bE,BEq.rfl,Nat.reduceAdd] at e1
  rw[e1]
  exact⟨rfl,hr2,zfb hm1 hm2⟩
theorem zim (B:Base P N) (F:Fns P N) (hN:N.zbu≠0):zacv P N.zbu zkq:=by
 intro w lo hi r s hr
 have h:=F.PReader_UnsafeCompactString hN
 have hU:=h.2.2.1
 have hS:=h.2.1
 have hT:=h.2.2.2
 refine h.1.call rfl fun loc N' hlo=>?_
 unfold zfz
 refine zd fun K hK=>zao (hK _ _ ?_)
 clear hK K
 refine zd fun K hK=>zrz B F hU (r:=r) (by simp [zg,zbh]) hr fun w1 hr1 hm1=>hK _ _ ?_
 clear hK K
 refine zd fun K hK=>zry B F hS (r:=r) (n:=((uvN s).1 - 1:Int)) (by simp [zg,zbh]) (upd_same _ _ _) hr1 fun ρ w2 v hρ h3 hb hr2 hm2=>?_
 ·subst h3
  have h3:ρ 2=ρ 2:=rfl
  simp +decide only [bK,Nat.reduceAdd]
  rw[zan (F.UnsafeString hT).has]
  simp +decide only [bK,bE,BEq.rfl]
  refine(zjz B F hT hb).mono ?_
  rintro u w3 ⟨rfl,rfl⟩
  refine hK _ _ (zb fun σ hσ=>zbb ⟨.inr rfl,_,rfl,?_⟩)
  have e1:=hσ 1
  simp +decide only [bE,BEq.rfl,Nat.reduceAdd] at e1
  rw[e1]
  exact⟨rfl,hr2,zfb hm1 hm2⟩
end
section
variable {P:Program} {N:Nums}
theorem zqz {loc:List Nat} {N':Nat} {Q:Exit→Env→World→Prop} {σ:Env} {w:World} {i j:Nat} (h:Q .normal (upd σ i (σ j)) w):W P loc N' (.ops [⟨some (i+100),.assign (V j),0,none,[]⟩]) Q σ w:=by
 refine zi fun τ=>?_
 simp +decide only [bK,bE,zk,locs_envOf]
 exact h
theorem W_lss {loc:List Nat} {N':Nat} {Q:Exit→Env→World→Prop} {σ:Env} {w:World} {d j:Nat} {k:IntKind} {n c:Int} {t:TypeId} (hj:σ j=.int k n) (h:Q .normal (upd σ d (.bool (decide (n < c)))) w) :
  W P loc N' (.ops [⟨some 0,.move (V j),0,none,[]⟩,⟨some (d+100),.binOp .lss t (T 0) (.const (.int k c)) t,0,none,[]⟩]) Q σ w:=by
 refine zi fun τ=>?_
 simp +decide only [bK,bE,BEq.rfl,Nat.reduceLT,hj,zk,zai,locs_envOf]
 exact h
theorem W_eql {loc:List Nat} {N':Nat} {Q:Exit→Env→World→Prop} {σ:Env} {w:World} {d j:Nat} {k:IntKind} {n c:Int} {t:TypeId} (hj:σ j=.int k n) (h:Q .normal (upd σ d (.bool (n == c))) w) :
  W P loc N' (.ops [⟨some 0,.move (V j),0,none,[]⟩,⟨some (d+100),.binOp .eql t (T 0) (.const (.int k c)) t,0,none,[]⟩]) Q σ w:=by
 refine zi fun τ=>?_
 simp +decide only [bK,bE,BEq.rfl,Nat.reduceLT,hj,zk,zai,locs_envOf]
 exact h
theorem zke {t e:TypeId} {a b a' b':Nat} {z z':Value} {de:TypeDesc} {w:World} (ht:TI P t (.slice e) a b z) (he:TI P e de a' b' z') :
  (Instr.buildSlice t 0 #[]).run P w=.ok (.slice (some ⟨w.heap.size,0,none⟩) 0 0) (w.alloc (.cells #[] e)):=by
 simp only [Instr.buildSlice,Sem.run_bind,ht.run_und,he.run_size,Result.andThen_ok,Nat.zero_mul]
 rw[if_neg (by decide),if_pos trivial]
 have e:Array.range 0=#[]:=by simp
 simp only [Sem.run_bind,Sem.run_pure,Result.andThen_ok,e,Array.map_empty,Instr.fill]
 rfl
theorem znj (B:Base P N) {w:World} {l:List UInt8} :
  (Instr.storeAt N.zac (.pointer (some ⟨w.heap.size,0,none⟩)) (strV l)).run P (w.alloc (.cells (Value.string ⟨#[]⟩).cells N.zac))=.ok () ((w.alloc (.cells (Value.string ⟨#[]⟩).cells N.zac)).setCell ⟨w.heap.size,0,none⟩ (strV l)) ∧
  ((w.alloc (.cells (Value.string ⟨#[]⟩).cells N.zac)).setCell ⟨w.heap.size,0,none⟩ (strV l)).cell? ⟨w.heap.size,0,none⟩=some (strV l) ∧
  Mod w ((w.alloc (.cells (Value.string ⟨#[]⟩).cells N.zac)).setCell ⟨w.heap.size,0,none⟩ (strV l)) zy ∧
  ((w.alloc (.cells (Value.string ⟨#[]⟩).cells N.zac)).setCell ⟨w.heap.size,0,none⟩ (strV l)).heap.size=w.heap.size+1:=by
 have ht:=zbq w (Value.string ⟨#[]⟩).cells N.zac
 have hc:(w.alloc (.cells (Value.string ⟨#[]⟩).cells N.zac)).cell? ⟨w.heap.size,0,none⟩=some (.string ⟨#[]⟩):=zr w (Value.string ⟨#[]⟩).cells N.zac (0,0) 0 _ rfl
 refine⟨B.string.run_store1 rfl ht,World.cell?_setCell_same _ _ _ hc,?_,?_⟩
 ·exact(Mod.alloc w _ zy).fresh (M':=blk w.heap.size) (Mod.setCell fun _=>rfl) fun k o h=>Nat.le_of_eq h.symm
 ·simp [World.setCell]
theorem zlq (B:Base P N) (F:Fns P N) (hN:N.zco≠0):zaaw P N.zco zow:=by
 intro w lo hi r s hr
 have h:=F.PReader_NullableString hN
 have hU:=h.2.1
 have hS:=h.2.2
 refine h.1.call rfl fun loc N' hlo=>?_
 unfold zhp
 refine zd fun K hK=>zao (hK _ _ ?_)
 clear hK K
 refine zd fun K hK=>ztf B F hU (r:=r) (by simp [zg,zbh]) hr fun w1 hr1 hm1=>hK _ _ ?_
 clear hK K
 refine zd fun K hK=>zd fun K1 hK1=>W_lss (d:=3) (j:=2) (n:=(i16N s).1) (upd_same _ _ _) (hK1 _ _ (W_if hlo (upd_same _ _ _) ?_))
 clear hK1 K1
 by_cases hneg:(i16N s).1 < 0
 ·rw[decide_eq_true hneg,if_pos rfl]
  refine zd fun K2 hK2=>zao (hK2 _ _ (zbb ⟨.inr rfl,_,rfl,?_⟩))
  have e:zow s=(none,(i16N s).2):=by unfold zow; rw[if_pos hneg]
  rw[upd_same,e]
  exact⟨rfl,hr1,hm1⟩
 ·rw[decide_eq_false hneg,if_neg (by simp)]
  refine zbd (hK _ _ ?_)
  clear hK K
  have e:zow s=(some (strR s).1,(strR s).2):=by unfold zow; rw[if_neg hneg]
  rw[e]
  refine zd fun K hK=>zrx B F B.int16 (wrap_i64 (by have:=zhz s; omega) (by have:=zhz s; omega)) hS (r:=r) (n:=(i16N s).1) (by simp [zg,zbh]) (by simp [zg]) hr1 fun ρ w2 v hρ h3 hb hr2 hm2=>?_
  ·subst h3
   have h3:ρ 3=ρ 3:=rfl
   simp +decide only [bK,bE,Nat.reduceBeqDiff,BEq.rfl,Nat.reduceAdd,hb.toStr B,B.string.run_alloc,(znj B).1]
   refine hK _ _ (zb fun σ hσ=>?_)
   have e4:=hσ 4
   simp +decide only [bE,BEq.rfl,Nat.reduceAdd] at e4
   clear hσ hK K
   refine zd fun K hK=>zqz (i:=1) (j:=4) (hK _ _ (zbb ⟨.inr rfl,_,rfl,?_⟩))
   rw[upd_same,e4]
   obtain⟨_,o2,o3,o4⟩:=znj (P:=P) B (w:=_) (l:=_)
   have ml:=hm1.size
   have ml2:=hm2.size
   refine⟨⟨_,rfl,by omega,by rw[o4]; omega,o2⟩,hr2.mod o3 (fun _ h=>h) (fun _ _ _ _ h=>h),(zfb hm1 hm2).trans o3 fun k o _ h=>h.elim id False.elim⟩
theorem zhx (B:Base P N) (F:Fns P N) (hN:N.zbs≠0):zaaw P N.zbs zow:=by
 intro w lo hi r s hr
 have h:=F.PReader_UnsafeNullableString hN
 have hU:=h.2.1
 have hS:=h.2.2.1
 have hT:=h.2.2.2
 refine h.1.call rfl fun loc N' hlo=>?_
 unfold zfn
 refine zd fun K hK=>zao (hK _ _ ?_)
 clear hK K
 refine zd fun K hK=>ztf B F hU (r:=r) (by simp [zg,zbh]) hr fun w1 hr1 hm1=>hK _ _ ?_
 clear hK K
 refine zd fun K hK=>zd fun K1 hK1=>W_lss (d:=3) (j:=2) (n:=(i16N s).1) (upd_same _ _ _) (hK1 _ _ (W_if hlo (upd_same _ _ _) ?_))
 clear hK1 K1
 by_cases hneg:(i16N s).1 < 0
 ·rw[decide_eq_true hneg,if_pos rfl]
  refine zd fun K2 hK2=>zao (hK2 _ _ (zbb ⟨.inr rfl,_,rfl,?_⟩))
  have e:zow s=(none,(i16N s).2):=by unfold zow; rw[if_pos hneg]
  rw[upd_same,e]
  exact⟨rfl,hr1,hm1⟩
 ·rw[decide_eq_false hneg,if_neg (by simp)]
  refine zbd (hK _ _ ?_)
  clear hK K
  have e:zow s=(some (strR s).1,(strR s).2):=by unfold zow; rw[if_neg hneg]
  rw[e]
  refine zd fun K hK=>zrx B F B.int16 (wrap_i64 (by have:=zhz s; omega) (by have:=zhz s; omega)) hS (r:=r) (n:=(i16N s).1) (by simp [zg,zbh]) (by simp [zg]) hr1 fun ρ w2 v hρ h3 hb hr2 hm2=>?_
  ·subst h3
   have h3:ρ 3=ρ 3:=rfl
   simp +decide only [bK,bE,Nat.reduceBeqDiff,BEq.rfl,Nat.reduceAdd]
   rw[zan (F.UnsafeString hT).has]
   simp +decide only [bK,bE,BEq.rfl]
   refine(zjz B F hT hb).mono ?_
   rintro u w3 ⟨rfl,rfl⟩
   simp +decide only [bK,B.string.run_alloc,(znj B).1]
   refine hK _ _ (zb fun σ hσ=>?_)
   have e4:=hσ 4
   simp +decide only [bE,BEq.rfl,Nat.reduceAdd] at e4
   clear hσ hK K
   refine zd fun K hK=>zqz (i:=1) (j:=4) (hK _ _ (zbb ⟨.inr rfl,_,rfl,?_⟩))
   rw[upd_same,e4]
   obtain⟨_,o2,o3,o4⟩:=znj (P:=P) B (w:=_) (l:=_)
   have ml:=hm1.size
   have ml2:=hm2.size
   refine⟨⟨_,rfl,by omega,by rw[o4]; omega,o2⟩,hr2.mod o3 (fun _ h=>h) (fun _ _ _ _ h=>h),(zfb hm1 hm2).trans o3 fun k o _ h=>h.elim id False.elim⟩
theorem zlr (B:Base P N) (F:Fns P N) (hN:N.zby≠0):zaaw P N.zby zju:=by
 intro w lo hi r s hr
 have h:=F.PReader_CompactNullableString hN
 have hU:=h.2.2
 have hS:=h.2.1
 refine h.1.call rfl fun loc N' hlo=>?_
 unfold zfk
 refine zd fun K hK=>zao (hK _ _ ?_)
 clear hK K
 refine zd fun K hK=>zrz B F hU (r:=r) (by simp [zg,zbh]) hr fun w1 hr1 hm1=>hK _ _ ?_
 clear hK K
 refine zd fun K hK=>zd fun K1 hK1=>W_lss (d:=3) (j:=2) (n:=((uvN s).1 - 1:Int)) (upd_same _ _ _) (hK1 _ _ (W_if hlo (upd_same _ _ _) ?_))
 clear hK1 K1
 by_cases hneg:((uvN s).1 - 1:Int) < 0
 ·rw[decide_eq_true hneg,if_pos rfl]
  refine zd fun K2 hK2=>zao (hK2 _ _ (zbb ⟨.inr rfl,_,rfl,?_⟩))
  have e:zju s=(none,(uvN s).2):=by unfold zju; rw[if_pos hneg]
  rw[upd_same,e]
  exact⟨rfl,hr1,hm1⟩
 ·rw[decide_eq_false hneg,if_neg (by simp)]
  refine zbd (hK _ _ ?_)
  clear hK K
  have e:zju s=(some (zkq s).1,(zkq s).2):=by unfold zju; rw[if_neg hneg]
  rw[e]
  refine zd fun K hK=>zry B F hS (r:=r) (n:=((uvN s).1 - 1:Int)) (by simp [zg,zbh]) (by simp [zg]) hr1 fun ρ w2 v hρ h3 hb hr2 hm2=>?_
  ·subst h3
   have h3:ρ 2=ρ 2:=rfl
   simp +decide only [bK,bE,Nat.reduceBeqDiff,BEq.rfl,Nat.reduceAdd,hb.toStr B,B.string.run_alloc,(znj B).1]
   refine hK _ _ (zb fun σ hσ=>?_)
   have e4:=hσ 4
   simp +decide only [bE,BEq.rfl,Nat.reduceAdd] at e4
   clear hσ hK K
   refine zd fun K hK=>zqz (i:=1) (j:=4) (hK _ _ (zbb ⟨.inr rfl,_,rfl,?_⟩))
   rw[upd_same,e4]
   obtain⟨_,o2,o3,o4⟩:=znj (P:=P) B (w:=_) (l:=_)
   have ml:=hm1.size
   have ml2:=hm2.size
   refine⟨⟨_,rfl,by omega,by rw[o4]; omega,o2⟩,hr2.mod o3 (fun _ h=>h) (fun _ _ _ _ h=>h),(zfb hm1 hm2).trans o3 fun k o _ h=>h.elim id False.elim⟩
theorem zje (B:Base P N) (F:Fns P N) (hN:N.zbj≠0):zaaw P N.zbj zju:=by
 intro w lo hi r s hr
 have h:=F.PReader_UnsafeCompactNullableString hN
 have hU:=h.2.2.1
 have hS:=h.2.1
 have hT:=h.2.2.2
 refine h.1.call rfl fun loc N' hlo=>?_
 unfold zer
 refine zd fun K hK=>zao (hK _ _ ?_)
 clear hK K
 refine zd fun K hK=>zrz B F hU (r:=r) (by simp [zg,zbh]) hr fun w1 hr1 hm1=>hK _ _ ?_
 clear hK K
 refine zd fun K hK=>zd fun K1 hK1=>W_lss (d:=3) (j:=2) (n:=((uvN s).1 - 1:Int)) (upd_same _ _ _) (hK1 _ _ (W_if hlo (upd_same _ _ _) ?_))
 clear hK1 K1
 by_cases hneg:((uvN s).1 - 1:Int) < 0
 ·rw[decide_eq_true hneg,if_pos rfl]
  refine zd fun K2 hK2=>zao (hK2 _ _ (zbb ⟨.inr rfl,_,rfl,?_⟩))
  have e:zju s=(none,(uvN s).2):=by unfold zju; rw[if_pos hneg]
  rw[upd_same,e]
  exact⟨rfl,hr1,hm1⟩
 ·rw[decide_eq_false hneg,if_neg (by simp)]
  refine zbd (hK _ _ ?_)
  clear hK K
  have e:zju s=(some (zkq s).1,(zkq s).2):=by unfold zju; rw[if_neg hneg]
  rw[e]
  refine zd fun K hK=>zry B F hS (r:=r) (n:=((uvN s).1 - 1:Int)) (by simp [zg,zbh]) (by simp [zg]) hr1 fun ρ w2 v hρ h3 hb hr2 hm2=>?_
  ·subst h3
   have h3:ρ 2=ρ 2:=rfl
   simp +decide only [bK,bE,Nat.reduceBeqDiff,BEq.rfl,Nat.reduceAdd]
   rw[zan (F.UnsafeString hT).has]
   simp +decide only [bK,bE,BEq.rfl]
   refine(zjz B F hT hb).mono ?_
   rintro u w3 ⟨rfl,rfl⟩
   simp +decide only [bK,B.string.run_alloc,(znj B).1]
   refine hK _ _ (zb fun σ hσ=>?_)
   have e4:=hσ 4
   simp +decide only [bE,BEq.rfl,Nat.reduceAdd] at e4
   clear hσ hK K
   refine zd fun K hK=>zqz (i:=1) (j:=4) (hK _ _ (zbb ⟨.inr rfl,_,rfl,?_⟩))
   rw[upd_same,e4]
   obtain⟨_,o2,o3,o4⟩:=znj (P:=P) B (w:=_) (l:=_)
   have ml:=hm1.size
   have ml2:=hm2.size
   refine⟨⟨_,rfl,by omega,by rw[o4]; omega,o2⟩,hr2.mod o3 (fun _ h=>h) (fun _ _ _ _ h=>h),(zfb hm1 hm2).trans o3 fun k o _ h=>h.elim id False.elim⟩
theorem rd_Bytes (B:Base P N) (F:Fns P N) (hN:N.zex≠0):OctOk P N.zex bytR:=by
 intro w lo hi r s hr
 have h:=F.PReader_Bytes hN
 have hU:=h.2.1
 have hS:=h.2.2
 refine h.1.call rfl fun loc N' hlo=>?_
 unfold znx
 refine zd fun K hK=>zao (hK _ _ ?_)
 clear hK K
 refine zd fun K hK=>zyg B F hU (r:=r) (by simp [zg,zbh]) hr fun w1 hr1 hm1=>hK _ _ ?_
 clear hK K
 refine zd fun K hK=>zd fun K1 hK1=>W_eql (d:=3) (j:=2) (n:=(i32N s).1) (upd_same _ _ _) (hK1 _ _ (W_if hlo (upd_same _ _ _) ?_))
 clear hK1 K1
 by_cases hneg:(i32N s).1=-1
 ·rw[show ((i32N s).1 == -1)=true from by simpa using hneg,if_pos rfl]
  refine zd fun K2 hK2=>zi fun τ=>?_
  have eb:∀ ρ:Env,(#[]:Array (Nat × Operand)).map (fun p=>(p.1,ev ρ p.2))=#[]:=fun _=>by simp
  simp +decide only [bK,bE,BEq.rfl,Nat.reduceAdd,eb,zke B.Lu8 B.uint8]
  refine hK2 _ _ (zb fun σ hσ=>zbb ⟨.inr rfl,_,rfl,?_⟩)
  have e1:=hσ 1
  simp +decide only [bE,BEq.rfl,Nat.reduceAdd] at e1
  have e:bytR s=(some [],(i32N s).2):=by unfold bytR; rw[if_pos hneg]
  rw[e1,e]
  have o3:Mod w1 (w1.alloc (.cells #[] N.zh)) zy:=Mod.alloc _ _ _
  exact⟨.inr ⟨_,0,0,rfl,rfl,Nat.le_refl _,fun h=>absurd rfl h,fun j v hj=>by simp at hj⟩,hr1.mod o3 (fun _ h=>h) (fun _ _ _ _ h=>h),hm1.trans o3 fun k o _ h=>h.elim id False.elim⟩
 ·rw[show ((i32N s).1 == -1)=false from by simpa using hneg,if_neg (by simp)]
  refine zbd (hK _ _ ?_)
  clear hK K
  have e:bytR s=(zqf (i32N s).1 (i32N s).2,zjn (i32N s).1 (i32N s).2):=by unfold bytR; rw[if_neg hneg]
  rw[e]
  refine zd fun K hK=>zrx B F B.int32 (wrap_i64 (by have:=zkg s; omega) (by have:=zkg s; omega)) hS (r:=r) (n:=(i32N s).1) (by simp [zg,zbh]) (by simp [zg]) hr1 fun ρ w2 v hρ h3 hb hr2 hm2=>?_
  ·subst h3
   have h3:ρ 3=ρ 3:=rfl
   simp +decide only [bK,Nat.reduceAdd]
   refine hK _ _ (zb fun σ hσ=>zbb ⟨.inr rfl,_,rfl,?_⟩)
   have e1:=hσ 1
   simp +decide only [bE,BEq.rfl,Nat.reduceAdd] at e1
   rw[e1]
   exact⟨hb.oct,hr2,zfb hm1 hm2⟩
theorem zty (B:Base P N) (F:Fns P N) (hN:N.zdo≠0):OctOk P N.zdo zxt:=by
 intro w lo hi r s hr
 have h:=F.PReader_CompactBytes hN
 have hU:=h.2.2
 have hS:=h.2.1
 refine h.1.call rfl fun loc N' hlo=>?_
 unfold ziq
 refine zd fun K hK=>zao (hK _ _ ?_)
 clear hK K
 refine zd fun K hK=>zrz B F hU (r:=r) (by simp [zg,zbh]) hr fun w1 hr1 hm1=>hK _ _ ?_
 clear hK K
 refine zd fun K hK=>zd fun K1 hK1=>W_eql (d:=3) (j:=2) (n:=((uvN s).1 - 1:Int)) (upd_same _ _ _) (hK1 _ _ (W_if hlo (upd_same _ _ _) ?_))
 clear hK1 K1
 by_cases hneg:((uvN s).1 - 1:Int)=-1
 ·rw[show (((uvN s).1 - 1:Int) == -1)=true from by simpa using hneg,if_pos rfl]
  refine zd fun K2 hK2=>zi fun τ=>?_
  have eb:∀ ρ:Env,(#[]:Array (Nat × Operand)).map (fun p=>(p.1,ev ρ p.2))=#[]:=fun _=>by simp
  simp +decide only [bK,bE,BEq.rfl,Nat.reduceAdd,eb,zke B.Lu8 B.uint8]
  refine hK2 _ _ (zb fun σ hσ=>zbb ⟨.inr rfl,_,rfl,?_⟩)
  have e1:=hσ 1
  simp +decide only [bE,BEq.rfl,Nat.reduceAdd] at e1
  have e:zxt s=(some [],(uvN s).2):=by unfold zxt; rw[if_pos hneg]
  rw[e1,e]
  have o3:Mod w1 (w1.alloc (.cells #[] N.zh)) zy:=Mod.alloc _ _ _
  exact⟨.inr ⟨_,0,0,rfl,rfl,Nat.le_refl _,fun h=>absurd rfl h,fun j v hj=>by simp at hj⟩,hr1.mod o3 (fun _ h=>h) (fun _ _ _ _ h=>h),hm1.trans o3 fun k o _ h=>h.elim id False.elim⟩
 ·rw[show (((uvN s).1 - 1:Int) == -1)=false from by simpa using hneg,if_neg (by simp)]
  refine zbd (hK _ _ ?_)
  clear hK K
  have e:zxt s=(zqf ((uvN s).1 - 1:Int) (uvN s).2,zjn ((uvN s).1 - 1:Int) (uvN s).2):=by unfold zxt; rw[if_neg hneg]
  rw[e]
  refine zd fun K hK=>zry B F hS (r:=r) (n:=((uvN s).1 - 1:Int)) (by simp [zg,zbh]) (by simp [zg]) hr1 fun ρ w2 v hρ h3 hb hr2 hm2=>?_
  ·subst h3
   have h3:ρ 2=ρ 2:=rfl
   simp +decide only [bK,Nat.reduceAdd]
   refine hK _ _ (zb fun σ hσ=>zbb ⟨.inr rfl,_,rfl,?_⟩)
   have e1:=hσ 1
   simp +decide only [bE,BEq.rfl,Nat.reduceAdd] at e1
   rw[e1]
   exact⟨hb.oct,hr2,zfb hm1 hm2⟩
theorem zmu (B:Base P N) (F:Fns P N) (hN:N.zct≠0):OctOk P N.zct zub:=by
 intro w lo hi r s hr
 have h:=F.PReader_NullableBytes hN
 have hU:=h.2.1
 have hS:=h.2.2
 refine h.1.call rfl fun loc N' hlo=>?_
 unfold zif
 refine zd fun K hK=>zao (hK _ _ ?_)
 clear hK K
 refine zd fun K hK=>zyg B F hU (r:=r) (by simp [zg,zbh]) hr fun w1 hr1 hm1=>hK _ _ ?_
 clear hK K
 refine zd fun K hK=>zd fun K1 hK1=>W_lss (d:=3) (j:=2) (n:=(i32N s).1) (upd_same _ _ _) (hK1 _ _ (W_if hlo (upd_same _ _ _) ?_))
 clear hK1 K1
 by_cases hneg:(i32N s).1 < 0
 ·rw[decide_eq_true hneg,if_pos rfl]
  refine zd fun K2 hK2=>zao (hK2 _ _ (zbb ⟨.inr rfl,_,rfl,?_⟩))
  have e:zub s=(none,(i32N s).2):=by unfold zub; rw[if_pos hneg]
  rw[upd_same,e]
  exact⟨rfl,hr1,hm1⟩
 ·rw[decide_eq_false hneg,if_neg (by simp)]
  refine zbd (hK _ _ ?_)
  clear hK K
  have e:zub s=(zqf (i32N s).1 (i32N s).2,zjn (i32N s).1 (i32N s).2):=by unfold zub; rw[if_neg hneg]
  rw[e]
  refine zd fun K hK=>zrx B F B.int32 (wrap_i64 (by have:=zkg s; omega) (by have:=zkg s; omega)) hS (r:=r) (n:=(i32N s).1) (by simp [zg,zbh]) (by simp [zg]) hr1 fun ρ w2 v hρ h3 hb hr2 hm2=>?_
  ·subst h3
   have h3:ρ 3=ρ 3:=rfl
   simp +decide only [bK,Nat.reduceAdd]
   refine hK _ _ (zb fun σ hσ=>?_)
   have e4:=hσ 4
   simp +decide only [bE,BEq.rfl,Nat.reduceAdd] at e4
   clear hσ hK K
   refine zd fun K hK=>zgp (i:=1) (j:=4) (hK _ _ (zbb ⟨.inr rfl,_,rfl,?_⟩))
   rw[upd_same,e4]
   exact⟨hb.oct,hr2,zfb hm1 hm2⟩
theorem zmi (B:Base P N) (F:Fns P N) (hN:N.zcg≠0):OctOk P N.zcg znr:=by
 intro w lo hi r s hr
 have h:=F.PReader_CompactNullableBytes hN
 have hU:=h.2.2
 have hS:=h.2.1
 refine h.1.call rfl fun loc N' hlo=>?_
 unfold zfo
 refine zd fun K hK=>zao (hK _ _ ?_)
 clear hK K
 refine zd fun K hK=>zrz B F hU (r:=r) (by simp [zg,zbh]) hr fun w1 hr1 hm1=>hK _ _ ?_
 clear hK K
 refine zd fun K hK=>zd fun K1 hK1=>W_lss (d:=3) (j:=2) (n:=((uvN s).1 - 1:Int)) (upd_same _ _ _) (hK1 _ _ (W_if hlo (upd_same _ _ _) ?_))
 clear hK1 K1
 by_cases hneg:((uvN s).1 - 1:Int) < 0
 ·rw[decide_eq_true hneg,if_pos rfl]
  refine zd fun K2 hK2=>zao (hK2 _ _ (zbb ⟨.inr rfl,_,rfl,?_⟩))
  have e:znr s=(none,(uvN s).2):=by unfold znr; rw[if_pos hneg]
  rw[upd_same,e]
  exact⟨rfl,hr1,hm1⟩
 ·rw[decide_eq_false hneg,if_neg (by simp)]
  refine zbd (hK _ _ ?_)
  clear hK K
  have e:znr s=(zqf ((uvN s).1 - 1:Int) (uvN s).2,zjn ((uvN s).1 - 1:Int) (uvN s).2):=by unfold znr; rw[if_neg hneg]
  rw[e]
  refine zd fun K hK=>zry B F hS (r:=r) (n:=((uvN s).1 - 1:Int)) (by simp [zg,zbh]) (by simp [zg]) hr1 fun ρ w2 v hρ h3 hb hr2 hm2=>?_
  ·subst h3
   have h3:ρ 2=ρ 2:=rfl
   simp +decide only [bK,Nat.reduceAdd]
   refine hK _ _ (zb fun σ hσ=>?_)
   have e4:=hσ 4
   simp +decide only [bE,BEq.rfl,Nat.reduceAdd] at e4
   clear hσ hK K
   refine zd fun K hK=>zgp (i:=1) (j:=4) (hK _ _ (zbb ⟨.inr rfl,_,rfl,?_⟩))
   rw[upd_same,e4]
   exact⟨hb.oct,hr2,zfb hm1 hm2⟩
theorem ztz (B:Base P N) (F:Fns P N) (hN:N.zda≠0):LenOk P N.zda arrR:=by
 intro w lo hi r s hr
 have h:=F.PReader_ArrayLen hN
 refine h.1.call rfl fun loc N' hlo=>?_
 unfold zld
 refine zd fun K hK=>zao (hK _ _ ?_)
 clear hK K
 refine zd fun K hK=>zyg B F h.2 (r:=r) (by simp [zg,zbh]) hr fun w1 hr1 hm1=>hK _ _ ?_
 clear hK K
 obtain⟨σ,hσ⟩:∃ σ,σ=upd (upd (zdf #[.pointer (some ⟨r,0,none⟩)]) 1 (.int .i32 0)) 2 (.int .i32 ((i32N s).1)):=⟨_,rfl⟩
 have f0:σ 0=.pointer (some ⟨r,0,none⟩):=by rw[hσ]; simp [zg,zbh]
 have f2:σ 2=.int .i32 ((i32N s).1):=by rw[hσ]; exact upd_same _ _ _
 have hgen:∀ {c:C} {Q:Exit→Env→World→Prop},W P loc N' c Q σ w1→W P loc N' c Q (upd (upd (zdf #[.pointer (some ⟨r,0,none⟩)]) 1 (.int .i32 0)) 2 (.int .i32 ((i32N s).1))) w1:=fun h=>hσ ▸ h
 refine hgen ?_
 clear hgen hσ
 obtain⟨v,hv,hb⟩:=hr1.cell0
 have hlen:=hb.len B (w':=w1) (ty:=N.ze)
 have hbd:=zkg s
 have hw:IntKind.i64.wrap ((i32N s).1)=(i32N s).1:=wrap_i64 (by omega) (by omega)
 refine zd fun K hK=>zd fun K1 hK1=>zi fun τ=>?_
 simp +decide (disch:=omega) only [bK,bE,Nat.reduceBeqDiff,BEq.rfl,Nat.reduceAdd,Nat.zero_add,f0]
 rw[zw rfl]
 simp +decide (disch:=omega) only [bK,bE,Nat.reduceBeqDiff,BEq.rfl,Nat.add_zero,B.reader0.run,B.Lu8.run_load1 rfl,hv,hlen,f2,zat B.int32 B.int ⟨_,rfl⟩,hw,zk,zai,locs_envOf]
 refine hK1 _ _ (W_if hlo (upd_same _ _ _) ?_)
 clear hK1 K1
 have g0:∀ b,upd σ 3 (.bool b) 0=.pointer (some ⟨r,0,none⟩):=fun b=>by rw[zg (by decide)]; exact f0
 by_cases hlt:((i32N s).2.l.length:Int) < (i32N s).1
 ·rw[decide_eq_true hlt,if_pos rfl]
  refine zd fun K2 hK2=>W_bad (i:=0) B (g0 _) hr1.there (hK2 _ _ ?_)
  refine zd fun K3 hK3=>zvc (i:=0) B (g0 _) (zhu hr1.there) (hK3 _ _ ?_)
  refine zd fun K4 hK4=>zao (hK4 _ _ (zbb ⟨.inr rfl,_,rfl,?_⟩))
  have e:arrR s=(0,⟨[],true,true⟩):=by unfold arrR; rw[if_pos hlt]
  rw[upd_same,e]
  exact⟨rfl,hr1.bad.1,zfb hm1 hr1.bad.2⟩
 ·rw[decide_eq_false hlt,if_neg (by simp)]
  refine zbd (hK _ _ ?_)
  refine zd fun K2 hK2=>zgp (i:=1) (j:=2) (hK2 _ _ (zbb ⟨.inr rfl,_,rfl,?_⟩))
  have e:arrR s=((i32N s).1,(i32N s).2):=by unfold arrR; rw[if_neg hlt]
  rw[upd_same,zg (by decide),f2,e]
  exact⟨rfl,hr1,hm1⟩
theorem zqk (B:Base P N) (F:Fns P N) (hN:N.zba≠0):LenOk P N.zba zlj:=by
 intro w lo hi r s hr
 have h:=F.PReader_CompactArrayLen hN
 refine h.1.call rfl fun loc N' hlo=>?_
 unfold zhe
 refine zd fun K hK=>zao (hK _ _ ?_)
 clear hK K
 refine zd fun K hK=>zi fun τ=>?_
 simp +decide only [bK,bE,BEq.rfl,Nat.reduceAdd,Nat.zero_add,zg]
 rw[zan (F.PReader_Uvarint h.2).1.has]
 simp +decide only [bK,bE,BEq.rfl]
 refine(zgr B F h.2 w lo hi r s hr).mono ?_
 rintro v w1 ⟨rfl,hr1,hm1⟩
 simp +decide only [bK,Nat.reduceLT,zat B.uint32 B.int32 ⟨_,rfl⟩,zk,zai,locs_envOf]
 refine hK _ _ ?_
 clear hK K
 obtain⟨σ,hσ⟩:∃ σ,σ=upd (upd (zdf #[.pointer (some ⟨r,0,none⟩)]) 1 (.int .i32 0)) 2 (.int .i32 (zox s)):=⟨_,rfl⟩
 have f0:σ 0=.pointer (some ⟨r,0,none⟩):=by rw[hσ]; simp [zg,zbh]
 have f2:σ 2=.int .i32 (zox s):=by rw[hσ]; exact upd_same _ _ _
 have hgen:∀ {c:C} {Q:Exit→Env→World→Prop},W P loc N' c Q σ w1→W P loc N' c Q (upd (upd (zdf #[.pointer (some ⟨r,0,none⟩)]) 1 (.int .i32 0)) 2 (.int .i32 (zox s))) w1:=fun h=>hσ ▸ h
 refine hgen ?_
 clear hgen hσ
 obtain⟨v,hv,hb⟩:=hr1.cell0
 have hlen:=hb.len B (w':=w1) (ty:=N.ze)
 have hbd:=zwo s
 have hw:IntKind.i64.wrap (zox s)=zox s:=wrap_i64 (by omega) (by omega)
 refine zd fun K hK=>zd fun K1 hK1=>zi fun τ=>?_
 simp +decide (disch:=omega) only [bK,bE,Nat.reduceBeqDiff,BEq.rfl,Nat.reduceAdd,Nat.zero_add,f0]
 rw[zw rfl]
 simp +decide (disch:=omega) only [bK,bE,Nat.reduceBeqDiff,BEq.rfl,Nat.add_zero,B.reader0.run,B.Lu8.run_load1 rfl,hv,hlen,f2,zat B.int32 B.int ⟨_,rfl⟩,hw,zk,zai,locs_envOf]
 refine hK1 _ _ (W_if hlo (upd_same _ _ _) ?_)
 clear hK1 K1
 have g0:∀ b,upd σ 3 (.bool b) 0=.pointer (some ⟨r,0,none⟩):=fun b=>by rw[zg (by decide)]; exact f0
 by_cases hlt:((uvN s).2.l.length:Int) < zox s
 ·rw[decide_eq_true hlt,if_pos rfl]
  refine zd fun K2 hK2=>W_bad (i:=0) B (g0 _) hr1.there (hK2 _ _ ?_)
  refine zd fun K3 hK3=>zvc (i:=0) B (g0 _) (zhu hr1.there) (hK3 _ _ ?_)
  refine zd fun K4 hK4=>zao (hK4 _ _ (zbb ⟨.inr rfl,_,rfl,?_⟩))
  have e:zlj s=(0,⟨[],true,true⟩):=by unfold zlj; rw[if_pos hlt]
  rw[upd_same,e]
  exact⟨rfl,hr1.bad.1,zfb hm1 hr1.bad.2⟩
 ·rw[decide_eq_false hlt,if_neg (by simp)]
  refine zbd (hK _ _ ?_)
  refine zd fun K2 hK2=>zgp (i:=1) (j:=2) (hK2 _ _ (zbb ⟨.inr rfl,_,rfl,?_⟩))
  have e:zlj s=(zox s,(uvN s).2):=by unfold zlj; rw[if_neg hlt]
  rw[upd_same,zg (by decide),f2,e]
  exact⟨rfl,hr1,hm1⟩
end
inductive Val where
 | num (v:Value)
 | nstr (o:Option (List UInt8))
 | oct (o:Option (List UInt8))
 | nilA
 | arr (sz:Nat) (l:List Val)
 | row (l:List Val)
 | nilP
 | ptr (l:List Val)
 | tags (l:List (Nat × List UInt8))
 deriving Inhabited
def OctG (w:World) (G:Nat→Prop) (v:Value):Option (List UInt8)→Prop
 | none=>v=.slice none 0 0
 | some l=>∃ b o c,v=.slice (some ⟨b,o,none⟩) l.length c∧l.length≤c∧(l≠[]→G b)∧w.rangeAt b o (l.map zz)
def zcf (w:World) (G:Nat→Prop):List (Nat × List UInt8)→List MapEntry→Prop
 | [],es=>es=[]
 | (k,l) :: r,es=>∃ v b rest,es=⟨.int .u32 k,v,b⟩ :: rest∧((l=[]∧∃ ad c,v=.slice ad 0 c)∨OctG w G v (some l))∧zcf w G r rest
def zpx (w:World) (G:Nat→Prop) (v:Value) (l:List (Nat × List UInt8)):Prop:=
 (v=.map none∧l=[])∨∃ m es ck,v=.map (some m)∧G m∧w.heap[m]?=some (.map es ck)∧(∀ e∈es.toList,e.born < ck)∧(es.toList.map MapEntry.born).Nodup∧zcf w G l es.toList∧(l.map Prod.fst).Nodup∧∀ x∈l,x.1 < 4294967296
mutual
def Rep (w:World) (G:Nat→Prop):Val→List Value→Prop
 | .num v,cs=>cs=v.cells.toList
 | .nstr none,cs=>cs=[.pointer none]
 | .nstr (some l),cs=>∃ b,cs=[.pointer (some ⟨b,0,none⟩)]∧G b∧w.rangeAt b 0 [strV l]
 | .oct o,cs=>∃ v,cs=[v]∧OctG w G v o
 | .nilA,cs=>cs=[.slice none 0 0]
 | .arr sz l,cs=>∃ b c css,cs=[.slice (some ⟨b,0,none⟩) l.length c]∧l.length≤c∧(l≠[]→G b)∧(∀ x∈css,x.length=sz)∧RepL w G l css∧w.rangeAt b 0 css.flatten
 | .row l,cs=>∃ css,cs=css.flatten∧RepL w G l css
 | .nilP,cs=>cs=[.pointer none]
 | .ptr l,cs=>∃ b css,cs=[.pointer (some ⟨b,0,none⟩)]∧G b∧RepL w G l css∧w.rangeAt b 0 css.flatten
 | .tags l,cs=>∃ v,cs=[v]∧zpx w G v l
def RepL (w:World) (G:Nat→Prop):List Val→List (List Value)→Prop
 | [],css=>css=[]
 | v :: l,css=>∃ c r,css=c :: r∧Rep w G v c∧RepL w G l r
end
theorem OctG.mod {w w':World} {M:Nat→Nat→Prop} {G G':Nat→Prop} (h:Mod w w' M) (hG:∀ k,G k→k < w.heap.size∧(∀ o,¬ M k o)∧G' k) {v:Value} {o:Option (List UInt8)} (hb:OctG w G v o):OctG w' G' v o:=by
 cases o with
 | none=>exact hb
 | some l=>
  obtain⟨b,o,c,h1,h2,h3,h4⟩:=hb
  refine⟨b,o,c,h1,h2,fun hne=>(hG b (h3 hne)).2.2,?_⟩
  cases l with
  | nil=>intro j v hj; simp at hj
  | cons x l=>
   obtain⟨g1,g2,_⟩:=hG b (h3 (by simp))
   exact h.rangeAt g1 (fun i _ _=>g2 i) h4
theorem zcf.mod {w w':World} {M:Nat→Nat→Prop} {G G':Nat→Prop} (h:Mod w w' M) (hG:∀ k,G k→k < w.heap.size∧(∀ o,¬ M k o)∧G' k):∀ {l:List (Nat × List UInt8)} {es:List MapEntry},zcf w G l es→zcf w' G' l es
 | [],_,he=>he
 | (k,l) :: r,es,⟨v,b,rest,h1,h2,h3⟩=>⟨v,b,rest,h1,h2.imp (fun x=>⟨x.1,x.2⟩) (fun x=>x.mod h hG),zcf.mod h hG h3⟩
theorem zpx.mod {w w':World} {M:Nat→Nat→Prop} {G G':Nat→Prop} (h:Mod w w' M) (hG:∀ k,G k→k < w.heap.size∧(∀ o,¬ M k o)∧G' k) {v:Value} {l:List (Nat × List UInt8)} (ht:zpx w G v l):zpx w' G' v l:=by
 rcases ht with ht | ⟨m,es,ck,h1,h2,h3,h4,h5,h6,h7⟩
 ·exact .inl ht
 ·obtain⟨g1,g2,g3⟩:=hG m h2
  exact .inr ⟨m,es,ck,h1,g3,by rw[h.block m g1 g2]; exact h3,h4,h5,h6.mod h hG,h7⟩
mutual
theorem Rep.mod {w w':World} {M:Nat→Nat→Prop} {G G':Nat→Prop} (h:Mod w w' M) (hG:∀ k,G k→k < w.heap.size∧(∀ o,¬ M k o)∧G' k):∀ (v:Val) {cs:List Value},Rep w G v cs→Rep w' G' v cs
 | .num v,_,hr=>hr
 | .nstr none,_,hr=>hr
 | .nstr (some l),_,⟨b,h1,h2,h3⟩=>⟨b,h1,(hG b h2).2.2,h.rangeAt (hG b h2).1 (fun i _ _=>(hG b h2).2.1 i) h3⟩
 | .oct o,_,⟨v,h1,h2⟩=>⟨v,h1,h2.mod h hG⟩
 | .nilA,_,hr=>hr
 | .arr sz l,_,⟨b,c,css,h1,h2,h3,h4,h5,h6⟩=>⟨b,c,css,h1,h2,fun hne=>(hG b (h3 hne)).2.2,h4,RepL.mod h hG l h5,by
   cases l with
   | nil=>
    simp only [RepL] at h5
    subst h5
    intro j v hj; simp at hj
   | cons x l=>
    obtain⟨g1,g2,_⟩:=hG b (h3 (by simp))
    exact h.rangeAt g1 (fun i _ _=>g2 i) h6⟩
 | .row l,_,⟨css,h1,h2⟩=>⟨css,h1,RepL.mod h hG l h2⟩
 | .nilP,_,hr=>hr
 | .ptr l,_,⟨b,css,h1,h2,h3,h4⟩=>⟨b,css,h1,(hG b h2).2.2,RepL.mod h hG l h3,h.rangeAt (hG b h2).1 (fun i _ _=>(hG b h2).2.1 i) h4⟩
 | .tags l,_,⟨v,h1,h2⟩=>⟨v,h1,h2.mod h hG⟩
theorem RepL.mod {w w':World} {M:Nat→Nat→Prop} {G G':Nat→Prop} (h:Mod w w' M) (hG:∀ k,G k→k < w.heap.size∧(∀ o,¬ M k o)∧G' k):∀ (l:List Val) {css:List (List Value)},RepL w G l css→RepL w' G' l css
 | [],_,hr=>hr
 | v :: l,_,⟨c,r,h1,h2,h3⟩=>⟨c,r,h1,Rep.mod h hG v h2,RepL.mod h hG l h3⟩
end
theorem OctG.mono {w:World} {G G':Nat→Prop} (hG:∀ k,G k→G' k) {v:Value} {o:Option (List UInt8)} (hb:OctG w G v o):OctG w G' v o:=by
 cases o with
 | none=>exact hb
 | some l=>
  obtain⟨b,o,c,h1,h2,h3,h4⟩:=hb
  exact⟨b,o,c,h1,h2,fun hne=>hG b (h3 hne),h4⟩
theorem zcf.mono {w:World} {G G':Nat→Prop} (hG:∀ k,G k→G' k):∀ {l:List (Nat × List UInt8)} {es:List MapEntry},zcf w G l es→zcf w G' l es
 | [],_,he=>he
 | (k,l) :: r,es,⟨v,b,rest,h1,h2,h3⟩=>⟨v,b,rest,h1,h2.imp (fun x=>⟨x.1,x.2⟩) (fun x=>x.mono hG),zcf.mono hG h3⟩
theorem zpx.mono {w:World} {G G':Nat→Prop} (hG:∀ k,G k→G' k) {v:Value} {l:List (Nat × List UInt8)} (ht:zpx w G v l):zpx w G' v l:=by
 rcases ht with ht | ⟨m,es,ck,h1,h2,h3,h4,h5,h6,h7⟩
 ·exact .inl ht
 ·exact .inr ⟨m,es,ck,h1,hG m h2,h3,h4,h5,h6.mono hG,h7⟩
mutual
theorem Rep.mono {w:World} {G G':Nat→Prop} (hG:∀ k,G k→G' k):∀ (v:Val) {cs:List Value},Rep w G v cs→Rep w G' v cs
 | .num v,_,hr=>hr
 | .nstr none,_,hr=>hr
 | .nstr (some l),_,⟨b,h1,h2,h3⟩=>⟨b,h1,hG b h2,h3⟩
 | .oct o,_,⟨v,h1,h2⟩=>⟨v,h1,h2.mono hG⟩
 | .nilA,_,hr=>hr
 | .arr sz l,_,⟨b,c,css,h1,h2,h3,h4,h5,h6⟩=>⟨b,c,css,h1,h2,fun hne=>hG b (h3 hne),h4,RepL.mono hG l h5,h6⟩
 | .row l,_,⟨css,h1,h2⟩=>⟨css,h1,RepL.mono hG l h2⟩
 | .nilP,_,hr=>hr
 | .ptr l,_,⟨b,css,h1,h2,h3,h4⟩=>⟨b,css,h1,hG b h2,RepL.mono hG l h3,h4⟩
 | .tags l,_,⟨v,h1,h2⟩=>⟨v,h1,h2.mono hG⟩
theorem RepL.mono {w:World} {G G':Nat→Prop} (hG:∀ k,G k→G' k):∀ (l:List Val) {css:List (List Value)},RepL w G l css→RepL w G' l css
 | [],_,hr=>hr
 | v :: l,_,⟨c,r,h1,h2,h3⟩=>⟨c,r,h1,Rep.mono hG v h2,RepL.mono hG l h3⟩
end
theorem RepL.length {w:World} {G:Nat→Prop}:∀ {l:List Val} {css:List (List Value)},RepL w G l css→css.length=l.length
 | [],_,h=>by simp only [RepL] at h; subst h; rfl
 | v :: l,_,⟨c,r,h1,h2,h3⟩=>by subst h1; simp [RepL.length h3]
theorem RepL.append {w:World} {G:Nat→Prop}:∀ {l:List Val} {css:List (List Value)} {l':List Val} {css':List (List Value)},RepL w G l css→RepL w G l' css'→RepL w G (l++l') (css++css')
 | [],_,_,_,h,h'=>by simp only [RepL] at h; subst h; exact h'
 | v :: l,_,_,_,⟨c,r,h1,h2,h3⟩,h'=>by subst h1; exact⟨c,r++_,rfl,h2,RepL.append h3 h'⟩
theorem OctAt.octG {w:World} {lo hi:Nat} {v:Value} {o:Option (List UInt8)} (h:OctAt w lo hi v o):OctG w (fun k=>lo≤k∧k < hi) v o:=by
 cases o with
 | none=>exact h
 | some l=>
  rcases h with⟨h,_⟩ | ⟨b,o,c,_,h1,h2,h3,h4⟩
  ·cases h
  ·exact⟨b,o,c,h1,h2,h3,h4⟩
inductive PK where
 | bool | i8 | i16 | u16 | i32 | i64 | uuid
 | en (t:TypeId)
 deriving DecidableEq
def PK.isEn:PK→Bool
 | .en _=>true
 | _=>false
def PK.is8:PK→Bool
 | .i8=>true
 | .en _=>true
 | _=>false
def PK.nt (N:Nums) (k:PK):Prop:=(k=.uuid→N.zaq≠0)∧(k.is8=true→N.zjd≠0)
def PK.isSg:PK→Bool
 | .en _=>false
 | .uuid=>false
 | _=>true
inductive Txt where
 | str | nstr | byt | nbyt
 deriving DecidableEq
inductive Gd where
 | all | ge (n:Int) | btw (n m:Int) | never
def Gd.on (ver:Int):Gd→Bool
 | .all=>true
 | .ge n=>decide (ver ≥ n)
 | .btw n m=>decide (ver ≥ n) && decide (ver≤m)
 | .never=>false
def Gd.nev:Gd→Bool
 | .never=>true
 | _=>false
def PK.f (N:Nums):PK→FuncId
 | .bool=>N.zhd | .i8=>N.zdt | .i16=>N.zbm | .u16=>N.zfy | .i32=>N.zcc | .i64=>N.zgn | .uuid=>N.zfg | .en _=>N.zdt
def PK.t (N:Nums):PK→TypeId
 | .bool=>N.zay | .i8=>N.zjd | .i16=>N.zbf | .u16=>N.zfj | .i32=>N.zbr | .i64=>N.zcv | .uuid=>N.zaq | .en t=>t
def PK.zero:PK→Value
 | .bool=>.bool false | .i8=>.int .i8 0 | .i16=>.int .i16 0 | .u16=>.int .u16 0 | .i32=>.int .i32 0 | .i64=>.int .i64 0 | .uuid=>.agg (Array.replicate 16 (.int .u8 0)) | .en _=>.int .i8 0
def PK.sz:PK→Nat
 | .uuid=>16 | _=>1
def zww (l:List UInt8):Value:=.agg ((l++List.replicate (16 - l.length) 0).take 16 |>.map zz).toArray
def PK.rd:PK→RS→Value × RS
 | .bool=>zeh 1 (fun l=>.bool (be l != 0)) (.bool false)
 | .i8=>zeh 1 (fun l=>.int .i8 (IntKind.i8.wrap (be l))) (.int .i8 0)
 | .i16=>zeh 2 (fun l=>.int .i16 (IntKind.i16.wrap (be l))) (.int .i16 0)
 | .u16=>zeh 2 (fun l=>.int .u16 (be l)) (.int .u16 0)
 | .i32=>zeh 4 (fun l=>.int .i32 (IntKind.i32.wrap (be l))) (.int .i32 0)
 | .i64=>zeh 8 (fun l=>.int .i64 (IntKind.i64.wrap (be l))) (.int .i64 0)
 | .uuid=>fun s=>(zww (zeu 16 s),zjn 16 s)
 | .en _=>zeh 1 (fun l=>.int .i8 (IntKind.i8.wrap (be l))) (.int .i8 0)
def PK.vn:PK→Nat
 | .en _=>3
 | _=>1
def i8P (s:RS):Int:=match (PK.i8.rd s).1 with
 | .int _ x=>x
 | _=>0
def Txt.t (N:Nums):Txt→TypeId
 | .str=>N.zac | .nstr=>N.zbc | _=>N.za
def Txt.zero:Txt→Value
 | .str=>.string ⟨#[]⟩ | .nstr=>.pointer none | _=>.slice none 0 0
def Txt.iniV:Txt→Val
 | .str=>.num (strV []) | .nstr=>.nstr none | _=>.oct none
def Txt.rd (fl:Bool):Txt→RS→Val × RS
 | .str,s=>let x:=if fl then zkq s else strR s; (.num (strV x.1),x.2)
 | .nstr,s=>let x:=if fl then zju s else zow s; (.nstr x.1,x.2)
 | .byt,s=>let x:=if fl then zxt s else bytR s; (.oct x.1,x.2)
 | .nbyt,s=>let x:=if fl then znr s else zub s; (.oct x.1,x.2)
mutual
inductive Ty where
 | pr (k:PK) (d:Option Value)
 | txt (k:Txt)
 | arr (st:TypeId) (nul:Option Int) (e:El)
 | row (T pT:TypeId) (dflt:FuncId) (fs:Fds)
 | tv (k:Int)
 | ptr (T pT:TypeId) (dflt:FuncId) (fs:Fds)
inductive El where
 | pr (k:PK)
 | txt (k:Txt)
 | row (T pT:TypeId) (dflt:FuncId) (fs:Fds)
inductive Fds where
 | nil
 | tags (kt:Option Nat)
 | cons (g:Gd) (ty:Ty) (rest:Fds)
end
mutual
def Ty.sz:Ty→Nat
 | .pr k _=>k.sz
 | .txt _=>1
 | .arr ..=>1
 | .row _ _ _ fs=>fs.sz
 | .tv _=>1
 | .ptr ..=>1
def Fds.sz:Fds→Nat
 | .nil=>0
 | .tags _=>1
 | .cons _ ty r=>ty.sz+r.sz
end
def El.sz:El→Nat
 | .pr k=>k.sz
 | .txt _=>1
 | .row _ _ _ fs=>fs.sz
def Fds.szs:Fds→List Nat
 | .nil=>[]
 | .tags _=>[1]
 | .cons _ ty r=>ty.sz :: r.szs
theorem Fds.szs_sum:∀ fs:Fds,fs.szs.sum=fs.sz
 | .nil=>rfl
 | .tags _=>rfl
 | .cons _ ty r=>by simp only [Fds.szs,Fds.sz,List.sum_cons,Fds.szs_sum r]
mutual
def Ty.zero:Ty→List Value
 | .pr k _=>k.zero.cells.toList
 | .txt k=>[k.zero]
 | .arr ..=>[.slice none 0 0]
 | .row _ _ _ fs=>fs.zero
 | .tv _=>[.pointer none]
 | .ptr ..=>[.pointer none]
def Fds.zero:Fds→List Value
 | .nil=>[]
 | .tags _=>[.map none]
 | .cons _ ty r=>ty.zero++r.zero
end
mutual
def Ty.ini:Ty→List Value
 | .pr k d=>(d.getD k.zero).cells.toList
 | .txt k=>[k.zero]
 | .arr ..=>[.slice none 0 0]
 | .row _ _ _ fs=>fs.ini
 | .tv _=>[.pointer none]
 | .ptr ..=>[.pointer none]
def Fds.ini:Fds→List Value
 | .nil=>[]
 | .tags _=>[.map none]
 | .cons _ ty r=>ty.ini++r.ini
end
mutual
def Ty.iniV:Ty→Val
 | .pr k d=>.num (d.getD k.zero)
 | .txt k=>k.iniV
 | .arr ..=>.nilA
 | .row _ _ _ fs=>.row fs.iniV
 | .tv _=>.nstr none
 | .ptr ..=>.nilP
def Fds.iniV:Fds→List Val
 | .nil=>[]
 | .tags _=>[.tags []]
 | .cons _ ty r=>ty.iniV :: r.iniV
end
def rdN {α:Type} (f:RS→Option (α × RS)):Nat→RS→Option (List α × RS)
 | 0,s=>some ([],s)
 | n+1,s=>match f s with
  | none=>none
  | some (v,s)=>match rdN f n s with
   | none=>none
   | some (l,s)=>some (v :: l,s)
def tput (l:List (Nat × List UInt8)) (k:Nat) (v:List UInt8):List (Nat × List UInt8):=
 if (l.map Prod.fst).contains k then l.map fun x=>if x.1=k then (k,v) else x else l++[(k,v)]
def zvh:Nat→List (Nat × List UInt8)→RS→List (Nat × List UInt8) × RS
 | 0,l,s=>(l,s)
 | n+1,l,s=>
  let k:=uvN s
  let z:=uvN k.2
  zvh n (tput l k.1 (zeu z.1 z.2)) (zjn z.1 z.2)
def inS (s:RS):RS:=⟨zeu (uvN s).1 (uvN s).2,false,zvj (uvN s).1 (uvN s).2⟩
def outS (s:RS):RS:=zjn (uvN s).1 (uvN s).2
def kN {X:Type} (keyR:X→RS→Option (X × RS)) (dfl:Nat→X→RS→X × RS):Nat→X→RS→Option (X × RS)
 | 0,x,s=>some (x,s)
 | c+1,x,s=>if (uvN s).1=0 then (match keyR x (uvN s).2 with
   | none=>none
   | some y=>kN keyR dfl c y.1 y.2) else kN keyR dfl c (dfl (uvN s).1 x (uvN s).2).1 (dfl (uvN s).1 x (uvN s).2).2
def kDfl (c:Nat) (x:List Val × List (Nat × List UInt8)) (s:RS):(List Val × List (Nat × List UInt8)) × RS:=((x.1,tput x.2 c (inS s).l),outS s)
def kRj (f:Val→RS→Option (Val × RS)) (j:Nat) (x:List Val × List (Nat × List UInt8)) (s:RS):Option ((List Val × List (Nat × List UInt8)) × RS):=
 match f (x.1.getD j .nilP) (inS s) with
 | none=>none
 | some (v,s')=>if s'.bad then none else some ((x.1.set j v,x.2),outS s)
def ktR (fl:Bool) (f:Val→RS→Option (Val × RS)) (j:Nat) (l:List Val) (s:RS):Option (List Val × RS):=
 if fl then match kN (kRj f j) kDfl (uvN s).1 (l.dropLast,[]) (uvN s).2 with
  | none=>none
  | some y=>some (y.1.1++[.tags y.1.2],y.2)
 else some (l.dropLast++[.tags []],s)
def zvg (s:RS):List (Nat × List UInt8) × RS:=zvh (uvN s).1 [] (uvN s).2
def Fds.kt:Fds→Option Nat
 | .nil=>none
 | .tags k=>k
 | .cons _ _ r=>r.kt
def Fds.len:Fds→Nat
 | .cons _ _ r=>r.len+1
 | _=>0
section
variable (ver:Int) (fl:Bool)
mutual
def Ty.rd:Ty→RS→Option (Val × RS)
 | .pr k _,s=>some (.num (k.rd s).1,(k.rd s).2)
 | .txt k,s=>some (k.rd fl s)
 | .arr _ nul e,s=>
  let x:=if fl then zlj s else arrR s
  if x.2.bad then none
  else if 0 < x.1 then
   match rdN e.rd x.1.toNat x.2 with
   | none=>none
   | some (l,s)=>some (.arr e.sz l,s)
  else some (match nul with
   | none=>.nilA
   | some n=>if ver < n∨x.1=0 then .arr e.sz [] else .nilA,x.2)
 | .row _ _ _ fs,s=>match fs.rd s with
  | none=>none
  | some (l,s)=>some (.row l,s)
 | .tv k,s=>some (if ver < k then let x:=if fl then zkq s else strR s; (.nstr (some x.1),x.2) else Txt.rd fl .nstr s)
 | .ptr _ _ _ fs,s=>if i8P s=-1∨(PK.i8.rd s).2.bad=true then some (.nilP,(PK.i8.rd s).2) else (match fs.rd (PK.i8.rd s).2 with
  | none=>none
  | some (l,s)=>some (.ptr l,s))
def El.rd:El→RS→Option (Val × RS)
 | .pr k,s=>some (.num (k.rd s).1,(k.rd s).2)
 | .txt k,s=>some (k.rd fl s)
 | .row _ _ _ fs,s=>match (match fs.rd s with
   | none=>none
   | some (l,s)=>(match fs.kt with | none=>some (l,s) | some j=>ktR fl (fs.rdK j) j l s)) with
  | none=>none
  | some (l,s)=>some (.row l,s)
def Fds.rd:Fds→RS→Option (List Val × RS)
 | .nil,s=>some ([],s)
 | .tags kt,s=>match kt with
  | none=>if fl then some ([.tags (zvg s).1],(zvg s).2) else some ([.tags []],s)
  | some _=>some ([.num (.map none)],s)
 | .cons g ty r,s=>match (if g.on ver then ty.rd s else some (ty.iniV,s)) with
  | none=>none
  | some (v,s)=>match r.rd s with
   | none=>none
   | some (l,s)=>some (v :: l,s)
def Ty.rdK:Ty→Val→RS→Option (Val × RS)
 | .pr k _,_,s=>some (.num (k.rd s).1,(k.rd s).2)
 | .txt k,_,s=>some (k.rd fl s)
 | .arr _ _ e,v,s=>
  let x:=if fl then zlj s else arrR s
  if x.2.bad then none
  else if 0 < x.1 then
   match rdN e.rd x.1.toNat x.2 with
   | none=>none
   | some (l,s)=>some (.arr e.sz l,s)
  else some (match v with
   | .nilA=>.nilA
   | _=>.arr e.sz [],x.2)
 | .row ..,_,_=>none
 | .tv _,_,_=>none
 | .ptr ..,_,_=>none
def Fds.rdK:Fds→Nat→Val→RS→Option (Val × RS)
 | .nil,_,_,_=>none
 | .tags _,_,_,_=>none
 | .cons _ ty r,j,v,s=>match j with
  | 0=>ty.rdK v s
  | j+1=>r.rdK j v s
end
def Fds.rdR (fs:Fds) (s:RS):Option (List Val × RS):=
 match fs.rd ver fl s with
 | none=>none
 | some (l,s)=>(match fs.kt with | none=>some (l,s) | some j=>ktR fl (fs.rdK ver fl j) j l s)
end
def seqs:List C→C
 | []=>.skip
 | [x]=>x
 | x :: l=>.seq x (seqs l)
def zfu (n:Nat) (v:Value):C:=.ops [⟨some (n+100),.assign (.const v),0,none,[]⟩]
def zqt (n m:Nat):C:=.ops [⟨some 0,.move (V m),0,none,[]⟩,⟨some (n+100),.assign (T 0),0,none,[]⟩]
def cIf (n i:Nat) (a b:C):C:=.seq (.ops [⟨some (n+100),.move (V i),0,none,[]⟩]) (.cond n a b)
section
variable (N:Nums)
def zgo (n:Nat) (f:FuncId) (t:TypeId):C:=.ops [⟨some 0,.call ⟨.value (.func f),#[V 4],#[N.zv]⟩,t,none,[]⟩,⟨some (n+100),.assign (T 0),0,none,[]⟩]
def cBox (n:Nat) (f:FuncId) (t:TypeId):C:=.ops [⟨some 0,.call ⟨.value (.func f),#[V 4],#[N.zv]⟩,t,none,[]⟩,⟨some (n+100),.alloc t,0,none,[]⟩,⟨none,.store t (V n) (T 0),0,none,[]⟩]
def PK.get (k:PK) (n:Nat):C:=match k with
 | .uuid=>cBox N n N.zfg N.zaq
 | k=>zgo N n (k.f N) (k.t N)
def PK.src (k:PK) (n:Nat):Op:=match k with
 | .uuid=>.load N.zaq (V n)
 | _=>.move (V n)
def cEnum (n:Nat) (st:C):C:=
 .seq (zfu n (.int .i8 0)) (.seq (.seq (zgo N (n+1) N.zdt N.zjd) (zqt n (n+1))) (.seq (zqt (n+2) n) st))
def PK.gen (k:PK) (n:Nat) (st:Op→C):C:=match k with
 | .en t=>cEnum N n (st (.move (V (n+2))))
 | k=>.seq (k.get N n) (st (k.src N n))
def zih (is:Nat) (Tt:TypeId) (idx:Nat) (t:TypeId) (src:Op):C:=
 .ops [⟨some 0,.move (V is),0,none,[]⟩,⟨some 1,src,0,none,[]⟩,⟨some 2,.nilCheck (T 0),0,none,[]⟩,⟨some 3,.fieldAddr Tt (T 2) idx,0,none,[]⟩,⟨none,.store t (T 3) (T 1),0,none,[]⟩]
def zxx (ia ii:Nat) (st t:TypeId) (src:Op):C:=
 .ops [⟨some 0,.move (V ia),0,none,[]⟩,⟨some 1,.move (V ii),0,none,[]⟩,⟨some 2,src,0,none,[]⟩,⟨some 3,.indexAddr st (T 0) (T 1),0,none,[]⟩,⟨none,.store t (T 3) (T 2),0,none,[]⟩]
def cTxt (fx:Bool) (k:Txt) (n m:Nat):C:=
 match k,fx with
 | .str,true=>cIf m 2 (cIf (m+1) 6 (zgo N n N.zbu N.zac) (zgo N n N.zcd N.zac)) (cIf (m+2) 6 (zgo N n N.zcu N.zac) (zgo N n N.zdr N.zac))
 | .str,false=>cIf m 2 (zgo N n N.zcd N.zac) (zgo N n N.zdr N.zac)
 | .nstr,true=>cIf m 6 (cIf (m+1) 2 (zgo N n N.zbj N.zbc) (zgo N n N.zby N.zbc)) (cIf (m+2) 2 (zgo N n N.zbs N.zbc) (zgo N n N.zco N.zbc))
 | .nstr,false=>cIf m 2 (zgo N n N.zbs N.zbc) (zgo N n N.zco N.zbc)
 | .byt,true=>cIf m 6 (zgo N n N.zdo N.za) (zgo N n N.zex N.za)
 | .byt,false=>zgo N n N.zex N.za
 | .nbyt,true=>cIf m 6 (zgo N n N.zcg N.za) (zgo N n N.zct N.za)
 | .nbyt,false=>zgo N n N.zct N.za
def Txt.vn (fx:Bool):Txt→Nat
 | .str=>if fx then 3 else 1
 | .nstr=>if fx then 3 else 1
 | _=>if fx then 1 else 0
def cGd (g:Gd) (n:Nat) (c:Nat→C):C:=
 match g with
 | .all=>c n
 | .ge m=>.seq (.ops [⟨some 0,.move (V 5),0,none,[]⟩,⟨some (n+100),.binOp .geq N.zbf (T 0) (.const (.int .i16 m)) N.zbf,0,none,[]⟩]) (.cond n (c (n+1)) .skip)
 | .never=>.skip
 | .btw a b=>.seq (.ops [⟨some 0,.move (V 5),0,none,[]⟩,⟨some 1,.binOp .geq N.zbf (T 0) (.const (.int .i16 a)) N.zbf,0,none,[]⟩,⟨some 2,.move (T 1),0,none,[]⟩,⟨some 3,.move (V 5),0,some (some 2,true),[]⟩,
   ⟨some 4,.binOp .leq N.zbf (T 3) (.const (.int .i16 b)) N.zbf,0,some (some 2,true),[]⟩,⟨some (n+100),.pick (T 2) (T 4) (.const (.bool false)),0,none,[]⟩]) (.cond n (c (n+1)) .skip)
def Gd.vn:Gd→Nat
 | .all=>0
 | _=>1
def cLen (fx:Bool) (n:Nat):C:=
 if fx then cIf (n+3) 6 (zgo N (n+2) N.zba N.zbr) (zgo N (n+2) N.zda N.zbr) else zgo N (n+2) N.zda N.zbr
def cOk (m:Nat):C:=
 .seq (.ops [⟨some 0,.call ⟨.value (.func N.zeg),#[V 4],#[N.zv]⟩,N.zay,none,[]⟩,⟨some (m+100),.unOp .not N.zay (T 0),0,none,[]⟩])
  (.cond m (.seq (zgo N 3 N.zaf N.zgc) .ret) .skip)
def cNul (st:TypeId) (k:Int) (n m:Nat):C:=
 .seq (.ops [⟨some 0,.move (V 5),0,none,[]⟩,⟨some 1,.binOp .lss N.zbf (T 0) (.const (.int .i16 k)) N.zbf,0,none,[]⟩,⟨some 2,.move (T 1),0,none,[]⟩,⟨some 3,.move (V (n+2)),0,some (some 2,false),[]⟩,
   ⟨some 4,.binOp .eql N.zbr (T 3) (.const (.int .i32 0)) N.zbr,0,some (some 2,false),[]⟩,⟨some (m+100),.pick (T 2) (.const (.bool true)) (T 4),0,none,[]⟩])
  (.cond m (.ops [⟨some 0,.buildSlice st 0 #[],0,none,[]⟩,⟨some (n+1+100),.assign (T 0),0,none,[]⟩]) .skip)
def cNulQ (st:TypeId) (nul:Option Int) (n m:Nat) (rest:C):C:=match nul with
 | none=>rest
 | some k=>.seq (cNul N st k n m) rest
def cCut (st:TypeId) (a:Nat):C:=.ops [⟨some 0,.move (V a),0,none,[]⟩,⟨some 1,.slice st (T 0) none (some (.const (.int .i64 0))) none,0,none,[]⟩,⟨some (a+100),.assign (T 1),0,none,[]⟩]
def cGrow (st:TypeId) (a l m:Nat):C:=
 .seq (.ops [⟨some 0,.move (V l),0,none,[]⟩,⟨some (m+100),.binOp .gtr N.zbr (T 0) (.const (.int .i32 0)) N.zbr,0,none,[]⟩])
  (.cond m (.ops [⟨some 0,.move (V a),0,none,[]⟩,⟨some 1,.move (V l),0,none,[]⟩,⟨some 2,.call ⟨.builtin .append,#[T 0,T 1],#[st,N.zbr]⟩,st,none,[]⟩,⟨some (a+100),.assign (T 2),0,none,[]⟩]) .skip)
def cLoop (i l c k:Nat) (body:C):C:=
 .seq (zfu i (.int .i32 0)) (.block k (.loop (.seq
  (.seq (.ops [⟨some 0,.move (V i),0,none,[]⟩,⟨some 1,.move (V l),0,none,[]⟩,⟨some (c+100),.binOp .lss N.zbr (T 0) (T 1) N.zbr,0,none,[]⟩]) (.cond c .skip (.exit k)))
  (.seq (.block (k+1) body)
   (.ops [⟨some 0,.move (V i),0,none,[]⟩,⟨some 1,.binOp .add N.zbr (T 0) (.const (.int .i32 1)) N.zbr,0,none,[]⟩,⟨some (i+100),.assign (T 1),0,none,[]⟩])))))
def cTags (is:Nat) (Tt:TypeId) (idx n:Nat):C:=
 .seq (.ops [⟨some (n+100),.move (V 6),0,none,[]⟩])
  (.cond n (.ops [⟨some 0,.move (V is),0,none,[]⟩,⟨some 1,.call ⟨.value (.func N.zdu),#[V 4],#[N.zbk]⟩,N.zcy,none,[]⟩,⟨some 2,.nilCheck (T 0),0,none,[]⟩,
   ⟨some 3,.fieldAddr Tt (T 2) idx,0,none,[]⟩,⟨none,.store N.zcy (T 3) (T 1),0,none,[]⟩]) .skip)
def opsR (q:Nat):List ROp:=[⟨some 0,.call ⟨.value (.func N.zq),#[V 4],#[N.zv]⟩,N.zc,none,[]⟩,⟨some 1,.convert N.zc N.ze (T 0),0,none,[]⟩,⟨some 2,.call ⟨.value (.func N.zu),#[V 4,T 1],#[N.zv,N.ze]⟩,N.za,none,[]⟩,
 ⟨some 3,.build N.zv #[(0,T 2)],0,none,[]⟩,⟨some (q+100),.alloc N.zv,0,none,[]⟩,⟨none,.store N.zv (V q) (T 3),0,none,[]⟩]
def cEndK (q m:Nat):C:=.seq ((zgo N m N.zaf N.zgc).sw 4 q)
 (.seq (.ops [⟨some 0,.move (V m),0,none,[]⟩,⟨some (m+1+100),.binOp .neq N.zgc (T 0) (.const .nilIface) N.zgc,0,none,[]⟩]) (.cond (m+1) (.seq (zqt 3 m) .ret) .skip))
def cKeyPr (k:PK) (is:Nat) (Tt:TypeId) (idx q:Nat):C:=.seq (.ops (opsR N q)) (.seq ((k.get N (q+1)).sw 4 q) (.seq (zih is Tt idx (k.t N) (k.src N (q+1))) (cEndK N q (q+2))))
def zxy (fx:Bool) (k:Txt) (is:Nat) (Tt:TypeId) (idx q:Nat):C:=.seq (.ops (opsR N q)) (.seq (zfu (q+1) k.zero) (.seq ((cTxt N fx k (q+1) (q+2)).sw 4 q) (.seq (zih is Tt idx (k.t N) (.move (V (q+1)))) (cEndK N q (q+2+k.vn fx)))))
def zuw (n k:Nat) (key dfl:C):C:=
 .seq (.ops [⟨some (n+100),.move (V 6),0,none,[]⟩]) (.cond n (.seq (.ops [⟨some 0,.call ⟨.value (.func N.zq),#[V 4],#[N.zv]⟩,N.zc,none,[]⟩,⟨some (n+1+100),.assign (T 0),0,none,[]⟩])
  (.block k (.loop (.seq (.seq (.ops [⟨some 0,.move (V (n+1)),0,none,[]⟩,⟨some (n+2+100),.binOp .gtr N.zc (T 0) (.const (.int .u32 0)) N.zc,0,none,[]⟩]) (.cond (n+2) .skip (.exit k)))
   (.seq (.block (k+1) (.seq (.ops [⟨some 0,.call ⟨.value (.func N.zq),#[V 4],#[N.zv]⟩,N.zc,none,[]⟩,⟨some (n+3+100),.assign (T 0),0,none,[]⟩])
    (.seq (.ops [⟨some (n+4+100),.move (V (n+3)),0,none,[]⟩]) (.block (k+2) (.seq (.ops [⟨some 0,.binOp .eql N.zc (V (n+4)) (.const (.int .u32 0)) N.zc,0,none,[]⟩,⟨some (n+5+100),.assign (T 0),0,none,[]⟩]) (.cond (n+5) key dfl))))))
   (.ops [⟨some 0,.move (V (n+1)),0,none,[]⟩,⟨some 1,.binOp .sub N.zc (T 0) (.const (.int .u32 1)) N.zc,0,none,[]⟩,⟨some (n+1+100),.assign (T 1),0,none,[]⟩])))))) .skip)
def dDfl (is Tt idx n:Nat):List ROp:=[⟨some 0,.move (V is),0,none,[]⟩,⟨some 1,.nilCheck (T 0),0,none,[0]⟩,⟨some 2,.fieldAddr Tt (T 1) idx,0,none,[1]⟩,⟨some 3,.move (V (n+3)),0,none,[]⟩,
 ⟨some 4,.call ⟨.value (.func N.zq),#[V 4],#[N.zv]⟩,N.zc,none,[]⟩,⟨some 5,.convert N.zc N.ze (T 4),0,none,[4]⟩,
 ⟨some 6,.call ⟨.value (.func N.zu),#[V 4,T 5],#[N.zv,N.ze]⟩,N.za,none,[5,4]⟩,⟨some 7,.call ⟨.value (.func N.zcz),#[T 2,T 3,T 6],#[N.zcy,N.zc,N.za]⟩,N.t_,none,[2,3,6,6]⟩]
def cDflt (f:FuncId) (pT:TypeId) (x:Nat):C:=.ops [⟨some 0,.move (V x),0,none,[]⟩,⟨some 1,.call ⟨.value (.func f),#[T 0],#[pT]⟩,N.t_,none,[]⟩]
def zxz (n:Nat) (f:FuncId):C:=.ops [⟨some 0,.call ⟨.value (.func f),#[V 4],#[N.zv]⟩,N.zac,none,[]⟩,⟨none,.store N.zac (V n) (T 0),0,none,[]⟩]
def cTv (fx:Bool) (k:Int) (n:Nat):C:=
 .seq (.ops [⟨some 0,.move (V 5),0,none,[]⟩,⟨some (n+1+100),.binOp .lss N.zbf (T 0) (.const (.int .i16 k)) N.zbf,0,none,[]⟩])
  (.cond (n+1)
   (.seq (.ops [⟨some (n+2+100),.alloc N.zac,0,none,[]⟩]) (.seq
    (if fx then cIf (n+3) 6 (cIf (n+4) 2 (zxz N (n+2) N.zbu) (zxz N (n+2) N.zcu)) (cIf (n+5) 2 (zxz N (n+2) N.zcd) (zxz N (n+2) N.zdr))
     else cIf (n+3) 2 (zxz N (n+2) N.zcd) (zxz N (n+2) N.zdr))
    (.ops [⟨some (n+100),.assign (V (n+2)),0,none,[]⟩])))
   (cTxt N fx .nstr n (if fx then n+6 else n+4)))
section
variable (fx:Bool)
mutual
def Ty.vn:Ty→Nat
 | .pr k _=>k.vn
 | .txt k=>k.vn fx+1
 | .arr _ nul e=>3+(if fx then 1 else 0)+(if nul.isSome then 1 else 0)+4+e.vn
 | .row _ _ _ fs=>2+fs.vn
 | .tv _=>if fx then 9 else 5
 | .ptr _ _ _ fs=>4+fs.vn
def El.vn:El→Nat
 | .pr _=>1
 | .txt k=>k.vn fx+1
 | .row _ _ _ fs=>2+fs.vn+(match fs.kt with | none=>0 | some j=>9+fs.vnK j)
def Fds.vn:Fds→Nat
 | .nil=>0
 | .tags k=>if k.isNone then 1 else 0
 | .cons g ty r=>(if g.nev then 0 else g.vn+ty.vn)+r.vn
def Fds.vnK:Fds→Nat→Nat
 | .nil,_=>0
 | .tags _,_=>0
 | .cons _ ty r,j=>match j with
  | 0=>ty.vn
  | j+1=>r.vnK j
end
end
mutual
def Ty.bn:Ty→Nat
 | .arr _ _ e=>2+e.bn
 | .row _ _ _ fs=>fs.bn
 | .ptr _ _ _ fs=>fs.bn
 | _=>0
def El.bn:El→Nat
 | .row _ _ _ fs=>fs.bn+(match fs.kt with | none=>0 | some j=>3+fs.bnK j)
 | _=>0
def Fds.bn:Fds→Nat
 | .cons g ty r=>(if g.nev then 0 else ty.bn)+r.bn
 | _=>0
def Fds.bnK:Fds→Nat→Nat
 | .cons _ ty r,j=>match j with
  | 0=>ty.bn
  | j+1=>r.bnK j
 | _,_=>0
end
def cPtr (is:Nat) (Tt:TypeId) (idx:Nat) (T' pT:TypeId) (d:FuncId) (n:Nat) (fs:List C):C:=
 .seq (zgo N n N.zdt N.zjd) (.seq (.ops [⟨some 0,.move (V n),0,none,[]⟩,⟨some 1,.binOp .neq N.zjd (T 0) (.const (.int .i8 (-1))) N.zjd,0,none,[]⟩,⟨some 2,.move (T 1),0,none,[]⟩,
   ⟨some 3,.call ⟨.value (.func N.zeg),#[V 4],#[N.zv]⟩,N.zay,some (some 2,true),[]⟩,⟨some (n+1+100),.pick (T 2) (T 3) (.const (.bool false)),0,none,[]⟩])
  (.cond (n+1) (seqs (.ops [⟨some 0,.move (V is),0,none,[]⟩,⟨some 1,.alloc T',0,none,[]⟩,⟨some 2,.nilCheck (T 0),0,none,[]⟩,⟨some 3,.fieldAddr Tt (T 2) idx,0,none,[]⟩,⟨none,.store pT (T 3) (T 1),0,none,[]⟩] ::
   .ops [⟨some 0,.move (V is),0,none,[]⟩,⟨some 1,.nilCheck (T 0),0,none,[]⟩,⟨some 2,.fieldAddr Tt (T 1) idx,0,none,[]⟩,⟨some 3,.load pT (T 2),0,none,[]⟩,⟨some (n+2+100),.assign (T 3),0,none,[]⟩] ::
   cDflt N d pT (n+2) :: zqt (n+3) (n+2) :: fs)) .skip))
def cArr (fx:Bool) (is:Nat) (Tt:TypeId) (idx:Nat) (st:TypeId) (nul:Option Int) (n k:Nat) (eb:Nat→Nat→Nat→Nat→List C) (fin:C):C:=
  let m:=n+3+(if fx then 1 else 0)
  let p:=m+(if nul.isSome then 1 else 0)
  .seq (.ops [⟨some 0,.move (V is),0,none,[]⟩,⟨some 1,.nilCheck (T 0),0,none,[]⟩,⟨some 2,.fieldAddr Tt (T 1) idx,0,none,[]⟩,⟨some 3,.load st (T 2),0,none,[]⟩,⟨some (n+100),.assign (T 3),0,none,[]⟩]) (
  .seq (zqt (n+1) n) (
  .seq (zfu (n+2) (.int .i32 0)) (
  .seq (cLen N fx n) (
  cNulQ N st nul n m (
  .seq (cOk N p) (
  .seq (cCut st (n+1)) (
  .seq (cGrow N st (n+1) (n+2) (p+1)) (
  .seq (cLoop N (p+2) (n+2) (p+3) k (seqs (eb (n+1) (p+2) (p+4) (k+2)))) (
  .seq (zqt n (n+1)) (
  fin))))))))))
section
variable (fx:Bool)
mutual
def Ty.gen (is:Nat) (Tt:TypeId) (idx:Nat):Ty→Nat→Nat→C
 | .pr k _,n,_=>k.gen N n (zih is Tt idx (k.t N))
 | .txt k,n,_=>.seq (zfu n k.zero) (.seq (cTxt N fx k n (n+1)) (zih is Tt idx (k.t N) (.move (V n))))
 | .arr st nul e,n,k=>cArr N fx is Tt idx st nul n k (fun ia ii n k=>e.gen ia ii st n k) (zih is Tt idx st (.move (V n)))
 | .row T' pT d fs,n,k=>
  seqs (.ops [⟨some 0,.move (V is),0,none,[]⟩,⟨some 1,.nilCheck (T 0),0,none,[]⟩,⟨some 2,.fieldAddr Tt (T 1) idx,0,none,[]⟩,⟨some (n+100),.assign (T 2),0,none,[]⟩] ::
   cDflt N d pT n :: zqt (n+1) n :: fs.gen (n+1) T' 0 (n+2) k)
 | .ptr T' pT d fs,n,k=>cPtr N is Tt idx T' pT d n (fs.gen (n+3) T' 0 (n+4) k)
 | .tv k,n,_=>.seq (zfu n (.pointer none)) (.seq (cTv N fx k n) (zih is Tt idx N.zbc (.move (V n))))
def El.gen (ia ii:Nat) (st:TypeId):El→Nat→Nat→List C
 | .pr k,n,_=>[k.get N n,zxx ia ii st (k.t N) (k.src N n)]
 | .txt k,n,_=>[zfu n k.zero,cTxt N fx k n (n+1),zxx ia ii st (k.t N) (.move (V n))]
 | .row T' pT d fs,n,k=>
  .ops [⟨some 0,.move (V ia),0,none,[]⟩,⟨some 1,.move (V ii),0,none,[]⟩,⟨some 2,.indexAddr st (T 0) (T 1),0,none,[]⟩,⟨some (n+100),.assign (T 2),0,none,[]⟩] ::
   cDflt N d pT n :: zqt (n+1) n :: (fs.gen (n+1) T' 0 (n+2) k++(match fs.kt with
    | none=>[]
    | some j=>[zuw N (n+2+fs.vn fx) (k+fs.bn) (fs.genK (n+1) T' 0 (n+2+fs.vn fx+6) (k+fs.bn+3) j) (.draw (dDfl N (n+1) T' (0+fs.len) (n+2+fs.vn fx)))]))
def Fds.gen (is:Nat) (Tt:TypeId) (idx:Nat):Fds→Nat→Nat→List C
 | .nil,_,_=>[]
 | .tags kt,n,_=>if kt.isNone then [cTags N is Tt idx n] else []
 | .cons g ty r,n,k=>(if g.nev then [] else [cGd N g n (fun n=>ty.gen is Tt idx n k)])++r.gen is Tt (idx+1) (n+(if g.nev then 0 else g.vn+ty.vn fx)) (k+(if g.nev then 0 else ty.bn))
def Ty.genK (is:Nat) (Tt:TypeId) (idx:Nat):Ty→Nat→Nat→C
 | .pr k _,q,_=>cKeyPr N k is Tt idx q
 | .txt k,q,_=>zxy N fx k is Tt idx q
 | .arr st nul e,q,k=>.seq (.ops (opsR N q)) ((cArr N fx is Tt idx st nul (q+1) k (fun ia ii n k=>e.gen ia ii st n k) ((C.seq (zih is Tt idx st (.move (V (q+1)))) (cEndK N q (q+8+(if fx then 1 else 0)+(if nul.isSome then 1 else 0)+e.vn fx))).sw 4 q)).sw 4 q)
 | .row ..,_,_=>.skip
 | .tv _,_,_=>.skip
 | .ptr ..,_,_=>.skip
def Fds.genK (is:Nat) (Tt:TypeId) (idx:Nat):Fds→Nat→Nat→Nat→C
 | .nil,_,_,_=>.skip
 | .tags _,_,_,_=>.skip
 | .cons _ ty r,q,k,j=>match j with
  | 0=>ty.genK is Tt idx q k
  | j+1=>r.genK is Tt (idx+1) q k j
end
def Fds.genR (fs:Fds) (is:Nat) (Tt:TypeId) (idx n k:Nat):List C:=fs.gen N fx is Tt idx n k++(match fs.kt with
 | none=>[]
 | some j=>[zuw N (n+fs.vn fx) (k+fs.bn) (fs.genK N fx is Tt idx (n+fs.vn fx+6) (k+fs.bn+3) j) (.draw (dDfl N is Tt (idx+fs.len) (n+fs.vn fx)))])
structure Msg where
 tT:TypeId
 pT:TypeId
 dflt:FuncId
 fl:Int
 vin:Bool
 fs:Fds
def Msg.gen (m:Msg):C:=
 let is:=if fx then 7 else 6
 seqs ([zfu 3 .nilIface,cDflt N m.dflt m.pT 0,
  .ops [⟨some 0,.move (V 1),0,none,[]⟩,⟨some 1,.build N.zv #[(0,T 0)],0,none,[]⟩,⟨some 104,.alloc N.zv,0,none,[]⟩,⟨none,.store N.zv (V 4) (T 1),0,none,[]⟩]] ++
  (if m.vin then [.ops [⟨some 0,.move (V 0),0,none,[]⟩,⟨some 1,.call ⟨.value (.func N.zbm),#[V 4],#[N.zv]⟩,N.zbf,none,[]⟩,⟨some 2,.nilCheck (T 0),0,none,[]⟩,⟨some 3,.fieldAddr m.tT (T 2) 0,0,none,[]⟩,⟨none,.store N.zbf (T 3) (T 1),0,none,[]⟩]] else []) ++
  [.ops [⟨some 0,.move (V 0),0,none,[]⟩,⟨some 1,.nilCheck (T 0),0,none,[]⟩,⟨some 2,.fieldAddr m.tT (T 1) 0,0,none,[]⟩,⟨some 3,.load N.zbf (T 2),0,none,[]⟩,⟨some 105,.assign (T 3),0,none,[]⟩],
  .ops [⟨some 0,.move (V 5),0,none,[]⟩]] ++
  (if fx then [.ops [⟨some 0,.move (V 5),0,none,[]⟩,⟨some 1,.binOp .geq N.zbf (T 0) (.const (.int .i16 m.fl)) N.zbf,0,none,[]⟩,⟨some 106,.assign (T 1),0,none,[]⟩],.ops [⟨some 0,.move (V 6),0,none,[]⟩]] else []) ++
  [zqt is 0]++m.fs.genR N fx is m.tT 1 (is+1) 0++[zgo N 3 N.zaf N.zgc,.ret])
end
end
section
variable {P:Program} {N:Nums}
theorem zsd {t e:TypeId} {n a b a' b':Nat} {z z':Value} {de:TypeDesc} (ht:TI P t (.array n e) a b z) (he:TI P e de a' b' z') {ad:Addr} {w:World} :
  (Instr.sliceAt t (.pointer (some ad)) none none none).run P w=.ok (.slice (some ad) n n) w:=by
 by_cases hn:n=0
 ·subst hn
  simp [Instr.sliceAt,Instr.sliceBounds,Instr.sureAddr,Sem.run_bind,ht.run_und,he.run_size]
 ·simp [Instr.sliceAt,Instr.sliceBounds,Instr.sureAddr,Sem.run_bind,ht.run_und,he.run_size,Addr.add]
theorem zax {b:Nat}:∀ (cs:List Value) (o:Nat) (w:World) (old:List Value),w.rangeAt b o old→cs.length≤old.length→(w.setCells b o cs).rangeAt b o (cs++old.drop cs.length)
 | [],o,w,old,h,_=>by simpa [World.setCells] using h
 | c :: cs,o,w,[],_,hl=>by simp at hl
 | c :: cs,o,w,x :: old,h,hl=>by
  have hx:w.cell? ⟨b,o,none⟩=some x:=h 0 x rfl
  have hrest:(w.setCell ⟨b,o,none⟩ c).rangeAt b (o+1) old:=by
   intro j v hj
   rw[World.cell?_setCell_other _ _ _ _ (by intro e; injection e with e1 e2; omega)]
   have:=h (j+1) v (by simpa using hj)
   rwa [show o+(j+1)=o+1+j by omega] at this
  have ih:=zax cs (o+1) _ old hrest (by simpa using hl)
  have m:Mod (w.setCell ⟨b,o,none⟩ c) (((w.setCell ⟨b,o,none⟩ c)).setCells b (o+1) cs) (rng b (o+1) cs.length):=Mod.setCells cs (o+1) _ fun _ i h1 h2=>⟨rfl,h1,h2⟩
  show ((w.setCell ⟨b,o,none⟩ c).setCells b (o+1) cs).rangeAt b o _
  intro j v hj
  cases j with
  | zero=>
   simp only [List.cons_append,List.getElem?_cons_zero,Option.some.injEq] at hj
   subst hj
   have hc:(w.setCell ⟨b,o,none⟩ c).cell? ⟨b,o,none⟩=some c:=World.cell?_setCell_same _ _ _ hx
   show ((w.setCell ⟨b,o,none⟩ c).setCells b (o+1) cs).cell? ⟨b,o,none⟩=some c
   rw[m.cell b o (by rw[show (w.setCell ⟨b,o,none⟩ c).heap.size=w.heap.size by simp [World.setCell]]; exact zde (by rw[hx]; rfl)) (fun hm=>by have:=hm.2.1; omega)]
   exact hc
  | succ j=>
   have:=ih j v (by simpa using hj)
   rwa [show o+1+j=o+(j+1) by omega] at this
theorem zux (l:List UInt8):∀ v∈l.map zz,v.oneCell'=true:=by
 intro v hv
 obtain⟨x,_,rfl⟩:=List.mem_map.1 hv
 rfl
def zou (l:List UInt8):List UInt8:=(l++List.replicate (16 - l.length) 0).take 16
theorem zgj (l:List UInt8):(zou l).length=16:=by unfold zou; simp; omega
theorem zbz.copyTo (B:Base P N) {w:World} {lo hi:Nat} {v:Value} {nl:Bool} {l:List UInt8} {ty:TypeId} {b n c:Nat} (h:zbz w lo hi v nl l) (hl:l.length≤n) (ht:w.there b 0 n) :
  (Builtin.copy_ #[N.za,N.za] ty #[.slice (some ⟨b,0,none⟩) n c,v]).run P w=.ok (goInt l.length) (w.setCells b 0 (l.map zz)):=by
 obtain⟨i,hi,hsz,_,_⟩:=B.uint8.info
 have hs:(P.info? N.zh).map (·.size)=some 1:=by rw[hi]; simp [hsz]
 rcases h with⟨_,rfl,rfl⟩ | ⟨b',o',c',_,rfl,h2,h34,h5⟩
 ·exact run_copy_none w _ _ _ _ _ _ _ _ _ _ B.Lu8.und hs (by simp [])
 ·have:=run_copy_cells (P:=P) w N.za N.za ty N.zh b 0 n c ⟨b',o',none⟩ l.length c' (l.map zz) B.Lu8.und hs (by simp [hl]) (fun j u hj=>by rw[Addr.add_mid]; exact h5 j u hj)
   (fun j hj=>(ht j (by simp at hj; omega)).1) (fun j hj=>(ht j (by simp at hj; omega)).2) (zux l)
  simpa using this
theorem rd_Uuid (B:Base P N) (F:Fns P N) (hN:N.zfg≠0) (hT:N.zaq≠0):RdOk P N.zfg PK.uuid.rd:=by
 intro w lo hi r s hr
 have h:=F.PReader_Uuid hN
 have hU:=B.uuid hT
 refine h.1.call rfl fun loc N' hlo=>?_
 unfold zpi
 obtain⟨σ0,hσ0⟩:∃ σ0,σ0=zdf #[.pointer (some ⟨r,0,none⟩)]:=⟨_,rfl⟩
 have h0:σ0 0=.pointer (some ⟨r,0,none⟩):=by rw[hσ0]; rfl
 rw[← hσ0]
 have ezero:(Array.replicate 16 (Value.int .u8 0)).toList=List.replicate 16 (.int .u8 0):=rfl
 refine zd fun K hK=>zi fun τ=>?_
 simp +decide only [bK,Nat.reduceAdd,hU.run_alloc,zk,locs_envOf]
 refine hK _ _ ?_
 clear hK K
 obtain⟨w1,hw1⟩:∃ w1,w1=w.alloc (.cells (Value.cells (.agg (Array.replicate 16 (.int .u8 0)))) N.zaq):=⟨_,rfl⟩
 rw[← hw1]
 have m1:Mod w w1 zy:=by rw[hw1]; exact Mod.alloc _ _ _
 have s1:w1.heap.size=w.heap.size+1:=by rw[hw1]; exact zav _ _
 have r1:w1.rangeAt w.heap.size 0 (List.replicate 16 (.int .u8 0)):=by rw[hw1]; exact zr w _ _ _
 have t1:w1.there w.heap.size 0 16:=by rw[hw1]; exact zbq w _ _
 refine zd fun K hK=>zi fun τ=>?_
 simp +decide only [bK,Nat.reduceAdd,hU.run_alloc,zk,locs_envOf]
 refine hK _ _ ?_
 clear hK K
 obtain⟨w2,hw2⟩:∃ w2,w2=w1.alloc (.cells (Value.cells (.agg (Array.replicate 16 (.int .u8 0)))) N.zaq):=⟨_,rfl⟩
 rw[← hw2]
 have m2:Mod w1 w2 zy:=by rw[hw2]; exact Mod.alloc _ _ _
 have s2:w2.heap.size=w1.heap.size+1:=by rw[hw2]; exact zav _ _
 have r2:w2.rangeAt w1.heap.size 0 (List.replicate 16 (.int .u8 0)):=by rw[hw2]; exact zr w1 _ _ _
 have t2:w2.there w1.heap.size 0 16:=by rw[hw2]; exact zbq w1 _ _
 have m12:Mod w w2 zy:=m1.trans' m2
 have hr2:RdAt w2 lo hi r s:=hr.mod m12 (fun _ h=>h) (fun _ _ _ _ h=>h)
 have hrlt:=hr.lt
 obtain⟨σ,hσ⟩:∃ σ,σ=upd (upd σ0 1 (.pointer (some ⟨w.heap.size,0,none⟩))) 2 (.pointer (some ⟨w1.heap.size,0,none⟩)):=⟨_,rfl⟩
 have f0:σ 0=.pointer (some ⟨r,0,none⟩):=by rw[hσ,zg (by decide),zg (by decide)]; exact h0
 have f1:σ 1=.pointer (some ⟨w.heap.size,0,none⟩):=by rw[hσ,zg (by decide)]; exact upd_same _ _ _
 have f2:σ 2=.pointer (some ⟨w1.heap.size,0,none⟩):=by rw[hσ]; exact upd_same _ _ _
 rw[← hσ]
 clear hσ
 refine zd fun K hK=>zact B.mixed [true,true,false,false] (by kernel_rfl) (fun _=>True) trivial fun τ=>?_
 have g2:zli σ τ 102=.pointer (some ⟨w1.heap.size,0,none⟩):=by rw[← f2]; exact envOf_var σ τ 2
 have g0:zli σ τ 100=.pointer (some ⟨r,0,none⟩):=by rw[← f0]; exact envOf_var σ τ 0
 refine zar (.slice (some ⟨w1.heap.size,0,none⟩) 16 16) (fun w' _=>zdv (by
  have e:=zsd (w:=w') hU B.uint8 (ad:=⟨w1.heap.size,0,none⟩)
  simp only [Option.map_none,ev_tmp,g2,e])) rfl ?_
 refine zar (.pointer (some ⟨r,0,none⟩)) (fun w' _=>by
  rw[zdb,ev_tmp]
  simp +decide only [bE,Nat.reduceBeqDiff,Nat.zero_add,f0]) rfl ?_
 simp only [zfv,zgv,List.zip_cons_cons,List.zip_nil_right,List.zipWith_cons_cons,List.zipWith_nil_right,List.filter,Bool.not_true,Bool.not_false,List.map,zid]
 rw[zah (F.PReader_Span h.2).has]
 simp +decide only [bK,bE,BEq.rfl,true_and]
 have hrd:RdAt w2.drew lo hi r s:=hr2.mod (Mod.drew w2 zy) (fun _ h=>h) (fun _ _ _ _ h=>h)
 refine(zly B F h.2 (n:=16) hrd).mono ?_
 rintro v w3 ⟨hb,hr3,hm3⟩
 have hsl:(zeu 16 s).length≤16:=by unfold zeu; split<;>simp; omega
 have hcp:=hb.copyTo B (ty:=N.ze) (b:=w1.heap.size) (n:=16) (c:=16) hsl (by
  have:=hm3.there (by show w1.heap.size < w2.heap.size; omega) ((Mod.drew w2 zy).there (by omega) t2)
  exact this)
 rw[zzb]
 simp +decide only [bK,bE,Nat.reduceBeqDiff,BEq.rfl,hcp]
 clear hcp
 obtain⟨w4,hw4⟩:∃ w4,w4=w3.setCells w1.heap.size 0 ((zeu 16 s).map zz):=⟨_,rfl⟩
 rw[← hw4]
 have m4:Mod w3 w4 (blk w1.heap.size):=by rw[hw4]; exact Mod.setCells _ 0 _ fun _ _ _ _=>rfl
 have s3:w2.heap.size≤w3.heap.size:=hm3.size
 have hr4:RdAt w4 lo hi r (zjn 16 s):=hr3.mod m4 (fun o e=>by have:r=w1.heap.size:=e; omega) fun k o h1 h2 e=>by
  have h3:k=w1.heap.size:=e
  have:=hr.hi_le
  omega
 have m23:Mod w2 w3 (blk r):=(Mod.drew w2 (blk r)).trans' hm3
 have rg2:w4.rangeAt w1.heap.size 0 ((zou (zeu 16 s)).map zz):=by
  have h1:w3.rangeAt w1.heap.size 0 (List.replicate 16 (.int .u8 0)):=m23.rangeAt (by omega) (fun i _ _ e=>by have:w1.heap.size=r:=e; omega) r2
  have h2:=zax ((zeu 16 s).map zz) 0 w3 _ h1 (by simp; omega)
  rw[hw4]
  have e:(zou (zeu 16 s)).map zz=(zeu 16 s).map zz++(List.replicate 16 (Value.int .u8 0)).drop ((zeu 16 s).map zz).length:=by
   unfold zou
   rw[List.take_of_length_le (by simp; omega),List.map_append,List.length_map,List.drop_replicate,List.map_replicate]
   rfl
  rw[e]; exact h2
 have t1':w4.there w.heap.size 0 16:=m4.there (by omega) (m23.there (by omega) (m2.there (by omega) t1))
 refine hK _ _ (zb fun σ4 hσ=>?_)
 have e1:=hσ 1
 have e2:=hσ 2
 simp +decide only [bE,Nat.reduceBeqDiff,Nat.reduceAdd,f1,f2] at e1 e2
 clear hσ hK K
 have hld:=hU.run_load (w:=w4) (b:=w1.heap.size) (o:=0) rg2 (by rw[List.length_map]; exact zgj _) (fun h=>by cases h)
 refine zd fun K hK=>zi fun τ=>?_
 have hst:=hU.run_store (w:=w4) (b:=w.heap.size) (o:=0) (v:=.agg ((zou (zeu 16 s)).map zz).toArray) (cs:=(zou (zeu 16 s)).map zz) rfl (by rw[List.length_map]; exact zgj _) t1' (zux _)
 have hlv:ldv (.array 16 N.zh) ((zou (zeu 16 s)).map zz)=.agg ((zou (zeu 16 s)).map zz).toArray:=rfl
 simp +decide only [bK,bE,Nat.reduceBeqDiff,BEq.rfl,Nat.reduceAdd,e1,e2,hld,hlv,hst]
 refine hK _ _ (zb fun σ5 hσ=>zbb ⟨.inr rfl,.agg ((zou (zeu 16 s)).map zz).toArray,⟨⟨w.heap.size,0,none⟩,?_,?_⟩,?_⟩)
 ·have e1':=hσ 1
  simp +decide only [bE,Nat.reduceBeqDiff,Nat.reduceAdd,e1] at e1'
  exact e1'
 ·have hcur:w4.rangeAt w.heap.size 0 (List.replicate 16 (.int .u8 0)):=m4.rangeAt (by omega) (fun i _ _ e=>by have:w.heap.size=w1.heap.size:=e; omega) (m23.rangeAt (by omega) (fun i _ _ e=>by have:w.heap.size=r:=e; omega) (m2.rangeAt (by omega) (fun _ _ _ h=>h) r1))
  have h2:=zax ((zou (zeu 16 s)).map zz) 0 w4 _ hcur (by rw[List.length_map,zgj]; simp)
  rw[List.drop_of_length_le (by rw[List.length_map,zgj]; simp),List.append_nil] at h2
  have hl2:=hU.run_load (w:=w4.setCells w.heap.size 0 ((zou (zeu 16 s)).map zz)) (b:=w.heap.size) (o:=0) h2 (by rw[List.length_map]; exact zgj _) (fun h=>by cases h)
  simpa [Instr.loadAt,Instr.sureAddr,Sem.run_bind,hlv] using hl2
 ·have m5:Mod w4 (w4.setCells w.heap.size 0 ((zou (zeu 16 s)).map zz)) (blk w.heap.size):=Mod.setCells _ 0 _ fun _ _ _ _=>rfl
  refine⟨rfl,hr4.mod m5 (fun o e=>by have:r=w.heap.size:=e; omega) (fun k o h1 h2 e=>by have h3:k=w.heap.size:=e; have:=hr.hi_le; omega),?_⟩
  have m3':Mod w w3 (blk r):=m12.trans m23 fun k o _ h=>h.elim False.elim id
  exact(m3'.fresh m4 (fun k o e=>by have:k=w1.heap.size:=e; omega)).fresh m5 (fun k o e=>by have:k=w.heap.size:=e; omega)
end
structure Cx (σ:Env) (fx u fl:Bool) (ver:Int) (r:Nat):Prop where
 un:σ 2=.bool u
 rd:σ 4=.pointer (some ⟨r,0,none⟩)
 vr:σ 5=.int .i16 ver
 fle:fx=true→σ 6=.bool fl
 nofl:fx=false→fl=false
def Ag (n:Nat) (σ σ':Env):Prop:=∀ i,i < n→σ' i=σ i
theorem Ag.refl (n:Nat) (σ:Env):Ag n σ σ:=fun _ _=>rfl
theorem Ag.trans {n m:Nat} {σ σ' σ'':Env} (h:Ag n σ σ') (h':Ag m σ' σ'') (hm:n≤m):Ag n σ σ'':=fun i hi=>(h' i (by omega)).trans (h i hi)
theorem Ag.upd {n i:Nat} {σ σ':Env} {v:Value} (h:Ag n σ σ') (hi:n≤i):Ag n σ (upd σ' i v):=fun j hj=>by rw[zg (by omega)]; exact h j hj
theorem Ag.mono {n m:Nat} {σ σ':Env} (h:Ag m σ σ') (hm:n≤m):Ag n σ σ':=fun i hi=>h i (by omega)
theorem Cx.ag {σ σ':Env} {fx u fl:Bool} {ver:Int} {r n:Nat} (h:Cx σ fx u fl ver r) (ha:Ag n σ σ') (hn:7≤n):Cx σ' fx u fl ver r:=
 ⟨by rw[ha 2 (by omega)]; exact h.un,by rw[ha 4 (by omega)]; exact h.rd,by rw[ha 5 (by omega)]; exact h.vr,fun e=>by rw[ha 6 (by omega)]; exact h.fle e,h.nofl⟩
def GG (lo hi a b:Nat):Nat→Prop:=fun k=>(lo≤k∧k < hi)∨(a≤k∧k < b)
section
variable {P:Program} {N:Nums} {loc:List Nat} {N':Nat} {Q:Exit→Env→World→Prop} {σ:Env} {w:World}
theorem zpw (hlo:zei loc N') {n i:Nat} {b:Bool} {a c:C} (hi:σ i=.bool b) (h:W P loc N' (if b then a else c) Q (upd σ n (.bool b)) w):W P loc N' (cIf n i a c) Q σ w:=by
 unfold cIf
 refine zd fun K hK=>zi fun τ=>?_
 simp +decide (disch:=omega) only [bK,bE,zk,locs_envOf,hi]
 exact hK _ _ (W_if hlo (upd_same _ _ _) h)
theorem zjr {r:Nat} {f:FuncId} {t:TypeId} {n:Nat} (hb:zcp P f) (h4:σ 4=.pointer (some ⟨r,0,none⟩)) {R:Value→World→Prop} (hc:Call P f #[.pointer (some ⟨r,0,none⟩)] w R) (h:∀ v w',R v w'→Q .normal (upd σ n v) w') :
  W P loc N' (zgo N n f t) Q σ w:=by
 unfold zgo
 refine zi fun τ=>?_
 simp +decide (disch:=omega) only [bK]
 rw[zan hb]
 simp +decide (disch:=omega) only [bK,bE,BEq.rfl,Nat.reduceAdd,h4]
 refine hc.mono fun v w' hR=>?_
 simp +decide (disch:=omega) only [zk,zai,locs_envOf]
 exact h v w' hR
def zjs (P:Program) (src:Op) (σ:Env) (w:World) (v:Value):Prop:=∀ (ρ:Env) (d:Nat) (K:Env→World→Prop),(∀ i,ρ (i+100)=σ i)→zcn P ⟨some d,src,0,none,[]⟩ ρ w K=K (put ρ (some d) v) w
theorem zjs.move {n:Nat}:zjs P (.move (V n)) σ w (σ n):=fun ρ d K h=>by rw[zln,ev_tmp,h]
theorem zte {is:Nat} {Tt:TypeId} {idx:Nat} {t:TypeId} {src:Op} {v:Value} {cs:List Value} {b o off sz by':Nat} {d:TypeDesc} {z:Value} (hT:HF P Tt idx off) (ht:TI P t d sz by' z) (hsrc:zjs P src σ w v)
  (his:σ is=.pointer (some ⟨b,o,none⟩)) (hv:v.cells=cs.toArray) (hl:cs.length=sz) (h1:∀ c∈cs,c.oneCell'=true) (hth:w.there b (o+off) sz) (hQ:Q .normal σ (w.setCells b (o+off) cs)) :
  W P loc N' (zih is Tt idx t src) Q σ w:=by
 unfold zih
 refine zi fun τ=>?_
 have st:=ht.run_store (w:=w) (b:=b) (o:=o+off) (v:=v) hv hl hth h1
 simp +decide (disch:=omega) only [bK,bE,Nat.reduceBeqDiff,BEq.rfl,his]
 rw[hsrc _ _ _ (fun i=>by simp +decide (disch:=omega) only [zin,znq,sel_false,show ((i+100:Nat) == 0)=false from by simp,show decide (i+100 < 100)=false from by simp,Nat.add_sub_cancel])]
 rw[zw rfl]
 simp +decide (disch:=omega) only [bK,bE,Nat.reduceBeqDiff,BEq.rfl,hT.run,st,zai,locs_envOf]
 exact hQ
theorem W_storeE {ia ii:Nat} {st t:TypeId} {src:Op} {v:Value} {cs:List Value} {b c n j sz by' a1 a2:Nat} {d:TypeDesc} {z z2:Value} (hS:TI P st (.slice t) a1 a2 z2) (ht:TI P t d sz by' z) (hsrc:zjs P src σ w v)
  (ha:σ ia=.slice (some ⟨b,0,none⟩) n c) (hi:σ ii=.int .i32 j) (hj:j < n) (hv:v.cells=cs.toArray) (hl:cs.length=sz) (h1:∀ c∈cs,c.oneCell'=true) (hth:w.there b (j * sz) sz) (hQ:Q .normal σ (w.setCells b (j * sz) cs)) :
  W P loc N' (zxx ia ii st t src) Q σ w:=by
 unfold zxx
 refine zi fun τ=>?_
 have sto:=ht.run_store (w:=w) (b:=b) (o:=0+j * sz) (v:=v) hv hl (by rw[Nat.zero_add]; exact hth) h1
 have hix:=zcb (w:=w) hS ht (bl:=b) (o:=0) (n:=n) (c:=c) (i:=j) (k:=.i32) hj
 simp +decide (disch:=omega) only [bK,bE,Nat.reduceBeqDiff,BEq.rfl,ha,hi]
 rw[hsrc _ _ _ (fun i=>by simp +decide (disch:=omega) only [zin,znq,sel_false,show ((i+100:Nat) == 0)=false from by simp,show ((i+100:Nat) == 1)=false from by simp,show decide (i+100 < 100)=false from by simp,Nat.add_sub_cancel])]
 rw[Nat.zero_add] at hix sto
 simp +decide (disch:=omega) only [bK,bE,Nat.reduceBeqDiff,BEq.rfl,hix,sto,zai,locs_envOf]
 exact hQ
def Txt.fns (N:Nums) (fx:Bool):Txt→List FuncId
 | .str=>[N.zcd,N.zdr]++if fx then [N.zbu,N.zcu] else []
 | .nstr=>[N.zbs,N.zco]++if fx then [N.zbj,N.zby] else []
 | .byt=>N.zex :: if fx then [N.zdo] else []
 | .nbyt=>N.zct :: if fx then [N.zcg] else []
def TxtQ (lo hi r n:Nat) (σ:Env) (w:World) (x:Val × RS) (Q:Env→World→Prop):Prop:=
 ∀ σ' w' v,Ag n σ σ'→σ' n=v→v.oneCell'=true→Rep w' (GG lo hi w.heap.size w'.heap.size) x.1 [v]→RdAt w' lo hi r x.2→Mod w w' (blk r)→Q σ' w'
theorem zoo {σ0:Env} {lo hi r n:Nat} {s:RS} {f:FuncId} {t:TypeId} {g:RS→List UInt8 × RS} (hb:zcp P f) (hok:zacv P f g) (h4:σ 4=.pointer (some ⟨r,0,none⟩)) (hr:RdAt w lo hi r s) (hA:Ag n σ0 σ)
  (h:TxtQ lo hi r n σ0 w (.num (strV (g s).1),(g s).2) (Q .normal)):W P loc N' (zgo N n f t) Q σ w:=
 zjr hb h4 (hok w lo hi r s hr) fun v w' ⟨hv,hr',hm⟩=>h _ w' v (hA.upd (Nat.le_refl _)) (upd_same _ _ _) (by rw[hv]; rfl) (by rw[hv]; rfl) hr' hm
theorem zlu {σ0:Env} {lo hi r n:Nat} {s:RS} {f:FuncId} {t:TypeId} {g:RS→Option (List UInt8) × RS} (hb:zcp P f) (hok:zaaw P f g) (h4:σ 4=.pointer (some ⟨r,0,none⟩)) (hr:RdAt w lo hi r s) (hA:Ag n σ0 σ)
  (h:TxtQ lo hi r n σ0 w (.nstr (g s).1,(g s).2) (Q .normal)):W P loc N' (zgo N n f t) Q σ w:=by
 refine zjr hb h4 (hok w lo hi r s hr) fun v w' ⟨hv,hr',hm⟩=>?_
 have h2:=h (Kf.upd σ n v) w' v (hA.upd (Nat.le_refl _)) (upd_same _ _ _)
 cases hg:(g s).1 with
 | none=>
  rw[hg] at hv h2
  have hv:v=.pointer none:=hv
  exact h2 (by rw[hv]; rfl) (by rw[hv]; rfl) hr' hm
 | some l=>
  rw[hg] at hv h2
  obtain⟨b,hv,h5,h6,h7⟩:=hv
  exact h2 (by rw[hv]; rfl) ⟨b,by rw[hv],.inr ⟨h5,h6⟩,zfe.2 h7⟩ hr' hm
theorem zop {σ0:Env} {lo hi r n:Nat} {s:RS} {f:FuncId} {t:TypeId} {g:RS→Option (List UInt8) × RS} (hb:zcp P f) (hok:OctOk P f g) (h4:σ 4=.pointer (some ⟨r,0,none⟩)) (hr:RdAt w lo hi r s) (hA:Ag n σ0 σ)
  (h:TxtQ lo hi r n σ0 w (.oct (g s).1,(g s).2) (Q .normal)):W P loc N' (zgo N n f t) Q σ w:=by
 refine zjr hb h4 (hok w lo hi r s hr) fun v w' ⟨hv,hr',hm⟩=>?_
 refine h (Kf.upd σ n v) w' v (hA.upd (Nat.le_refl _)) (upd_same _ _ _) ?_ ⟨v,rfl,hv.octG.mono fun k hk=>.inl hk⟩ hr' hm
 cases hg:(g s).1 with
 | none=>
  rw[hg] at hv
  have hv:v=.slice none 0 0:=hv
  rw[hv]; rfl
 | some l=>
  rw[hg] at hv
  have hv:zbz w' lo hi v false l:=hv
  exact hv.oneCell
theorem W_cTxt (B:Base P N) (F:Fns P N) (hlo:zei loc N') {fx u fl:Bool} {ver:Int} {lo hi r n m:Nat} {s:RS} {k:Txt} (hk:∀ f∈k.fns N fx,f≠0) (hx:Cx σ fx u fl ver r) (hr:RdAt w lo hi r s) (hn:7≤n) (hm:n < m)
  (h:TxtQ lo hi r n σ w (k.rd fl s) (Q .normal)):W P loc N' (cTxt N fx k n m) Q σ w:=by
 have g0:∀ σ',Ag n σ σ'→σ' 4=.pointer (some ⟨r,0,none⟩):=fun σ' ha=>by rw[ha 4 (by omega)]; exact hx.rd
 have g2:∀ σ',Ag n σ σ'→σ' 2=.bool u:=fun σ' ha=>by rw[ha 2 (by omega)]; exact hx.un
 have g6:fx=true→∀ σ',Ag n σ σ'→σ' 6=.bool fl:=fun e σ' ha=>by rw[ha 6 (by omega)]; exact hx.fle e
 have a0:=Ag.refl n σ
 have a1:∀ b,Ag n σ (Kf.upd σ m b):=fun b=>a0.upd (by omega)
 have a2:∀ b j c,m≤j→Ag n σ (Kf.upd (Kf.upd σ m b) j c):=fun b j c hj=>(a1 b).upd (by omega)
 cases fx with
 | true=>
  have g6:=g6 rfl
  cases k with
  | str=>
   refine zpw hlo (g2 _ a0) ?_
   cases u with
   | true=>
    refine zpw hlo (g6 _ (a1 _)) ?_
    cases fl with
    | true=>exact zoo (F.PReader_UnsafeCompactString (hk _ (by simp [Txt.fns]))).1.has (zim B F (hk _ (by simp [Txt.fns]))) (g0 _ (a2 _ _ _ (by omega))) hr (a2 _ _ _ (by omega)) h
    | false=>exact zoo (F.PReader_UnsafeString (hk _ (by simp [Txt.fns]))).1.has (zhw B F (hk _ (by simp [Txt.fns]))) (g0 _ (a2 _ _ _ (by omega))) hr (a2 _ _ _ (by omega)) h
   | false=>
    refine zpw hlo (g6 _ (a1 _)) ?_
    cases fl with
    | true=>exact zoo (F.PReader_CompactString (hk _ (by simp [Txt.fns]))).1.has (zmv B F (hk _ (by simp [Txt.fns]))) (g0 _ (a2 _ _ _ (by omega))) hr (a2 _ _ _ (by omega)) h
    | false=>exact zoo (F.PReader_String (hk _ (by simp [Txt.fns]))).1.has (zqj B F (hk _ (by simp [Txt.fns]))) (g0 _ (a2 _ _ _ (by omega))) hr (a2 _ _ _ (by omega)) h
  | nstr=>
   refine zpw hlo (g6 _ a0) ?_
   cases fl with
   | true=>
    refine zpw hlo (g2 _ (a1 _)) ?_
    cases u with
    | true=>exact zlu (F.PReader_UnsafeCompactNullableString (hk _ (by simp [Txt.fns]))).1.has (zje B F (hk _ (by simp [Txt.fns]))) (g0 _ (a2 _ _ _ (by omega))) hr (a2 _ _ _ (by omega)) h
    | false=>exact zlu (F.PReader_CompactNullableString (hk _ (by simp [Txt.fns]))).1.has (zlr B F (hk _ (by simp [Txt.fns]))) (g0 _ (a2 _ _ _ (by omega))) hr (a2 _ _ _ (by omega)) h
   | false=>
    refine zpw hlo (g2 _ (a1 _)) ?_
    cases u with
    | true=>exact zlu (F.PReader_UnsafeNullableString (hk _ (by simp [Txt.fns]))).1.has (zhx B F (hk _ (by simp [Txt.fns]))) (g0 _ (a2 _ _ _ (by omega))) hr (a2 _ _ _ (by omega)) h
    | false=>exact zlu (F.PReader_NullableString (hk _ (by simp [Txt.fns]))).1.has (zlq B F (hk _ (by simp [Txt.fns]))) (g0 _ (a2 _ _ _ (by omega))) hr (a2 _ _ _ (by omega)) h
  | byt=>
   refine zpw hlo (g6 _ a0) ?_
   cases fl with
   | true=>exact zop (F.PReader_CompactBytes (hk _ (by simp [Txt.fns]))).1.has (zty B F (hk _ (by simp [Txt.fns]))) (g0 _ (a1 _)) hr (a1 _) h
   | false=>exact zop (F.PReader_Bytes (hk _ (by simp [Txt.fns]))).1.has (rd_Bytes B F (hk _ (by simp [Txt.fns]))) (g0 _ (a1 _)) hr (a1 _) h
  | nbyt=>
   refine zpw hlo (g6 _ a0) ?_
   cases fl with
   | true=>exact zop (F.PReader_CompactNullableBytes (hk _ (by simp [Txt.fns]))).1.has (zmi B F (hk _ (by simp [Txt.fns]))) (g0 _ (a1 _)) hr (a1 _) h
   | false=>exact zop (F.PReader_NullableBytes (hk _ (by simp [Txt.fns]))).1.has (zmu B F (hk _ (by simp [Txt.fns]))) (g0 _ (a1 _)) hr (a1 _) h
 | false=>
  have hfl:=hx.nofl rfl
  subst hfl
  cases k with
  | str=>
   refine zpw hlo (g2 _ a0) ?_
   cases u with
   | true=>exact zoo (F.PReader_UnsafeString (hk _ (by simp [Txt.fns]))).1.has (zhw B F (hk _ (by simp [Txt.fns]))) (g0 _ (a1 _)) hr (a1 _) h
   | false=>exact zoo (F.PReader_String (hk _ (by simp [Txt.fns]))).1.has (zqj B F (hk _ (by simp [Txt.fns]))) (g0 _ (a1 _)) hr (a1 _) h
  | nstr=>
   refine zpw hlo (g2 _ a0) ?_
   cases u with
   | true=>exact zlu (F.PReader_UnsafeNullableString (hk _ (by simp [Txt.fns]))).1.has (zhx B F (hk _ (by simp [Txt.fns]))) (g0 _ (a1 _)) hr (a1 _) h
   | false=>exact zlu (F.PReader_NullableString (hk _ (by simp [Txt.fns]))).1.has (zlq B F (hk _ (by simp [Txt.fns]))) (g0 _ (a1 _)) hr (a1 _) h
  | byt=>exact zop (F.PReader_Bytes (hk _ (by simp [Txt.fns]))).1.has (rd_Bytes B F (hk _ (by simp [Txt.fns]))) (g0 _ a0) hr a0 h
  | nbyt=>exact zop (F.PReader_NullableBytes (hk _ (by simp [Txt.fns]))).1.has (zmu B F (hk _ (by simp [Txt.fns]))) (g0 _ a0) hr a0 h
end
section
variable {P:Program} {N:Nums}
theorem pk_rd (B:Base P N) (F:Fns P N) (k:PK) (hk:k.f N≠0) (hu:k.nt N):zcp P (k.f N)∧RdOk P (k.f N) k.rd:=by
 cases k with
 | bool=>exact⟨(F.PReader_Bool hk).has,rd_Bool B F hk⟩
 | i8=>exact⟨(F.PReader_Int8 hk).has,zabt B F hk (hu.2 rfl)⟩
 | i16=>exact⟨(F.PReader_Int16 hk).1.has,rd_Int16 B F hk⟩
 | u16=>exact⟨(F.PReader_Uint16 hk).1.has,rd_Uint16 B F hk⟩
 | i32=>exact⟨(F.PReader_Int32 hk).1.has,rd_Int32 B F hk⟩
 | i64=>exact⟨(F.PReader_Int64 hk).1.has,rd_Int64 B F hk⟩
 | uuid=>exact⟨(F.PReader_Uuid hk).1.has,rd_Uuid B F hk (hu.1 rfl)⟩
 | en t=>exact⟨(F.PReader_Int8 hk).has,zabt B F hk (hu.2 rfl)⟩
theorem pk_ti (B:Base P N) (k:PK) (hu:k.nt N) (he:∀ t,k=.en t→TI P t (.int .i8) 1 1 (.int .i8 0)):∃ d by',TI P (k.t N) d k.sz by' k.zero:=by
 cases k with
 | bool=>exact⟨_,_,B.bool⟩
 | i8=>exact⟨_,_,B.int8 (hu.2 rfl)⟩
 | i16=>exact⟨_,_,B.int16⟩
 | u16=>exact⟨_,_,B.uint16⟩
 | i32=>exact⟨_,_,B.int32⟩
 | i64=>exact⟨_,_,B.int64⟩
 | uuid=>exact⟨_,_,B.uuid (hu.1 rfl)⟩
 | en t=>exact⟨_,_,he t rfl⟩
structure PKv (k:PK) (v:Value):Prop where
 len:v.cells.toList.length=k.sz
 one:∀ c∈v.cells.toList,c.oneCell'=true
 plain:k≠.uuid→v.oneCell'=true
 agg:k=.uuid→∃ cs:List Value,v=.agg cs.toArray∧cs.length=16
theorem zpe (k:PK) (s:RS):PKv k (k.rd s).1:=by
 have fx:∀ (c:Nat) (f:List UInt8→Value) (z:Value) (k:PK),k≠.uuid→k.sz=1→(∀ l,(f l).cells=#[f l]∧(f l).oneCell'=true)→z.cells=#[z]∧z.oneCell'=true→PKv k (zeh c f z s).1:=by
  intro c f z k hk hs hf hz
  unfold zeh
  split
  ·refine⟨?_,?_,fun _=>hz.2,fun e=>absurd e hk⟩
   ·show z.cells.toList.length=_; rw[hz.1,hs]; rfl
   ·intro x hx
    have hx:x∈z.cells.toList:=hx
    rw[hz.1] at hx
    simp at hx; subst hx; exact hz.2
  ·obtain⟨h1,h2⟩:=hf (s.l.take c)
   refine⟨?_,?_,fun _=>h2,fun e=>absurd e hk⟩
   ·show (f (s.l.take c)).cells.toList.length=_; rw[h1,hs]; rfl
   ·intro x hx
    have hx:x∈(f (s.l.take c)).cells.toList:=hx
    rw[h1] at hx
    simp at hx; subst hx; exact h2
 cases k with
 | uuid=>
  refine⟨by show ((zou (zeu 16 s)).map zz).toArray.toList.length=16; simp [zgj],?_,fun h=>absurd rfl h,fun _=>⟨(zou (zeu 16 s)).map zz,rfl,by rw[List.length_map]; exact zgj _⟩⟩
  intro x hx
  have hx:x∈((zou (zeu 16 s)).map zz).toArray.toList:=hx
  rw[List.toList_toArray] at hx
  exact zux _ x hx
 | en t=>exact fx _ _ _ _ (by simp) rfl (fun l=>⟨rfl,rfl⟩) ⟨rfl,rfl⟩
 | _=>exact fx _ _ _ _ (by decide) rfl (fun l=>⟨rfl,rfl⟩) ⟨rfl,rfl⟩
section
variable {loc:List Nat} {N':Nat} {Q:Exit→Env→World→Prop} {σ:Env} {w:World}
theorem W_get (B:Base P N) (F:Fns P N) {k:PK} (hk:k.f N≠0) (hu:k.nt N) (hen:k.isEn=false) {lo hi r n:Nat} {s:RS} (h4:σ 4=.pointer (some ⟨r,0,none⟩)) (hr:RdAt w lo hi r s)
  (h:∀ σ' w',Ag n σ σ'→zjs P (k.src N n) σ' w' (k.rd s).1→RdAt w' lo hi r (k.rd s).2→Mod w w' (blk r)→Q .normal σ' w'):W P loc N' (k.get N n) Q σ w:=by
 obtain⟨hb,hok⟩:=pk_rd B F k hk hu
 have plain:∀ f t,k.get N n=zgo N n f t→f=k.f N→k.src N n=.move (V n)→W P loc N' (k.get N n) Q σ w:=by
  intro f t e1 e2 e3
  rw[e1]
  subst e2
  refine zjr hb h4 (hok w lo hi r s hr) fun v w' ⟨hv,hr',hm⟩=>h _ w' ((Ag.refl n σ).upd (Nat.le_refl _)) ?_ hr' hm
  rw[e3,← hv]
  have:=zjs.move (P:=P) (σ:=Kf.upd σ n v) (w:=w') (n:=n)
  rwa [upd_same] at this
 cases k with
 | uuid=>
  have hU:=B.uuid (hu.1 rfl)
  obtain⟨x,hx,hxl⟩:=(zpe .uuid s).agg rfl
  have hone:=(zpe .uuid s).one
  rw[hx] at hone
  unfold PK.get cBox
  refine zi fun τ=>?_
  simp +decide (disch:=omega) only [bK,bE,Nat.reduceBeqDiff,BEq.rfl]
  rw[zan (f:=N.zfg) hb]
  simp +decide (disch:=omega) only [bK,bE,BEq.rfl,Nat.reduceAdd,h4]
  refine(hok w lo hi r s hr).mono ?_
  rintro v w1 ⟨hv,hr1,hm1⟩
  rw[hx] at hv
  subst hv
  simp +decide (disch:=omega) only [bK,hU.run_alloc]
  obtain⟨w2,hw2⟩:∃ w2,w2=w1.alloc (.cells (Value.cells (.agg (Array.replicate 16 (.int .u8 0)))) N.zaq):=⟨_,rfl⟩
  rw[← hw2]
  have m2:Mod w1 w2 zy:=by rw[hw2]; exact Mod.alloc _ _ _
  have s2:w2.heap.size=w1.heap.size+1:=by rw[hw2]; exact zav _ _
  have t2:w2.there w1.heap.size 0 16:=by rw[hw2]; exact zbq w1 _ _
  have r2:w2.rangeAt w1.heap.size 0 (List.replicate 16 (.int .u8 0)):=by rw[hw2]; exact zr w1 _ _ _
  have hst:=hU.run_store (w:=w2) (b:=w1.heap.size) (o:=0) (v:=.agg x.toArray) (cs:=x) rfl hxl t2 (fun c hc=>hone c (by simpa [Value.cells] using hc))
  simp +decide (disch:=omega) only [bK,hst,zk,zai,locs_envOf]
  have m3:Mod w2 (w2.setCells w1.heap.size 0 x) (blk w1.heap.size):=Mod.setCells _ 0 _ fun _ _ _ _=>rfl
  have r3:=zax x 0 w2 _ r2 (by rw[hxl]; simp)
  rw[List.drop_of_length_le (by rw[hxl]; simp),List.append_nil] at r3
  have hlt:=hr1.lt
  have hhi:=hr1.hi_le
  refine h _ _ ((Ag.refl n σ).upd (Nat.le_refl _)) ?_ ((hr1.mod m2 (fun _ h=>h) (fun _ _ _ _ h=>h)).mod m3 (fun o e=>by have:r=w1.heap.size:=e; omega) (fun k o h1 h2 e=>by have:k=w1.heap.size:=e; omega)) ?_
  ·intro ρ d K hρ
   have hl:=hU.run_load (w:=w2.setCells w1.heap.size 0 x) (b:=w1.heap.size) (o:=0) r3 hxl (fun h=>by cases h)
   have hlv:ldv (.array 16 N.zh) x=.agg x.toArray:=rfl
   have hρn:ρ (n+100)=.pointer (some ⟨w1.heap.size,0,none⟩):=by rw[hρ]; exact upd_same _ _ _
   show zcn P ⟨some d,.load N.zaq (V n),0,none,[]⟩ ρ _ K=_
   rw[zqd,ev_tmp,hρn,hl,stepV_ok,hlv,hx]
  ·have:=hm1.size
   exact(hm1.trans' (m2.mono fun _ _ _ h=>h.elim)).fresh m3 fun k o e=>by have:k=w1.heap.size:=e; omega
 | _=>exact plain _ _ rfl rfl rfl
structure Inv (N:Nums) (w:World) (lo hi r:Nat) (s:RS) (e:Value):Prop where
 rd:RdAt w lo hi r s
 er:w.cell? ⟨N.zj,0,none⟩=some e
 gr:N.zj≠r
 ei:∃ te ve,e=.iface te ve
structure Pl (N:Nums) (w:World) (lo hi r b o n:Nat):Prop where
 there:w.there b o n
 lt:b < w.heap.size
 br:b≠r
 bs:b < lo∨hi≤b
 bg:b≠N.zj
theorem Inv.mod {w w':World} {lo hi r b o n:Nat} {s s':RS} {e:Value} (h:Inv N w lo hi r s e) (hb:b≠N.zj) (hm:Mod w w' (orM (blk r) (rng b o n))) (hr:RdAt w' lo hi r s'):Inv N w' lo hi r s' e:=
 ⟨hr,by rw[hm.cell _ _ (zde (by rw[h.er]; rfl)) (fun hh=>hh.elim (fun e=>h.gr e) fun e=>hb e.1.symm)]; exact h.er,h.gr,h.ei⟩
theorem Pl.mod {w w':World} {M:Nat→Nat→Prop} {lo hi r b o n:Nat} (h:Pl N w lo hi r b o n) (hm:Mod w w' M):Pl N w' lo hi r b o n:=
 ⟨hm.there h.lt h.there,Nat.lt_of_lt_of_le h.lt hm.size,h.br,h.bs,h.bg⟩
theorem Pl.sub {w:World} {lo hi r b o n o' n':Nat} (h:Pl N w lo hi r b o n) (h1:o≤o') (h2:o'+n'≤o+n):Pl N w lo hi r b o' n':=
 ⟨fun j hj=>by have:=h.there (o' - o+j) (by omega); rwa [show o+(o' - o+j)=o'+j by omega] at this,h.lt,h.br,h.bs,h.bg⟩
def FQ (N:Nums) (lo hi r n b o sz:Nat) (e:Value) (σ:Env) (w:World) (x:Option (Val × RS)) (Q:Exit→Env→World→Prop):Prop:=
 match x with
 | none=>∀ σ' w',σ' 3=e→Mod w w' (orM (blk r) (rng b o sz))→Q .ret σ' w'
 | some (v,s')=>∀ σ' w' cs,Ag n σ σ'→RdAt w' lo hi r s'→Mod w w' (orM (blk r) (rng b o sz))→w'.rangeAt b o cs→cs.length=sz→Rep w' (GG lo hi w.heap.size w'.heap.size) v cs→Q .normal σ' w'
theorem zqc {lo hi r n is b oo off sz by':Nat} {Tt:TypeId} {idx:Nat} {t:TypeId} {src:Op} {d:TypeDesc} {z v:Value} {x:Val} {e:Value} {s s':RS} {σ0:Env} {w0:World} {ini:List Value} (hT:HF P Tt idx off) (ht:TI P t d sz by' z) (hsrc:zjs P src σ w v)
  (his:σ is=.pointer (some ⟨b,oo,none⟩)) (hl:v.cells.toList.length=sz) (h1:∀ c∈v.cells.toList,c.oneCell'=true) (hpl:Pl N w0 lo hi r b (oo+off) sz) (hini:w0.rangeAt b (oo+off) ini) (hil:ini.length=sz)
  (hA:Ag n σ0 σ) (hm:Mod w0 w (blk r)) (hr:RdAt w lo hi r s') (hrep:Rep w (GG lo hi w0.heap.size w.heap.size) x v.cells.toList)
  (hQ:FQ N lo hi r n b (oo+off) sz e σ0 w0 (some (x,s')) Q):W P loc N' (zih is Tt idx t src) Q σ w:=by
 have hpl':=hpl.mod hm
 refine zte hT ht hsrc his (cs:=v.cells.toList) (by simp) hl h1 hpl'.there ?_
 have ms:Mod w (w.setCells b (oo+off) v.cells.toList) (rng b (oo+off) sz):=Mod.setCells _ _ _ fun _ i h2 h3=>⟨rfl,h2,by omega⟩
 have hini':w.rangeAt b (oo+off) ini:=hm.rangeAt hpl.lt (fun i _ _ e=>hpl.br e) hini
 have hrg:=zax v.cells.toList (oo+off) w ini hini' (by omega)
 rw[List.drop_of_length_le (by omega),List.append_nil] at hrg
 have hbs:=hpl.bs
 have hblt:=hpl.lt
 have hbr:=hpl.br
 have hsz:=hm.size
 refine hQ σ _ _ hA (hr.mod ms (fun o e=>hpl.br e.1.symm) (fun k o h2 h3 e=>by have:k=b:=e.1; omega)) (hm.trans ms fun k o _ h=>h) hrg hl ?_
 have hsz2:(w.setCells b (oo+off) v.cells.toList).heap.size=w.heap.size:=by
  have hg:∀ (cs:List Value) (o:Nat) (w:World),(w.setCells b o cs).heap.size=w.heap.size:=by
   intro cs
   induction cs with
   | nil=>intro o w; rfl
   | cons c cs ih=>intro o w; show ((w.setCell ⟨b,o,none⟩ c).setCells b (o+1) cs).heap.size=_; rw[ih]; simp [World.setCell]
  exact hg _ _ _
 refine Rep.mod ms (fun k hk=>?_) x hrep
 have hhi:=hr.hi_le
 rcases hk with⟨h2,h3⟩ | ⟨h2,h3⟩
 ·exact⟨by omega,fun o e=>by have:k=b:=e.1; omega,.inl ⟨h2,h3⟩⟩
 ·exact⟨by omega,fun o e=>by have:k=b:=e.1; omega,.inr ⟨h2,by omega⟩⟩
end
end
def WL (P:Program) (loc:List Nat) (N':Nat):List C→(Exit→Env→World→Prop)→Env→World→Prop
 | [],Q=>Q .normal
 | x :: l,Q=>W P loc N' x (zfd (WL P loc N' l Q) Q)
section
variable {P:Program} {N:Nums} {loc:List Nat} {N':Nat} {Q:Exit→Env→World→Prop} {σ:Env} {w:World}
theorem thenQ_self {Q:Exit→Env→World→Prop} {e:Exit} {σ:Env} {w:World} (h:zfd (Q .normal) Q e σ w):Q e σ w:=by
 cases e<;>exact h
theorem zfp:∀ {l:List C} {Q:Exit→Env→World→Prop} {σ:Env} {w:World},l≠[]→WL P loc N' l Q σ w→W P loc N' (seqs l) Q σ w
 | [],_,_,_,h,_=>absurd rfl h
 | [x],_,_,_,_,h=>zii h fun _ _ _=>thenQ_self
 | x :: y :: l,_,_,_,_,h=>W_seq (zii h fun e σ w hq=>by
   cases e with
   | normal=>exact zfp (l:=y :: l) (by simp) hq
   | _=>exact hq)
theorem zvf:∀ {l l':List C} {Q:Exit→Env→World→Prop} {σ:Env} {w:World},WL P loc N' l (zfd (WL P loc N' l' Q) Q) σ w→WL P loc N' (l++l') Q σ w
 | [],_,_,_,_,h=>h
 | x :: l,l',Q,σ,w,h=>by
  refine zii h fun e σ w hq=>?_
  cases e with
  | normal=>exact zvf hq
  | _=>exact hq
theorem zaa {x:C} {l:List C} (h:∀ K:Env→World→Prop,(∀ σ w,WL P loc N' l Q σ w→K σ w)→W P loc N' x (zfd K Q) σ w):WL P loc N' (x :: l) Q σ w:=h _ fun _ _ h=>h
def TyOk (P:Program) (N:Nums) (fx:Bool) (t:Ty):Prop:=
 ∀ {loc:List Nat} {N':Nat} {Q:Exit→Env→World→Prop} {σ:Env} {w:World} {lo hi r:Nat} {s:RS} {e:Value} {u fl:Bool} {ver:Int} {is b oo:Nat} {Tt:TypeId} {idx off n k:Nat},
  zei loc N'→Cx σ fx u fl ver r→Inv N w lo hi r s e→Pl N w lo hi r b (oo+off) t.sz→σ is=.pointer (some ⟨b,oo,none⟩)→HF P Tt idx off→w.rangeAt b (oo+off) t.ini→7≤n→is < n→
  FQ N lo hi r n b (oo+off) t.sz e σ w (t.rd ver fl s) Q→W P loc N' (t.gen N fx is Tt idx n k) Q σ w
theorem wrap8_8 (n:Int):IntKind.i8.wrap (IntKind.i8.wrap n)=IntKind.i8.wrap n:=by
 have e:∀ n:Int,IntKind.i8.wrap n=(let m:=n % 256; if (true && decide (m ≥ 128))=true then m - 256 else m):=fun _=>rfl
 rw[e,e]
 simp only [Bool.true_and,decide_eq_true_eq]
 split<;>split<;>omega
theorem rd8 (s:RS):∃ x,(PK.i8.rd s).1=.int .i8 x∧IntKind.i8.wrap x=x:=by
 show ∃ x,(zeh 1 (fun l=>.int .i8 (IntKind.i8.wrap (be l))) (.int .i8 0) s).1=_∧_
 unfold zeh
 split
 ·exact⟨0,rfl,by decide⟩
 ·exact⟨_,rfl,wrap8_8 _⟩
theorem tyOk_pr (B:Base P N) (F:Fns P N) {fx:Bool} {k:PK} {d:Option Value} (hk:k.f N≠0) (hu:k.nt N) (he:∀ t,k=.en t→TI P t (.int .i8) 1 1 (.int .i8 0)) (hd:(d.getD k.zero).cells.toList.length=k.sz):TyOk P N fx (.pr k d):=by
 intro loc N' Q σ w lo hi r s e u fl ver is b oo Tt idx off n kb hlo hx hinv hpl his hT hini hn hisn hQ
 obtain⟨dd,by',ht⟩:=pk_ti B k hu he
 show W P loc N' (k.gen N n (zih is Tt idx (k.t N))) Q σ w
 cases hen:k.isEn with
 | false=>
  have eg:∀ st:Op→C,k.gen N n st=.seq (k.get N n) (st (k.src N n)):=by intro st; cases k<;>first | rfl | cases hen
  rw[eg]
  refine zd fun K hK=>W_get B F hk hu hen hx.rd hinv.rd fun σ' w' ha hs hr' hm=>hK _ _ ?_
  exact zqc (x:=.num (k.rd s).1) (s:=s) hT ht hs (by rw[ha is hisn]; exact his) (zpe k s).len (zpe k s).one hpl hini hd ha hm hr' rfl hQ
 | true=>
  cases k with
  | en t=>
   have ht:=he t rfl
   obtain⟨hb,hok⟩:=pk_rd B F (.en t) hk hu
   obtain⟨x,hx8,hxw⟩:=rd8 s
   show W P loc N' (cEnum N n (zih is Tt idx t (.move (V (n+2))))) Q σ w
   unfold cEnum
   refine zd fun K hK=>zao (hK _ _ ?_)
   clear hK K
   refine zd fun K hK=>zd fun K1 hK1=>zjr (r:=r) (f:=N.zdt) hb (by rw[zg (by omega)]; exact hx.rd) (hok w lo hi r s hinv.rd) fun v w' ⟨hv,hr',hm⟩=>hK1 _ _ ?_
   clear hK1 K1
   have hv:v=.int .i8 x:=hv.trans hx8
   subst hv
   refine zgp (hK _ _ ?_)
   rw[upd_same]
   clear hK K
   refine zd fun K hK=>zgp (hK _ _ ?_)
   clear hK K
   rw[upd_same]
   obtain⟨σ3,hσ3⟩:∃ σ3,σ3=upd (upd (upd (upd σ n (.int .i8 0)) (n+1) (.int .i8 x)) n (.int .i8 x)) (n+2) (.int .i8 x):=⟨_,rfl⟩
   rw[← hσ3]
   have ha:Ag n σ σ3:=by rw[hσ3]; exact((((Ag.refl n σ).upd (Nat.le_refl n)).upd (by omega)).upd (Nat.le_refl n)).upd (by omega)
   have hn2:σ3 (n+2)=.int .i8 x:=by rw[hσ3]; exact upd_same _ _ _
   have hs:zjs P (.move (V (n+2))) σ3 w' (.int .i8 x):=by
    have:=zjs.move (P:=P) (σ:=σ3) (w:=w') (n:=n+2)
    rwa [hn2] at this
   have e8:(PK.en t).rd s=(.int .i8 x,(PK.i8.rd s).2):=by
    show PK.i8.rd s=_
    rw[← hx8]
   refine zqc (x:=.num ((PK.en t).rd s).1) (s:=s) hT ht hs (by rw[ha is hisn]; exact his) rfl (fun c hc=>by have hc:c∈[Value.int .i8 x]:=hc; simp at hc; rw[hc]; rfl) hpl hini hd ha hm hr' ?_ hQ
   rw[e8]
   simp only [Rep]
  | _=>cases hen
theorem txt_ti (B:Base P N) {k:Txt} (hp:k=.nstr→N.zbc≠0):∃ d by',TI P (k.t N) d 1 by' k.zero:=by
 cases k with
 | str=>exact⟨_,_,B.string⟩
 | nstr=>exact⟨_,_,B.pstring (hp rfl)⟩
 | _=>exact⟨_,_,B.Lu8⟩
theorem zds {v:Value} (h:v.oneCell'=true):v.cells=#[v]:=by cases v<;>first | rfl | simp [Value.oneCell'] at h
theorem tyOk_txt (B:Base P N) (F:Fns P N) {fx:Bool} {k:Txt} (hk:∀ f∈k.fns N fx,f≠0) (hp:k=.nstr→N.zbc≠0):TyOk P N fx (.txt k):=by
 intro loc N' Q σ w lo hi r s e u fl ver is b oo Tt idx off n kb hlo hx hinv hpl his hT hini hn hisn hQ
 refine zd fun K hK=>zao (hK _ _ ?_)
 clear hK K
 have a0:Ag n σ (upd σ n k.zero):=(Ag.refl n σ).upd (Nat.le_refl _)
 refine zd fun K hK=>W_cTxt B F hlo hk (hx.ag a0 hn) hinv.rd hn (by omega) fun σ' w' v ha hv hone hrep hr' hm=>hK _ _ ?_
 clear hK K
 obtain⟨dd,by',ht⟩:=txt_ti B hp
 have ha':=a0.trans ha (Nat.le_refl _)
 have hc:=zds hone
 have hs:zjs P (.move (V n)) σ' w' v:=by rw[← hv]; exact zjs.move
 exact zqc (s:=s) hT ht hs (by rw[ha' is hisn]; exact his) (by rw[hc]; rfl) (by rw[hc]; intro c hc'; simp at hc'; subst hc'; exact hone) hpl hini rfl ha' hm hr' (by rw[hc]; exact hrep) hQ
theorem leaf_box (B:Base P N) {lo hi r m b:Nat} {s:RS} {f:FuncId} {g:RS→List UInt8 × RS} (hb:zcp P f) (hok:zacv P f g) (h4:σ 4=.pointer (some ⟨r,0,none⟩)) (hr:RdAt w lo hi r s) (hbx:σ m=.pointer (some ⟨b,0,none⟩)) {u:Value} (hu:w.cell? ⟨b,0,none⟩=some u) (hth:w.there b 0 1) (hbr:b≠r) (hbs:b < lo∨hi≤b)
  (h:∀ w',w'.cell? ⟨b,0,none⟩=some (strV (g s).1)→RdAt w' lo hi r (g s).2→Mod w w' (orM (blk r) (blk b))→Q .normal σ w'):W P loc N' (zxz N m f) Q σ w:=by
 unfold zxz
 refine zi fun τ=>?_
 simp +decide (disch:=omega) only [bK]
 rw[zan hb]
 simp +decide (disch:=omega) only [bK,bE,Nat.reduceBeqDiff,BEq.rfl,Nat.reduceAdd,h4]
 refine(hok w lo hi r s hr).mono ?_
 rintro v w1 ⟨rfl,hr1,hm1⟩
 have hbl:b < w.heap.size:=zde (by rw[hu]; rfl)
 have hc1:w1.cell? ⟨b,0,none⟩=some u:=by rw[hm1.cell _ _ hbl (fun e=>hbr e)]; exact hu
 have st:=B.string.run_store1 (w:=w1) (b:=b) (o:=0) (v:=strV (g s).1) rfl (hm1.there hbl hth)
 simp +decide (disch:=omega) only [bK,hbx,st,zai,locs_envOf]
 have m2:Mod w1 (w1.setCell ⟨b,0,none⟩ (strV (g s).1)) (blk b):=Mod.setCell fun _=>rfl
 refine h _ (World.cell?_setCell_same _ _ _ hc1) (hr1.mod m2 (fun o e=>hbr (by have:r=b:=e; exact this.symm)) (fun k o h1 h2 e=>by have:k=b:=e; omega)) (hm1.trans m2 fun k o _ h=>h)
theorem tyOk_tv (B:Base P N) (F:Fns P N) {fx:Bool} {k:Int} (hks:∀ f∈Txt.str.fns N fx,f≠0) (hkn:∀ f∈Txt.nstr.fns N fx,f≠0) (hp:N.zbc≠0):TyOk P N fx (.tv k):=by
 intro loc N' Q σ w lo hi r s e u fl ver is b oo Tt idx off n kb hlo hx hinv hpl his hT hini hn hisn hQ
 rw[Ty.gen]
 refine zd fun K hK=>zao (hK _ _ ?_)
 clear hK K
 have a0:Ag n σ (upd σ n (.pointer none)):=(Ag.refl n σ).upd (Nat.le_refl _)
 have hx0:=hx.ag a0 hn
 obtain⟨σ1,hσ1⟩:∃ σ1,σ1=upd σ n (.pointer none):=⟨_,rfl⟩
 rw[← hσ1] at a0 hx0 ⊢
 clear hσ1
 rw[Ty.rd] at hQ
 have hti:=B.pstring hp
 refine zd fun K hK=>?_
 have fin:∀ (σ':Env) (w':World) (v:Value) (x:Val × RS),(if ver < k then (let x:=if fl then zkq s else strR s; ((.nstr (some x.1),x.2):Val × RS)) else Txt.rd fl .nstr s)=x→Ag n σ σ'→σ' n=v→v.oneCell'=true→Rep w' (GG lo hi w.heap.size w'.heap.size) x.1 [v]→RdAt w' lo hi r x.2→Mod w w' (blk r)→K σ' w':=by
  intro σ' w' v x hxe ha hv hone hrep hr' hm
  rw[hxe] at hQ
  refine hK _ _ ?_
  have hc:=zds hone
  have hs:zjs P (.move (V n)) σ' w' v:=by rw[← hv]; exact zjs.move
  exact zqc (s:=s) hT hti hs (by rw[ha is hisn]; exact his) (by rw[hc]; rfl) (by rw[hc]; intro c hc'; simp at hc'; subst hc'; exact hone) hpl hini rfl ha hm hr' (by rw[hc]; exact hrep) hQ
 clear hK hQ
 show W P loc N' (cTv N fx k n) (zfd K Q) σ1 w
 unfold cTv
 refine zd fun K1 hK1=>zi fun τ=>?_
 simp +decide (disch:=omega) only [bK,bE,BEq.rfl,Nat.reduceAdd,hx0.vr,zk,zai,locs_envOf]
 refine hK1 _ _ (W_if hlo (upd_same _ _ _) ?_)
 clear hK1 K1
 have a1:Ag n σ (upd σ1 (n+1) (.bool (decide (ver < k)))):=a0.upd (by omega)
 obtain⟨σ2,hσ2⟩:∃ σ2,σ2=upd σ1 (n+1) (.bool (decide (ver < k))):=⟨_,rfl⟩
 rw[← hσ2] at a1 ⊢
 clear hσ2
 by_cases hv:ver < k
 ·rw[decide_eq_true hv,if_pos rfl]
  rw[if_pos hv] at fin
  refine zd fun K2 hK2=>zi fun τ=>?_
  simp +decide (disch:=omega) only [bK,B.string.run_alloc,zk,locs_envOf]
  obtain⟨w1,hw1⟩:∃ w1,w1=w.alloc (.cells (Value.cells (.string ⟨#[]⟩)) N.zac):=⟨_,rfl⟩
  rw[← hw1]
  have m1:Mod w w1 zy:=by rw[hw1]; exact Mod.alloc _ _ _
  have s1:w1.heap.size=w.heap.size+1:=by rw[hw1]; exact zav _ _
  have t1:w1.there w.heap.size 0 1:=by rw[hw1]; exact zbq w _ _
  have c1:w1.cell? ⟨w.heap.size,0,none⟩=some (.string ⟨#[]⟩):=by rw[hw1]; exact zr w #[.string ⟨#[]⟩] N.zac (0,0) 0 _ rfl
  clear hw1
  refine hK2 _ _ ?_
  clear hK2 K2
  have a2:Ag n σ (upd σ2 (n+2) (.pointer (some ⟨w.heap.size,0,none⟩))):=a1.upd (by omega)
  obtain⟨σ3,hσ3⟩:∃ σ3,σ3=upd σ2 (n+2) (.pointer (some ⟨w.heap.size,0,none⟩)):=⟨_,rfl⟩
  have f2:σ3 (n+2)=.pointer (some ⟨w.heap.size,0,none⟩):=by rw[hσ3]; exact upd_same _ _ _
  rw[← hσ3] at a2 ⊢
  clear hσ3
  have hr1:RdAt w1 lo hi r s:=hinv.rd.mod m1 (fun _ h=>h) (fun _ _ _ _ h=>h)
  have hrl:=hinv.rd.lt
  have hhi:=hinv.rd.hi_le
  refine zd fun K3 hK3=>?_
  have done:∀ (σ4:Env) (w4:World) (g:RS→List UInt8 × RS),(if fl then zkq s else strR s)=g s→(∀ i,i < n+3→σ4 i=σ3 i)→w4.cell? ⟨w.heap.size,0,none⟩=some (strV (g s).1)→RdAt w4 lo hi r (g s).2→Mod w1 w4 (orM (blk r) (blk w.heap.size))→K3 σ4 w4:=by
   intro σ4 w4 g hg h4 hcell hr4 m4
   refine hK3 _ _ (zi fun τ=>?_)
   have f4:σ4 (n+2)=.pointer (some ⟨w.heap.size,0,none⟩):=(h4 _ (by omega)).trans f2
   simp +decide (disch:=omega) only [bK,bE,f4,zk,locs_envOf]
   have s4:=m4.size
   have m04:Mod w w4 (blk r):=m1.trans m4 fun k o hk h=>h.elim False.elim fun h=>h.elim id fun h=>by have:k=w.heap.size:=h; omega
   refine fin _ w4 (.pointer (some ⟨w.heap.size,0,none⟩)) (.nstr (some (g s).1),(g s).2) (by rw[hg]) (fun i hi=>by rw[zg (by omega),h4 i (by omega)]; exact a2 i hi) (upd_same _ _ _) rfl ?_ hr4 m04
   simp only [Rep]
   exact⟨_,rfl,.inr ⟨Nat.le_refl _,by omega⟩,zfe.2 hcell⟩
  clear hK3 fin
  have g4:∀ σ':Env,(∀ i,i < n+3→σ' i=σ3 i)→σ' 4=.pointer (some ⟨r,0,none⟩):=fun σ' h=>by rw[h 4 (by omega),a2 4 (by omega)]; exact hx.rd
  have g2:∀ σ':Env,(∀ i,i < n+3→σ' i=σ3 i)→σ' 2=.bool u:=fun σ' h=>by rw[h 2 (by omega),a2 2 (by omega)]; exact hx.un
  have leaf:∀ (σ':Env) (f:FuncId) (g:RS→List UInt8 × RS),(∀ i,i < n+3→σ' i=σ3 i)→zcp P f→zacv P f g→(if fl then zkq s else strR s)=g s→W P loc N' (zxz N (n+2) f) (zfd K3 (zfd K Q)) σ' w1:=by
   intro σ' f g h hb hok hg
   exact leaf_box B hb hok (g4 σ' h) hr1 ((h (n+2) (by omega)).trans f2) c1 t1 (by omega) (.inr hhi) fun w' hc hr' hm=>done σ' w' g hg h hc hr' hm
  have u1:∀ (σ':Env) (j:Nat) (v:Value),(∀ i,i < n+3→σ' i=σ3 i)→n+3≤j→∀ i,i < n+3→upd σ' j v i=σ3 i:=fun σ' j v h hj i hi=>by rw[zg (by omega)]; exact h i hi
  cases fx with
  | true=>
   simp only [if_true]
   have g6:∀ σ':Env,(∀ i,i < n+3→σ' i=σ3 i)→σ' 6=.bool fl:=fun σ' h=>by rw[h 6 (by omega),a2 6 (by omega)]; exact hx.fle rfl
   refine zpw hlo (g6 _ fun _ _=>rfl) ?_
   have h3:=u1 σ3 (n+3) (.bool fl) (fun _ _=>rfl) (by omega)
   cases fl with
   | true=>
    rw[if_pos rfl]
    refine zpw hlo (g2 _ h3) ?_
    have h4:=u1 _ (n+4) (.bool u) h3 (by omega)
    cases u with
    | true=>exact leaf _ _ zkq h4 (F.PReader_UnsafeCompactString (hks _ (by simp [Txt.fns]))).1.has (zim B F (hks _ (by simp [Txt.fns]))) rfl
    | false=>exact leaf _ _ zkq h4 (F.PReader_CompactString (hks _ (by simp [Txt.fns]))).1.has (zmv B F (hks _ (by simp [Txt.fns]))) rfl
   | false=>
    rw[if_neg (by decide)]
    refine zpw hlo (g2 _ h3) ?_
    have h4:=u1 _ (n+5) (.bool u) h3 (by omega)
    cases u with
    | true=>exact leaf _ _ strR h4 (F.PReader_UnsafeString (hks _ (by simp [Txt.fns]))).1.has (zhw B F (hks _ (by simp [Txt.fns]))) rfl
    | false=>exact leaf _ _ strR h4 (F.PReader_String (hks _ (by simp [Txt.fns]))).1.has (zqj B F (hks _ (by simp [Txt.fns]))) rfl
  | false=>
   have hfl:=hx.nofl rfl
   subst hfl
   simp only [Bool.false_eq_true,if_false]
   refine zpw hlo (g2 _ fun _ _=>rfl) ?_
   have h4:=u1 σ3 (n+3) (.bool u) (fun _ _=>rfl) (by omega)
   cases u with
   | true=>exact leaf _ _ strR h4 (F.PReader_UnsafeString (hks _ (by simp [Txt.fns]))).1.has (zhw B F (hks _ (by simp [Txt.fns]))) rfl
   | false=>exact leaf _ _ strR h4 (F.PReader_String (hks _ (by simp [Txt.fns]))).1.has (zqj B F (hks _ (by simp [Txt.fns]))) rfl
 ·rw[decide_eq_false hv,if_neg (by decide)]
  rw[if_neg hv] at fin
  refine W_cTxt B F hlo hkn (hx.ag a1 hn) hinv.rd hn (by cases fx<;>simp<;>omega) fun σ' w' v ha hv hone hrep hr' hm=>?_
  exact fin σ' w' v _ rfl (a1.trans ha (Nat.le_refl _)) hv hone hrep hr' hm
theorem W_cGd (hlo:zei loc N') {g:Gd} {n:Nat} {c:Nat→C} {ver:Int} (h5:σ 5=.int .i16 ver) (hon:g.on ver=true→∀ σ',Ag n σ σ'→W P loc N' (c (n+g.vn)) Q σ' w) (hoff:g.on ver=false→∀ σ',Ag n σ σ'→Q .normal σ' w):W P loc N' (cGd N g n c) Q σ w:=by
 cases g with
 | all=>exact hon rfl σ (Ag.refl _ _)
 | never=>exact zbd (hoff rfl σ (Ag.refl _ _))
 | ge m=>
  unfold cGd
  refine zd fun K hK=>zi fun τ=>?_
  simp +decide (disch:=omega) only [bK,bE,BEq.rfl,Nat.reduceAdd,h5,zk,zai,locs_envOf]
  refine hK _ _ (W_if hlo (upd_same _ _ _) ?_)
  have a:=(Ag.refl n σ).upd (v:=.bool (decide (ver ≥ m))) (Nat.le_refl n)
  by_cases hg:ver ≥ m
  ·rw[decide_eq_true hg] at a ⊢
   exact hon (by simp [Gd.on,hg]) _ a
  ·rw[decide_eq_false hg] at a ⊢
   exact zbd (hoff (by simp [Gd.on]; omega) _ a)
 | btw x y=>
  unfold cGd
  refine zd fun K hK=>zi fun τ=>?_
  simp +decide (disch:=omega) only [bK,bE,BEq.rfl,Nat.reduceAdd,h5]
  have fin:∀ (ρ:Env) (bb:Bool),(∀ i,ρ (i+100)=σ i)→bb=(Gd.btw x y).on ver→K (upd (locs ρ) n (.bool bb)) w:=by
   intro ρ bb hρ hb
   have e:locs ρ=σ:=by funext i; exact hρ i
   rw[e]
   refine hK _ _ (W_if hlo (upd_same _ _ _) ?_)
   have a:=(Ag.refl n σ).upd (v:=.bool bb) (Nat.le_refl n)
   cases bb with
   | true=>exact hon hb.symm _ a
   | false=>exact zbd (hoff hb.symm _ a)
  by_cases hg:ver ≥ x
  ·rw[decide_eq_true hg]
   refine Eq.mpr (zap (by simp +decide only [bE,BEq.rfl])) ?_
   simp +decide (disch:=omega) only [bK,bE,Nat.reduceBeqDiff,Nat.reduceAdd,h5]
   refine Eq.mpr (zap (by simp +decide only [bE,Nat.reduceBeqDiff,BEq.rfl])) ?_
   simp +decide (disch:=omega) only [bK,bE,Nat.reduceBeqDiff,BEq.rfl,if_true,zca]
   rw[show ∀ ρ:Env,∀ v,locs (put ρ (some (n+100)) v)=upd (locs ρ) n v from fun ρ v=>zk ρ n v]
   refine fin _ _ (fun i=>by simp +decide only [bE,Nat.reduceBeqDiff]) ?_
   simp [Gd.on,hg]
  ·rw[decide_eq_false hg]
   refine Eq.mpr (zbi (by simp +decide only [bE,BEq.rfl]; rfl)) ?_
   refine Eq.mpr (zbi (by simp +decide only [bE,Nat.reduceBeqDiff,BEq.rfl]; rfl)) ?_
   simp +decide (disch:=omega) only [bK,bE,Nat.reduceBeqDiff,BEq.rfl,if_false,zca]
   rw[show ∀ ρ:Env,∀ v,locs (put ρ (some (n+100)) v)=upd (locs ρ) n v from fun ρ v=>zk ρ n v]
   refine fin _ _ (fun i=>by simp +decide only [bE,Nat.reduceBeqDiff]) ?_
   simp [Gd.on]; omega
end
section
variable {P:Program} {N:Nums}
mutual
def Ty.dok:Ty→Prop
 | .pr k d=>(d.getD k.zero).cells.toList.length=k.sz
 | .row _ _ _ fs=>fs.dok
 | _=>True
def Fds.dok:Fds→Prop
 | .cons _ t r=>t.dok∧r.dok
 | _=>True
end
mutual
theorem Ty.ini_length:∀ (t:Ty),t.dok→t.ini.length=t.sz
 | .pr k d,h=>h
 | .txt _,_=>rfl
 | .arr ..,_=>rfl
 | .row _ _ _ fs,h=>Fds.ini_length fs h
 | .tv _,_=>rfl
 | .ptr ..,_=>rfl
theorem Fds.ini_length:∀ (fs:Fds),fs.dok→fs.ini.length=fs.sz
 | .nil,_=>rfl
 | .tags _,_=>rfl
 | .cons _ t r,h=>by
  simp only [Fds.ini,Fds.sz,List.length_append]
  rw[Ty.ini_length t h.1,Fds.ini_length r h.2]
end
mutual
theorem Ty.ini_rep (w:World) (G:Nat→Prop):∀ (t:Ty),Rep w G t.iniV t.ini
 | .pr k d=>by simp only [Ty.iniV,Ty.ini,Rep]
 | .txt k=>by
  cases k with
  | str=>simp only [Ty.iniV,Ty.ini,Txt.iniV,Txt.zero,Rep,strV]; rfl
  | nstr=>simp only [Ty.iniV,Ty.ini,Txt.iniV,Txt.zero,Rep]
  | byt=>simp only [Ty.iniV,Ty.ini,Txt.iniV,Txt.zero,Rep]; exact⟨_,rfl,rfl⟩
  | nbyt=>simp only [Ty.iniV,Ty.ini,Txt.iniV,Txt.zero,Rep]; exact⟨_,rfl,rfl⟩
 | .arr ..=>by simp only [Ty.iniV,Ty.ini,Rep]
 | .tv _=>by simp only [Ty.iniV,Ty.ini,Rep]
 | .ptr ..=>by simp only [Ty.iniV,Ty.ini,Rep]
 | .row _ _ _ fs=>by
  simp only [Ty.iniV,Ty.ini,Rep]
  obtain⟨css,h1,h2⟩:=Fds.ini_rep w G fs
  exact⟨css,h1.symm,h2⟩
theorem Fds.ini_rep (w:World) (G:Nat→Prop):∀ (fs:Fds),∃ css:List (List Value),css.flatten=fs.ini∧RepL w G fs.iniV css
 | .nil=>⟨[],rfl,by simp only [Fds.iniV,RepL]⟩
 | .tags _=>⟨[[.map none]],rfl,by simp only [Fds.iniV,RepL,Rep]; exact⟨_,_,rfl,⟨_,rfl,.inl ⟨rfl,rfl⟩⟩,rfl⟩⟩
 | .cons _ t r=>by
  obtain⟨css,h1,h2⟩:=Fds.ini_rep w G r
  refine⟨t.ini :: css,?_,?_⟩
  ·simp only [List.flatten_cons,h1,Fds.ini]
  ·simp only [Fds.iniV,RepL]
   exact⟨_,_,rfl,Ty.ini_rep w G t,h2⟩
end
def Fds.hf (P:Program) (Tt:TypeId):Fds→Nat→Nat→Prop
 | .nil,_,_=>True
 | .tags _,idx,off=>HF P Tt idx off
 | .cons _ t r,idx,off=>HF P Tt idx off∧r.hf P Tt (idx+1) (off+t.sz)
def FQs (N:Nums) (lo hi r n b o sz:Nat) (szs:List Nat) (e:Value) (σ:Env) (w:World) (x:Option (List Val × RS)) (Q:Exit→Env→World→Prop):Prop:=
 match x with
 | none=>∀ σ' w',σ' 3=e→Mod w w' (orM (blk r) (rng b o sz))→Q .ret σ' w'
 | some (vs,s')=>∀ σ' w' css,Ag n σ σ'→RdAt w' lo hi r s'→Mod w w' (orM (blk r) (rng b o sz))→w'.rangeAt b o css.flatten→css.flatten.length=sz→css.map List.length=szs→RepL w' (GG lo hi w.heap.size w'.heap.size) vs css→Q .normal σ' w'
def zvs (P:Program) (N:Nums) (fx:Bool) (fs:Fds):Prop:=
 ∀ {loc:List Nat} {N':Nat} {Q:Exit→Env→World→Prop} {σ:Env} {w:World} {lo hi r:Nat} {s:RS} {e:Value} {u fl:Bool} {ver:Int} {is b oo:Nat} {Tt:TypeId} {idx off n k:Nat},
  zei loc N'→Cx σ fx u fl ver r→Inv N w lo hi r s e→Pl N w lo hi r b (oo+off) fs.sz→σ is=.pointer (some ⟨b,oo,none⟩)→fs.hf P Tt idx off→w.rangeAt b (oo+off) fs.ini→7≤n→is < n→
  FQs N lo hi r n b (oo+off) fs.sz fs.szs e σ w (fs.rd ver fl s) Q→WL P loc N' (fs.gen N fx is Tt idx n k) Q σ w
def FdsOkR (P:Program) (N:Nums) (fx:Bool) (fs:Fds):Prop:=
 ∀ {loc:List Nat} {N':Nat} {Q:Exit→Env→World→Prop} {σ:Env} {w:World} {lo hi r:Nat} {s:RS} {e:Value} {u fl:Bool} {ver:Int} {is b oo:Nat} {Tt:TypeId} {idx off n k:Nat},
  zei loc N'→Cx σ fx u fl ver r→Inv N w lo hi r s e→Pl N w lo hi r b (oo+off) fs.sz→σ is=.pointer (some ⟨b,oo,none⟩)→fs.hf P Tt idx off→w.rangeAt b (oo+off) fs.ini→7≤n→is < n→
  FQs N lo hi r n b (oo+off) fs.sz fs.szs e σ w (fs.rdR ver fl s) Q→WL P loc N' (fs.genR N fx is Tt idx n k) Q σ w
theorem fdsOk_nil {fx:Bool}:zvs P N fx .nil:=by
 intro loc N' Q σ w lo hi r s e u fl ver is b oo Tt idx off n k hlo hx hinv hpl his hT hini hn hisn hQ
 exact hQ σ w [] (Ag.refl _ _) hinv.rd (.refl _ _) (fun j v hj=>by simp at hj) rfl rfl (by simp only [RepL])
theorem zua {r b o n o' n':Nat} (h1:o≤o') (h2:o'+n'≤o+n):∀ k i,orM (blk r) (rng b o' n') k i→orM (blk r) (rng b o n) k i:=
 fun _ _ h=>h.imp id fun h=>⟨h.1,by have:=h.2.1; omega,by have:=h.2.2; omega⟩
theorem zun {fx:Bool} {t:Ty} {rest:Fds} (hr:zvs P N fx rest) {g:Gd} {loc:List Nat} {N':Nat} {Q:Exit→Env→World→Prop} {σ σ1:Env} {w w1:World} {lo hi r:Nat} {s s1:RS} {e:Value} {u fl:Bool} {ver:Int} {is b oo:Nat} {Tt:TypeId} {idx off n m k:Nat} {v:Val} {cs:List Value}
  (hlo:zei loc N') (hx:Cx σ fx u fl ver r) (hinv:Inv N w lo hi r s e) (hpl:Pl N w lo hi r b (oo+off) (t.sz+rest.sz)) (his:σ is=.pointer (some ⟨b,oo,none⟩)) (hT:rest.hf P Tt (idx+1) (off+t.sz))
  (hini:w.rangeAt b (oo+off+t.sz) rest.ini) (hn:7≤n) (hisn:is < n) (hnm:n≤m)
  (ha:Ag n σ σ1) (hr1:RdAt w1 lo hi r s1) (hm:Mod w w1 (orM (blk r) (rng b (oo+off) t.sz))) (hrg:w1.rangeAt b (oo+off) cs) (hcl:cs.length=t.sz) (hrep:Rep w1 (GG lo hi w.heap.size w1.heap.size) v cs)
  (hQ:FQs N lo hi r n b (oo+off) (t.sz+rest.sz) (t.sz :: rest.szs) e σ w (match rest.rd ver fl s1 with | none=>none | some (l,s)=>some (v :: l,s)) Q) :
  WL P loc N' (rest.gen N fx is Tt (idx+1) m k) Q σ1 w1:=by
 have hbr:=hpl.br
 have hbs:=hpl.bs
 have hblt:=hpl.lt
 have hs1:=hm.size
 have hlt:=hinv.rd.lt
 have hap:=hinv.rd.apart
 have hhi:=hinv.rd.hi_le
 refine hr (s:=s1) (e:=e) (oo:=oo) (off:=off+t.sz) (b:=b) hlo (hx.ag ha hn) (hinv.mod hpl.bg hm hr1) ((hpl.sub (by omega) (by omega)).mod hm) (by rw[ha is hisn]; exact his) hT ?_ (by omega) (by omega) ?_
 ·rw[← Nat.add_assoc]
  exact hm.rangeAt hblt (fun i h1 h2 h=>h.elim hbr fun h=>by have:=h.2.2; omega) hini
 ·rw[← Nat.add_assoc]
  cases hrr:rest.rd ver fl s1 with
  | none=>
   rw[hrr] at hQ
   exact fun σ' w' h3 hm2=>hQ σ' w' h3 (hm.trans hm2 fun k i _ h=>h.elim (zua (Nat.le_refl _) (by omega) k i) (zua (by omega) (by omega) k i))
  | some x=>
   obtain⟨l,s2⟩:=x
   rw[hrr] at hQ
   intro σ2 w2 css ha2 hr2 hm2 hrg2 hl2 hls2 hrep2
   have hs2:=hm2.size
   refine hQ σ2 w2 (cs :: css) (ha.trans ha2 (by omega)) hr2 (hm.trans hm2 fun k i _ h=>h.elim (zua (Nat.le_refl _) (by omega) k i) (zua (by omega) (by omega) k i)) ?_ (by rw[List.flatten_cons,List.length_append,hcl,hl2]) (by rw[List.map_cons,hcl,hls2]) ?_
   ·rw[List.flatten_cons,zx]
    refine⟨hm2.rangeAt (by omega) (fun i h1 h2 h=>h.elim hbr fun h=>by have:=h.2.1; omega) hrg,?_⟩
    rw[hcl]; exact hrg2
   ·simp only [RepL]
    refine⟨cs,css,rfl,Rep.mod hm2 (fun k hk=>?_) v hrep,RepL.mono (fun k hk=>?_) l hrep2⟩
    ·have hnot:k≠b∧k≠r∧k < w1.heap.size:=by rcases hk with⟨h2,h3⟩ | ⟨h2,h3⟩<;>omega
     refine⟨hnot.2.2,fun o h=>h.elim hnot.2.1 fun h=>hnot.1 h.1,?_⟩
     rcases hk with hk | ⟨h2,h3⟩
     ·exact .inl hk
     ·exact .inr ⟨h2,by omega⟩
    ·rcases hk with hk | ⟨h2,h3⟩
     ·exact .inl hk
     ·exact .inr ⟨by omega,h3⟩
theorem fdsOk_cons {fx:Bool} {g:Gd} {t:Ty} {rest:Fds} (ht:TyOk P N fx t) (hd:t.dok) (hr:zvs P N fx rest):zvs P N fx (.cons g t rest):=by
 intro loc N' Q σ w lo hi r s e u fl ver is b oo Tt idx off n k hlo hx hinv hpl his hT hini hn hisn hQ
 obtain⟨hT1,hT2⟩:=hT
 have hil:=Ty.ini_length t hd
 have hini':=zx.1 hini
 rw[hil] at hini'
 by_cases hnev:g.nev=true
 ·have hoff:g.on ver=false:=by cases g<;>first | rfl | cases hnev
  simp only [Fds.rd,hoff,Bool.false_eq_true,if_false] at hQ
  simp only [Fds.gen,hnev,if_true,List.nil_append,Nat.add_zero]
  exact zun hr (g:=g) hlo hx hinv hpl his hT2 hini'.2 hn hisn (Nat.le_refl _) (Ag.refl _ _) hinv.rd (.refl _ _) hini'.1 hil (Ty.ini_rep _ _ t) hQ
 simp only [Fds.gen,if_neg hnev,List.cons_append,List.nil_append]
 refine W_cGd hlo hx.vr (fun hon σ1 ha=>?_) (fun hoff σ1 ha=>?_)
 ·have hinv1:=hinv
  refine ht (s:=s) (e:=e) (oo:=oo) (off:=off) (b:=b) hlo (hx.ag ha hn) hinv (hpl.sub (Nat.le_refl _) (by simp only [Fds.sz]; omega)) (by rw[ha is hisn]; exact his) hT1 hini'.1 (by omega) (by omega) ?_
  simp only [Fds.rd,hon,if_true] at hQ
  cases hrd:t.rd ver fl s with
  | none=>
   rw[hrd] at hQ
   exact fun σ' w' h3 hm=>hQ σ' w' h3 (hm.mono fun k i _ h=>zua (Nat.le_refl _) (by simp only [Fds.sz]; omega) k i h)
  | some x=>
   obtain⟨v,s1⟩:=x
   rw[hrd] at hQ
   intro σ2 w1 cs ha2 hr1 hm hrg hcl hrep
   exact zun hr (g:=g) hlo hx hinv hpl his hT2 hini'.2 hn hisn (by omega) (ha.trans ha2 (by omega)) hr1 hm hrg hcl hrep hQ
 ·simp only [Fds.rd,hoff,Bool.false_eq_true,if_false] at hQ
  exact zun hr (g:=g) hlo hx hinv hpl his hT2 hini'.2 hn hisn (by omega) ha hinv.rd (.refl _ _) hini'.1 hil (Ty.ini_rep _ _ t) hQ
def TagsOk (P:Program) (N:Nums):Prop:=
 zcp P N.zdu∧∀ w lo hi r s,RdAt w lo hi r s→Call P N.zdu #[.pointer (some ⟨r,0,none⟩)] w fun v w'=>∃ m,v=.agg #[m]∧m.oneCell'=true∧zpx w' (GG lo hi w.heap.size w'.heap.size) m (zvg s).1∧RdAt w' lo hi r (zvg s).2∧Mod w w' (blk r)
theorem zace {fx:Bool} (j:Nat):zvs P N fx (.tags (some j)):=by
 intro loc N' Q σ w lo hi r s e u fl ver is b oo Tt idx off n k hlo hx hinv hpl his hT hini hn hisn hQ
 refine hQ σ w [[.map none]] (Ag.refl _ _) hinv.rd (.refl _ _) hini rfl rfl ?_
 simp only [RepL,Rep]
 exact⟨_,_,rfl,rfl,rfl⟩
theorem fdsOk_tags (B:Base P N) (hN:N.zcy≠0) (hok:TagsOk P N):zvs P N true (.tags none):=by
 intro loc N' Q σ w lo hi r s e u fl ver is b oo Tt idx off n k hlo hx hinv hpl his hT hini hn hisn hQ
 obtain⟨⟨fs,ht⟩,_,_⟩:=B.tags hN
 have hT:HF P Tt idx off:=hT
 show W P loc N' (cTags N is Tt idx n) (zfd (Q .normal) Q) σ w
 refine zii (Q:=Q) ?_ fun e σ w h=>by cases e<;>exact h
 unfold cTags
 refine zd fun K hK=>zi fun τ=>?_
 have h6:=hx.fle rfl
 simp +decide (disch:=omega) only [bK,bE,Nat.reduceAdd,h6,zk,locs_envOf]
 refine hK _ _ (W_if hlo (upd_same _ _ _) ?_)
 clear hK K
 have a:∀ bb,Ag n σ (upd σ n (.bool bb)):=fun bb=>(Ag.refl n σ).upd (Nat.le_refl n)
 cases fl with
 | false=>
  refine zbd (hQ _ w [[.map none]] (a _) hinv.rd (.refl _ _) hini rfl rfl ?_)
  simp only [RepL,Rep]
  exact⟨_,_,rfl,⟨_,rfl,.inl ⟨rfl,rfl⟩⟩,rfl⟩
 | true=>
  rw[if_pos rfl]
  obtain⟨σ1,hσ1⟩:∃ σ1,σ1=upd σ n (.bool true):=⟨_,rfl⟩
  rw[← hσ1]
  have ha:Ag n σ σ1:=by rw[hσ1]; exact a _
  have f4:σ1 4=.pointer (some ⟨r,0,none⟩):=by rw[ha 4 (by omega)]; exact hx.rd
  have fis:σ1 is=.pointer (some ⟨b,oo,none⟩):=by rw[ha is hisn]; exact his
  refine zi fun τ=>?_
  simp +decide (disch:=omega) only [bK,bE,Nat.reduceBeqDiff,BEq.rfl,fis]
  rw[zan hok.1]
  simp +decide (disch:=omega) only [bK,bE,Nat.reduceBeqDiff,Nat.reduceAdd,f4]
  refine(hok.2 w lo hi r s hinv.rd).mono ?_
  rintro v w1 ⟨m,rfl,hone,htg,hr1,hm⟩
  have hpl1:=hpl.mod hm
  have st:=ht.run_store (w:=w1) (b:=b) (o:=oo+off) (v:=.agg #[m]) (cs:=[m]) rfl rfl hpl1.there (fun c hc=>by simp at hc; subst hc; exact hone)
  rw[zw (a:=⟨b,oo,none⟩) (by simp +decide only [bK,bE,Nat.reduceBeqDiff,BEq.rfl])]
  simp +decide (disch:=omega) only [bK,bE,Nat.reduceBeqDiff,BEq.rfl,hT.run,st,zai,locs_envOf]
  have ms:Mod w1 (w1.setCells b (oo+off) [m]) (rng b (oo+off) 1):=Mod.setCells _ _ _ fun _ i h2 h3=>⟨rfl,h2,h3⟩
  have hbr:=hpl.br
  have hbs:=hpl.bs
  have hblt:=hpl.lt
  have hs1:=hm.size
  have hap:=hinv.rd.apart
  have hhi:=hinv.rd.hi_le
  have hini1:w1.rangeAt b (oo+off) [.map none]:=hm.rangeAt hblt (fun i _ _ e=>hbr e) hini
  have hrg:=zax [m] (oo+off) w1 _ hini1 (Nat.le_refl _)
  refine hQ σ1 _ [[m]] ha (hr1.mod ms (fun o e=>hbr e.1.symm) (fun k o h2 h3 e=>by have:k=b:=e.1; omega)) (hm.trans ms fun k o _ h=>h) hrg rfl rfl ?_
  simp only [RepL,Rep]
  refine⟨_,_,rfl,⟨m,rfl,htg.mod ms fun k hk=>?_⟩,rfl⟩
  have hsz2:(w1.setCells b (oo+off) [m]).heap.size=w1.heap.size:=by simp [World.setCells,World.setCell]
  have hnot:k≠b∧k < w1.heap.size:=by rcases hk with⟨h2,h3⟩ | ⟨h2,h3⟩<;>omega
  refine⟨hnot.2,fun o h=>hnot.1 h.1,?_⟩
  rw[hsz2]; exact hk
end
section
variable {P:Program} {N:Nums}
def zs (z:List Value) (n:Nat):List Value:=(List.replicate n z).flatten
theorem zna (z:List Value) (n:Nat):(zs z n).length=n * z.length:=by simp [zs]
theorem zs_succ (z:List Value) (n:Nat):zs z (n+1)=z++zs z n:=by simp [zs,List.replicate_succ]
theorem zhq (z:Array Value) (n:Nat):(Builtin.zeroCells z n).toList=zs z.toList n:=by
 induction n with
 | zero=>simp [Builtin.zeroCells,zs]
 | succ n ih=>
  have e:zs z.toList (n+1)=zs z.toList n++z.toList:=by
   simp [zs,List.replicate_succ']
  rw[e,← ih]
  unfold Builtin.zeroCells
  apply List.ext_getElem
  ·simp [Nat.succ_mul]
  ·intro i h1 h2
   simp only [Array.toList_map,Array.toList_range,List.getElem_map,List.getElem_range]
   rw[List.getElem_append]
   split
   ·rename_i h
    simp at h
    simp
   ·rename_i h
    simp only [List.length_map,List.length_range,Nat.not_lt] at h
    have hi:i < (n+1) * z.size:=by simpa using h1
    have hm:i % z.size=i - n * z.size:=by
     have h3:i - n * z.size < z.size:=by rw[Nat.succ_mul] at hi; omega
     have h4:i=(i - n * z.size)+n * z.size:=by omega
     rw[h4,Nat.add_mul_mod_self_right,Nat.mod_eq_of_lt h3]; omega
    have hlt:i - n * z.size < z.size:=by rw[Nat.succ_mul] at hi; omega
    simp [hm,hlt]
theorem run_grow (B:Base P N) {ad:Option Addr} {st et ty:TypeId} {a b sz by':Nat} {z z':Value} {d:TypeDesc} (hS:TI P st (.slice et) a b z') (ht:TI P et d sz by' z) {w:World} {L:Nat} (hL:0 < L) (hL2:L < 2147483648) (hsz:0 < sz) (hb:by'≤131072) (hz:z.cells.size=sz) :
  ∃ cap rest,L≤cap∧(Builtin.append_ #[st,N.zbr] ty #[.slice ad 0 0,.int .i32 L]).run P w=.ok (.slice (some ⟨w.heap.size,0,none⟩) L cap) (w.drew.alloc (.cells (zs z.cells.toList L++rest).toArray et)):=by
 obtain⟨i,hi,h1,h2,h3⟩:=ht.info
 have hmul:L * by'≤2147483648 * 131072:=Nat.mul_le_mul (by omega) hb
 have e48:(2147483648 * 131072:Nat)=281474976710656:=by decide
 rw[e48] at hmul
 have hw:IntKind.i64.wrap (L:Int)=L:=wrap_i64 (by omega) (by omega)
 have n1:¬ ((L:Int) < 0):=by omega
 have n2:¬ (281474976710656 < (L:Int) * (by':Int)):=by
  rw[← Int.natCast_mul]
  have h:=Int.ofNat_le.2 hmul
  exact Int.not_lt.2 h
 have n3:L * sz≠0:=Nat.mul_ne_zero (by omega) (by omega)
 have n4:¬ (9223372036854775807 < (L:Int)):=by omega
 have n5:¬ (281474976710656 < L * by'):=by omega
 have n6:L≠0:=by omega
 have n7:sz≠0:=by omega
 refine⟨grownCap w L 0 et,zs z.cells.toList (grownCap w L 0 et - L),grownCap_ge w L 0 et,?_⟩
 have hnc:Builtin.nextslicecap L 0=L:=by unfold Builtin.nextslicecap; rw[if_pos (by omega)]
 have hfc:(Builtin.firstCells sz 0 (.slice ad 0 0)).run P w.drew=.ok #[] w.drew:=by
  cases ad with
  | none=>rfl
  | some a=>simp [Builtin.firstCells]; rfl
 simp [Builtin.append_,run_underlying hS.und,run_underlying B.int32.und,sizeOf,typeInfo,zeroValue,hi,h1,h2,h3,asInt,asIntOf,hw,n1,n2,n3,n4,n5,n6,hnc,hfc,Question.forced,newRow,grownCap]
 congr 2
 apply Array.ext'
 simp [zhq]
end
section
variable {P:Program} {N:Nums}
def El.ty (N:Nums):El→TypeId
 | .pr k=>k.t N
 | .txt k=>k.t N
 | .row T _ _ _=>T
def El.zero:El→List Value
 | .pr k=>k.zero.cells.toList
 | .txt k=>[k.zero]
 | .row _ _ _ fs=>fs.zero
def ElOk (P:Program) (N:Nums) (fx:Bool) (el:El):Prop:=
 ∀ {loc:List Nat} {N':Nat} {Q:Exit→Env→World→Prop} {σ:Env} {w:World} {lo hi r:Nat} {s:RS} {e:Value} {u fl:Bool} {ver:Int} {ia ii b j len c n k:Nat} {st:TypeId} {a1 a2:Nat} {z2:Value},
  zei loc N'→Cx σ fx u fl ver r→Inv N w lo hi r s e→Pl N w lo hi r b (j * el.sz) el.sz→σ ia=.slice (some ⟨b,0,none⟩) len c→σ ii=.int .i32 j→j < len→TI P st (.slice (el.ty N)) a1 a2 z2→
  w.rangeAt b (j * el.sz) el.zero→7≤n→ia < n→ii < n→FQ N lo hi r n b (j * el.sz) el.sz e σ w (el.rd ver fl s) Q→WL P loc N' (el.gen N fx ia ii st n k) Q σ w
theorem stored {Q:Exit→Env→World→Prop} {σ:Env} {w:World} {lo hi r n b o sz:Nat} {v:Value} {x:Val} {e:Value} {s':RS} {σ0:Env} {w0:World} {ini:List Value}
  (hl:v.cells.toList.length=sz) (hpl:Pl N w0 lo hi r b o sz) (hini:w0.rangeAt b o ini) (hil:ini.length=sz)
  (hA:Ag n σ0 σ) (hm:Mod w0 w (blk r)) (hr:RdAt w lo hi r s') (hrep:Rep w (GG lo hi w0.heap.size w.heap.size) x v.cells.toList)
  (hQ:FQ N lo hi r n b o sz e σ0 w0 (some (x,s')) Q):Q .normal σ (w.setCells b o v.cells.toList):=by
 have hpl':=hpl.mod hm
 have ms:Mod w (w.setCells b o v.cells.toList) (rng b o sz):=Mod.setCells _ _ _ fun _ i h2 h3=>⟨rfl,h2,by omega⟩
 have hini':w.rangeAt b o ini:=hm.rangeAt hpl.lt (fun i _ _ e=>hpl.br e) hini
 have hrg:=zax v.cells.toList o w ini hini' (by omega)
 rw[List.drop_of_length_le (by omega),List.append_nil] at hrg
 have hbs:=hpl.bs
 have hblt:=hpl.lt
 have hbr:=hpl.br
 have hsz:=hm.size
 refine hQ σ _ _ hA (hr.mod ms (fun o e=>hpl.br e.1.symm) (fun k o h2 h3 e=>by have:k=b:=e.1; omega)) (hm.trans ms fun k o _ h=>h) hrg hl ?_
 have hsz2:(w.setCells b o v.cells.toList).heap.size=w.heap.size:=by
  have hg:∀ (cs:List Value) (o:Nat) (w:World),(w.setCells b o cs).heap.size=w.heap.size:=by
   intro cs
   induction cs with
   | nil=>intro o w; rfl
   | cons c cs ih=>intro o w; show ((w.setCell ⟨b,o,none⟩ c).setCells b (o+1) cs).heap.size=_; rw[ih]; simp [World.setCell]
  exact hg _ _ _
 refine Rep.mod ms (fun k hk=>?_) x hrep
 have hhi:=hr.hi_le
 rcases hk with⟨h2,h3⟩ | ⟨h2,h3⟩
 ·exact⟨by omega,fun o e=>by have:k=b:=e.1; omega,.inl ⟨h2,h3⟩⟩
 ·exact⟨by omega,fun o e=>by have:k=b:=e.1; omega,.inr ⟨h2,by omega⟩⟩
theorem WL_two {loc:List Nat} {N':Nat} {Q:Exit→Env→World→Prop} {σ:Env} {w:World} {x y:C} (h:∀ K:Env→World→Prop,(∀ σ w,W P loc N' y Q σ w→K σ w)→W P loc N' x (zfd K Q) σ w):WL P loc N' [x,y] Q σ w:=
 h _ fun _ _ h=>zii h fun e σ w hq=>by cases e<;>exact hq
theorem elOk_pr (B:Base P N) (F:Fns P N) {fx:Bool} {k:PK} (hk:k.f N≠0) (hu:k.nt N) (hen:k.isEn=false) (hz:k.zero.cells.toList.length=k.sz):ElOk P N fx (.pr k):=by
 intro loc N' Q σ w lo hi r s e u fl ver ia ii b j len c n kb st a1 a2 z2 hlo hx hinv hpl hia hii hj hS hini hn hian hiin hQ
 refine WL_two fun K hK=>W_get B F hk hu hen hx.rd hinv.rd fun σ' w' ha hs hr' hm=>hK _ _ ?_
 obtain⟨dd,by',ht⟩:=pk_ti B k hu (fun t e=>by rw[e] at hen; cases hen)
 exact W_storeE hS ht hs (by rw[ha ia hian]; exact hia) (by rw[ha ii hiin]; exact hii) hj (cs:=(k.rd s).1.cells.toList) (by simp) (zpe k s).len (zpe k s).one (hpl.mod hm).there
  (stored (x:=.num (k.rd s).1) (zpe k s).len hpl hini hz ha hm hr' (by simp only [Rep]) hQ)
theorem elOk_txt (B:Base P N) (F:Fns P N) {fx:Bool} {k:Txt} (hk:∀ f∈k.fns N fx,f≠0) (hp:k=.nstr→N.zbc≠0):ElOk P N fx (.txt k):=by
 intro loc N' Q σ w lo hi r s e u fl ver ia ii b j len c n kb st a1 a2 z2 hlo hx hinv hpl hia hii hj hS hini hn hian hiin hQ
 refine zaa fun K hK=>zao (hK _ _ ?_)
 clear hK K
 have a0:Ag n σ (upd σ n k.zero):=(Ag.refl n σ).upd (Nat.le_refl _)
 refine WL_two fun K hK=>W_cTxt B F hlo hk (hx.ag a0 hn) hinv.rd hn (by omega) fun σ' w' v ha hv hone hrep hr' hm=>hK _ _ ?_
 clear hK K
 obtain⟨dd,by',ht⟩:=txt_ti B hp
 have ha':=a0.trans ha (Nat.le_refl _)
 have hc:=zds hone
 have hs:zjs P (.move (V n)) σ' w' v:=by rw[← hv]; exact zjs.move
 exact W_storeE hS ht hs (by rw[ha' ia hian]; exact hia) (by rw[ha' ii hiin]; exact hii) hj (cs:=v.cells.toList) (by simp) (by rw[hc]; rfl) (by rw[hc]; intro c hc'; simp at hc'; subst hc'; exact hone) (hpl.mod hm).there
  (stored (by rw[hc]; rfl) hpl hini rfl ha' hm hr' (by rw[hc]; exact hrep) hQ)
def DfOk (P:Program) (f:FuncId) (fs:Fds):Prop:=
 zcp P f∧∀ w b o,w.there b o fs.sz→b < w.heap.size→w.rangeAt b o fs.zero→Call P f #[.pointer (some ⟨b,o,none⟩)] w fun _ w'=>Mod w w' (rng b o fs.sz)∧w'.rangeAt b o fs.ini
theorem elOk_row {fx:Bool} {T' pT:TypeId} {f:FuncId} {fs:Fds} {d:TypeDesc} {by':Nat} {z:Value} (ht:TI P T' d fs.sz by' z) (hf:DfOk P f fs) (hfs:FdsOkR P N fx fs) (hhf:fs.hf P T' 0 0):ElOk P N fx (.row T' pT f fs):=by
 intro loc N' Q σ w lo hi r s e u fl ver ia ii b j len c n kb st a1 a2 z2 hlo hx hinv hpl hia hii hj hS hini hn hian hiin hQ
 have hix:=fun w'=>zcb (w:=w') hS (he:=ht) (bl:=b) (o:=0) (n:=len) (c:=c) (i:=j) (k:=.i32) hj
 refine zaa fun K hK=>zi fun τ=>?_
 simp +decide (disch:=omega) only [bK,bE,Nat.reduceBeqDiff,BEq.rfl,Nat.zero_add,hia,hii,hix,zk,zai,locs_envOf]
 refine hK _ _ ?_
 clear hK K
 obtain⟨σ1,hσ1⟩:∃ σ1,σ1=upd σ n (.pointer (some ⟨b,j * fs.sz,none⟩)):=⟨_,rfl⟩
 have ha1:Ag n σ σ1:=by rw[hσ1]; exact(Ag.refl n σ).upd (Nat.le_refl n)
 have f1:σ1 n=.pointer (some ⟨b,j * fs.sz,none⟩):=by rw[hσ1]; exact upd_same _ _ _
 have hgen:∀ {l:List C},WL P loc N' l Q σ1 w→WL P loc N' l Q (upd σ n (.pointer (some ⟨b,j * fs.sz,none⟩))) w:=fun h=>hσ1 ▸ h
 refine hgen ?_
 clear hgen hσ1
 refine zaa fun K hK=>zi fun τ=>?_
 simp +decide (disch:=omega) only [bK,bE,f1]
 rw[zan hf.1]
 simp +decide (disch:=omega) only [bK,bE,BEq.rfl]
 refine(hf.2 w b (j * fs.sz) hpl.there hpl.lt hini).mono ?_
 rintro _ w1 ⟨hm1,hini1⟩
 simp +decide (disch:=omega) only [zai,locs_envOf]
 refine hK _ _ ?_
 clear hK K
 refine zaa fun K hK=>zgp (hK _ _ ?_)
 clear hK K
 rw[f1]
 obtain⟨σ2,hσ2⟩:∃ σ2,σ2=upd σ1 (n+1) (.pointer (some ⟨b,j * fs.sz,none⟩)):=⟨_,rfl⟩
 have ha2:Ag n σ σ2:=by rw[hσ2]; exact ha1.upd (by omega)
 have f2:σ2 (n+1)=.pointer (some ⟨b,j * fs.sz,none⟩):=by rw[hσ2]; exact upd_same _ _ _
 rw[← hσ2]
 clear hσ2
 have hbr:=hpl.br
 have hbs:=hpl.bs
 have hblt:=hpl.lt
 have hm1':Mod w w1 (orM (blk r) (rng b (j * fs.sz) fs.sz)):=hm1.mono fun _ _ _ h=>.inr h
 have hr1:RdAt w1 lo hi r s:=hinv.rd.mod hm1 (fun o h=>hbr h.1.symm) (fun k o h2 h3 h=>by have:k=b:=h.1; omega)
 show WL P loc N' (fs.genR N fx (n+1) T' 0 (n+2) kb) Q σ2 w1
 refine hfs (s:=s) (e:=e) (oo:=j * fs.sz) (off:=0) (b:=b) hlo (hx.ag ha2 hn) (hinv.mod hpl.bg hm1' hr1) (hpl.mod hm1) f2 hhf hini1 (by omega) (by omega) ?_
 show FQs N lo hi r (n+2) b (j * fs.sz) fs.sz fs.szs e σ2 w1 (fs.rdR ver fl s) Q
 rw[El.rd] at hQ
 have hQ:FQ N lo hi r n b (j * fs.sz) fs.sz e σ w (match fs.rdR ver fl s with | none=>none | some (l,s)=>some (.row l,s)) Q:=hQ
 cases hrd:fs.rdR ver fl s with
 | none=>
  rw[hrd] at hQ
  exact fun σ' w' h3 hm=>hQ σ' w' h3 (hm1'.trans' hm)
 | some x=>
  obtain⟨l,s'⟩:=x
  rw[hrd] at hQ
  intro σ3 w3 css ha3 hr3 hm3 hrg3 hl3 _ hrep3
  have hs1:=hm1.size
  refine hQ σ3 w3 css.flatten (ha2.trans ha3 (by omega)) hr3 (hm1'.trans' hm3) hrg3 hl3 ?_
  simp only [Rep]
  exact⟨css,rfl,RepL.mono (fun k hk=>hk.imp id fun h=>⟨by omega,h.2⟩) l hrep3⟩
theorem tyOk_row {fx:Bool} {T' pT:TypeId} {f:FuncId} {fs:Fds} (hf:DfOk P f fs) (hfs:zvs P N fx fs) (hhf:fs.hf P T' 0 0) (hzi:fs.zero=fs.ini):TyOk P N fx (.row T' pT f fs):=by
 intro loc N' Q σ w lo hi r s e u fl ver is b oo Tt idx off n kb hlo hx hinv hpl his hT hini hn hisn hQ
 rw[Ty.gen]
 refine zfp (by simp) ?_
 refine zaa fun K hK=>zi fun τ=>?_
 simp +decide (disch:=omega) only [bK,bE,BEq.rfl,his]
 rw[zw rfl]
 simp +decide (disch:=omega) only [bK,bE,BEq.rfl,hT.run,zk,zai,locs_envOf]
 refine hK _ _ ?_
 clear hK K
 obtain⟨σ1,hσ1⟩:∃ σ1,σ1=upd σ n (.pointer (some ⟨b,oo+off,none⟩)):=⟨_,rfl⟩
 have ha1:Ag n σ σ1:=by rw[hσ1]; exact(Ag.refl n σ).upd (Nat.le_refl n)
 have f1:σ1 n=.pointer (some ⟨b,oo+off,none⟩):=by rw[hσ1]; exact upd_same _ _ _
 rw[← hσ1]
 clear hσ1
 have hpl:Pl N w lo hi r b (oo+off) fs.sz:=hpl
 have hini:w.rangeAt b (oo+off) fs.ini:=hini
 refine zaa fun K hK=>zi fun τ=>?_
 simp +decide (disch:=omega) only [bK,bE,f1]
 rw[zan hf.1]
 simp +decide (disch:=omega) only [bK,bE,BEq.rfl]
 refine(hf.2 w b (oo+off) hpl.there hpl.lt (by rw[hzi]; exact hini)).mono ?_
 rintro _ w1 ⟨hm1,hini1⟩
 simp +decide (disch:=omega) only [zai,locs_envOf]
 refine hK _ _ ?_
 clear hK K
 refine zaa fun K hK=>zgp (hK _ _ ?_)
 clear hK K
 rw[f1]
 obtain⟨σ2,hσ2⟩:∃ σ2,σ2=upd σ1 (n+1) (.pointer (some ⟨b,oo+off,none⟩)):=⟨_,rfl⟩
 have ha2:Ag n σ σ2:=by rw[hσ2]; exact ha1.upd (by omega)
 have f2:σ2 (n+1)=.pointer (some ⟨b,oo+off,none⟩):=by rw[hσ2]; exact upd_same _ _ _
 rw[← hσ2]
 clear hσ2
 have hbr:=hpl.br
 have hbs:=hpl.bs
 have hblt:=hpl.lt
 have hm1':Mod w w1 (orM (blk r) (rng b (oo+off) fs.sz)):=hm1.mono fun _ _ _ h=>.inr h
 have hr1:RdAt w1 lo hi r s:=hinv.rd.mod hm1 (fun o h=>hbr h.1.symm) (fun k o h2 h3 h=>by have:k=b:=h.1; omega)
 refine hfs (s:=s) (e:=e) (oo:=oo+off) (off:=0) (b:=b) hlo (hx.ag ha2 hn) (hinv.mod hpl.bg hm1' hr1) (hpl.mod hm1) f2 hhf hini1 (by omega) (by omega) ?_
 show FQs N lo hi r (n+2) b (oo+off) fs.sz fs.szs e σ2 w1 (fs.rd ver fl s) Q
 rw[Ty.rd] at hQ
 have hQ:FQ N lo hi r n b (oo+off) fs.sz e σ w (match fs.rd ver fl s with | none=>none | some (l,s)=>some (.row l,s)) Q:=hQ
 cases hrd:fs.rd ver fl s with
 | none=>
  rw[hrd] at hQ
  exact fun σ' w' h3 hm=>hQ σ' w' h3 (hm1'.trans' hm)
 | some x=>
  obtain⟨l,s'⟩:=x
  rw[hrd] at hQ
  intro σ3 w3 css ha3 hr3 hm3 hrg3 hl3 _ hrep3
  have hs1:=hm1.size
  refine hQ σ3 w3 css.flatten (ha2.trans ha3 (by omega)) hr3 (hm1'.trans' hm3) hrg3 hl3 ?_
  simp only [Rep]
  exact⟨css,rfl,RepL.mono (fun k hk=>hk.imp id fun h=>⟨by omega,h.2⟩) l hrep3⟩
end
section
variable {P:Program} {N:Nums} {loc:List Nat} {N':Nat} {Q:Exit→Env→World→Prop} {σ:Env} {w:World}
def lenX (fl:Bool) (s:RS):Int × RS:=if fl then zlj s else arrR s
theorem zon (fl:Bool) (s:RS):-2147483648≤(lenX fl s).1∧(lenX fl s).1 < 2147483648:=by
 unfold lenX
 cases fl with
 | true=>
  have h:=zwo s
  simp only [if_true,zlj]
  split
  ·decide
  ·exact h
 | false=>
  have h:=zkg s
  simp only [Bool.false_eq_true,if_false,arrR]
  split
  ·decide
  ·exact h
theorem W_cLen (B:Base P N) (F:Fns P N) (hlo:zei loc N') {fx u fl:Bool} {ver:Int} {lo hi r n:Nat} {s:RS} (h1:N.zda≠0) (h2:fx=true→N.zba≠0) (hx:Cx σ fx u fl ver r) (hr:RdAt w lo hi r s) (hn:7≤n)
  (h:∀ σ' w',Ag (n+2) σ σ'→σ' (n+2)=.int .i32 (lenX fl s).1→RdAt w' lo hi r (lenX fl s).2→Mod w w' (blk r)→Q .normal σ' w'):W P loc N' (cLen N fx n) Q σ w:=by
 unfold cLen
 cases fx with
 | true=>
  rw[if_pos rfl]
  refine zpw hlo (hx.fle rfl) ?_
  have a:=(Ag.refl (n+2) σ).upd (v:=.bool fl) (i:=n+3) (by omega)
  have f4:upd σ (n+3) (.bool fl) 4=.pointer (some ⟨r,0,none⟩):=by rw[a 4 (by omega)]; exact hx.rd
  cases fl with
  | true=>exact zjr (F.PReader_CompactArrayLen (h2 rfl)).1.has f4 (zqk B F (h2 rfl) w lo hi r s hr) fun v w' ⟨hv,hr',hm⟩=>h _ w' (a.upd (by omega)) (by rw[upd_same,hv]; rfl) hr' hm
  | false=>exact zjr (F.PReader_ArrayLen h1).1.has f4 (ztz B F h1 w lo hi r s hr) fun v w' ⟨hv,hr',hm⟩=>h _ w' (a.upd (by omega)) (by rw[upd_same,hv]; rfl) hr' hm
 | false=>
  have hfl:=hx.nofl rfl
  subst hfl
  rw[if_neg (by simp)]
  exact zjr (F.PReader_ArrayLen h1).1.has hx.rd (ztz B F h1 w lo hi r s hr) fun v w' ⟨hv,hr',hm⟩=>h _ w' ((Ag.refl _ σ).upd (by omega)) (by rw[upd_same,hv]; rfl) hr' hm
theorem W_cOk (B:Base P N) (F:Fns P N) (hlo:zei loc N') {lo hi r p:Nat} {s:RS} {e:Value} (h1:N.zeg≠0) (h2:N.zaf≠0) (h4:σ 4=.pointer (some ⟨r,0,none⟩)) (hp:7≤p) (hinv:Inv N w lo hi r s e)
  (hbad:s.bad=true→∀ σ' w',σ' 3=e→Mod w w' (blk r)→Q .ret σ' w') (hok:s.bad=false→∀ w',RdAt w' lo hi r s→Mod w w' (blk r)→Q .normal (upd σ p (.bool false)) w'):W P loc N' (cOk N p) Q σ w:=by
 unfold cOk
 refine zd fun K hK=>zi fun τ=>?_
 simp +decide (disch:=omega) only [bK]
 rw[zan (F.PReader_Ok h1).has]
 simp +decide (disch:=omega) only [bK,bE,BEq.rfl,Nat.reduceAdd,h4]
 refine(rd_Ok B F h1 w lo hi r s hinv.rd).mono ?_
 rintro v w1 ⟨rfl,hr1,hm1⟩
 simp +decide (disch:=omega) only [bK,zk,zai,locs_envOf,Bool.not_not]
 refine hK _ _ (W_if hlo (upd_same _ _ _) ?_)
 clear hK K
 cases hb:s.bad with
 | false=>exact zbd (hok hb w1 hr1 hm1)
 | true=>
  rw[if_pos rfl]
  have he:w1.cell? ⟨N.zj,0,none⟩=some e:=by
   rw[hm1.cell _ _ (zde (by rw[hinv.er]; rfl)) (fun h=>hinv.gr h)]; exact hinv.er
  have f4:upd σ p (.bool true) 4=.pointer (some ⟨r,0,none⟩):=by rw[zg (by omega)]; exact h4
  have hcomp:Call P N.zaf #[.pointer (some ⟨r,0,none⟩)] w1 fun v w'=>v=(if s.bad then e else .nilIface)∧w'=w1:=by
   rcases B.error with h | ⟨ms,h⟩
   ·exact zie B F h2 h rfl he hr1
   ·exact zie B F h2 h rfl he hr1
  refine zd fun K hK=>zjr (F.PReader_Complete h2).has f4 hcomp fun v w' ⟨hv,hw⟩=>hK _ _ (zbb ?_)
  subst hw
  rw[hb,if_pos rfl] at hv
  exact hbad hb _ _ (by rw[upd_same,hv]) hm1
theorem zyj (hlo:zei loc N') {i l c k:Nat} {lv:Int} {body:C} (hlv:lv < 2147483648) (I:Nat→Env→World→Prop)
  (hI:∀ j σ w,I j σ w→σ i=.int .i32 j∧σ l=.int .i32 lv∧j≤lv.toNat) (hc:∀ j σ w b,I j σ w→I j (upd σ c (.bool b)) w)
  (h0:I 0 (upd σ i (.int .i32 0)) w) (hend:∀ σ w,I lv.toNat σ w→Q .normal σ w)
  (hb:∀ j σ w,j < lv.toNat→I j σ w→W P loc N' body (fun e σ' w'=>match e with
   | .normal=>σ' i=.int .i32 j∧I (j+1) (upd σ' i (.int .i32 ((j+1:Nat):Int))) w'
   | .ret=>Q .ret σ' w'
   | _=>False) σ w):W P loc N' (cLoop N i l c k body) Q σ w:=by
 unfold cLoop
 refine zd fun K hK=>zao (hK _ _ ?_)
 clear hK K
 refine zem (zpk (fun m σ w=>∃ j,m=lv.toNat - j∧I j σ w) (n:=lv.toNat) ⟨0,by omega,h0⟩ ?_)
 rintro m σ1 w1 ⟨j,rfl,hj⟩
 obtain⟨f1,f2,f3⟩:=hI j σ1 w1 hj
 refine zd fun K hK=>zd fun K1 hK1=>zi fun τ=>?_
 simp +decide (disch:=omega) only [bK,bE,Nat.reduceBeqDiff,BEq.rfl,f1,f2,zk,zai,locs_envOf]
 refine hK1 _ _ (W_if hlo (upd_same _ _ _) ?_)
 clear hK1 K1
 by_cases hlt:(j:Int) < lv
 ·rw[decide_eq_true hlt,if_pos rfl]
  refine zbd (hK _ _ ?_)
  clear hK K
  have hj2:=hc j σ1 w1 true hj
  refine zd fun K hK=>zem (zii (hb j _ w1 (by omega) hj2) ?_)
  rintro e σ2 w2 hq
  cases e with
  | normal=>
   obtain⟨g1,g2⟩:=hq
   refine hK _ _ (zi fun τ=>?_)
   have hw:IntKind.i32.wrap ((j:Int)+1)=(((j+1:Nat):Int)):=by
    unfold IntKind.wrap
    simp
    have:(IntKind.i32.bits)=32:=rfl
    simp [IntKind.signed,this]
    omega
   simp +decide (disch:=omega) only [bK,bE,BEq.rfl,g1,hw,zk,zai,locs_envOf]
   exact⟨lv.toNat - (j+1),by omega,j+1,rfl,g2⟩
  | ret=>exact hq
  | _=>exact hq.elim
 ·rw[decide_eq_false hlt,if_neg (by simp)]
  refine zof ?_
  show inB k Q (.exit k) _ _
  simp only [inB,if_pos]
  have hjL:j=lv.toNat:=by omega
  subst hjL
  exact hend _ _ (hc _ _ _ _ hj)
end
section
variable {P:Program} {N:Nums}
structure ArrT (P:Program) (N:Nums) (st:TypeId) (el:El):Prop where
 st:TI P st (.slice (el.ty N)) 1 24 (.slice none 0 0)
 ty:∃ d by' z,TI P (el.ty N) d el.sz by' z∧z.cells.toList=el.zero∧by'≤131072
 sz:0 < el.sz
 zl:el.zero.length=el.sz
 len:N.zda≠0
 ok:N.zeg≠0
 cpl:N.zaf≠0
section
variable {loc:List Nat} {N':Nat} {Q:Exit→Env→World→Prop} {σ:Env} {w:World}
theorem arr_tail {el:El} {st:TypeId} (hA:ArrT P N st el) {lo hi r n is b oo off idx:Nat} {Tt:TypeId} {e v:Value} {x:Val} {s':RS} {σ0:Env} {w0:World} (hT:HF P Tt idx off) (hone:v.oneCell'=true)
  (hpl:Pl N w0 lo hi r b (oo+off) 1) (hini:w0.rangeAt b (oo+off) [.slice none 0 0]) (his:σ is=.pointer (some ⟨b,oo,none⟩)) (hisn:is < n) (hv:σ (n+1)=v)
  (ha:Ag n σ0 σ) (hm:Mod w0 w (blk r)) (hr:RdAt w lo hi r s') (hrep:Rep w (GG lo hi w0.heap.size w.heap.size) x [v]) (hQ:FQ N lo hi r n b (oo+off) 1 e σ0 w0 (some (x,s')) Q) :
  W P loc N' (.seq (zqt n (n+1)) (zih is Tt idx st (.move (V n)))) Q σ w:=by
 refine zd fun K hK=>zgp (hK _ _ ?_)
 rw[hv]
 have hc:=zds hone
 have hs:zjs P (.move (V n)) (upd σ n v) w v:=by
  have:=zjs.move (P:=P) (σ:=upd σ n v) (w:=w) (n:=n)
  rwa [upd_same] at this
 exact zqc (s:=s') hT hA.st hs (by rw[zg (by omega)]; exact his) (by rw[hc]; rfl) (by rw[hc]; intro c hc'; simp at hc'; subst hc'; exact hone) hpl hini rfl (ha.upd (Nat.le_refl _)) hm hr (by rw[hc]; exact hrep) hQ
structure Rnd (N:Nums) (el:El) (ver:Int) (fl:Bool) (lo hi r n is b1 L cap p:Nat) (s1:RS) (σ0:Env) (w1:World) (e:Value) (j:Nat) (σ:Env) (w:World):Prop where
 ag:Ag n σ0 σ
 arr:σ (n+1)=.slice (some ⟨b1,0,none⟩) L cap
 len:σ (n+2)=.int .i32 L
 i:σ p=.int .i32 j
 le:j≤L
 inv:∃ s,Inv N w lo hi r s e∧∃ vs css,rdN (el.rd ver fl) L s1=(match rdN (el.rd ver fl) (L - j) s with | none=>none | some (l,s)=>some (vs++l,s))∧vs.length=j ∧
  (∀ c∈css,c.length=el.sz)∧RepL w (GG lo hi (b1+1) w.heap.size) vs css∧w.rangeAt b1 0 (css.flatten++zs el.zero (L - j))
 pl:Pl N w lo hi r b1 0 (L * el.sz)
 mod:Mod w1 w (blk r)
theorem zui {css:List (List Value)} {n:Nat} (h:∀ c∈css,c.length=n):css.flatten.length=css.length * n:=by
 induction css with
 | nil=>simp
 | cons c css ih=>simp [h c (by simp),ih (fun c hc=>h c (by simp [hc])),Nat.succ_mul,Nat.add_comm]
theorem round {fx:Bool} {el:El} {st:TypeId} (hA:ArrT P N st el) (hel:ElOk P N fx el) (hlo:zei loc N') {u fl:Bool} {ver:Int} {lo hi r n is b1 L cap p k j:Nat} {s1:RS} {σ0:Env} {w1:World} {e:Value}
  (hx:Cx σ0 fx u fl ver r) (hn:7≤n) (hp:n+2 < p) (hb1:w1.heap.size≤b1) (hrw:r < w1.heap.size) (hR:Rnd N el ver fl lo hi r n is b1 L cap p s1 σ0 w1 e j σ w) (hj:j < L)
  (hret:rdN (el.rd ver fl) L s1=none→∀ σ' w',σ' 3=e→Mod w1 w' (blk r)→Q .ret σ' w') :
  W P loc N' (seqs (el.gen N fx (n+1) p st (p+2) k)) (fun ex σ' w'=>match ex with
   | .normal=>σ' p=.int .i32 j∧Rnd N el ver fl lo hi r n is b1 L cap p s1 σ0 w1 e (j+1) (upd σ' p (.int .i32 ((j+1:Nat):Int))) w'
   | .ret=>Q .ret σ' w'
   | _=>False) σ w:=by
 obtain⟨s,hinv,vs,css,hrd,hvl,hcl,hrep,hrg⟩:=hR.inv
 have hfl:=zui hcl
 have hcss:=hrep.length
 have hjs:css.flatten.length=j * el.sz:=by rw[hfl,hcss,hvl]
 have hLj:L - j=(L - (j+1))+1:=by omega
 rw[hLj,zs_succ,← List.append_assoc] at hrg
 have hrg1:=zx.1 hrg
 have hrg2:=zx.1 hrg1.1
 rw[Nat.zero_add,hjs] at hrg2
 have hmul:j * el.sz+el.sz≤L * el.sz:=by
  have:(j+1) * el.sz≤L * el.sz:=Nat.mul_le_mul_right _ (by omega)
  rwa [Nat.succ_mul] at this
 have hne:el.gen N fx (n+1) p st (p+2) k≠[]:=by cases el<;>simp [El.gen]
 have hplj:Pl N w lo hi r b1 (j * el.sz) el.sz:=hR.pl.sub (Nat.zero_le _) (by omega)
 refine zfp hne (hel (s:=s) (e:=e) (fl:=fl) (ver:=ver) (b:=b1) (j:=j) (len:=L) (c:=cap) hlo (hx.ag hR.ag hn) hinv hplj hR.arr hR.i hj hA.st hrg2.2 (by omega) (by omega) (by omega) ?_)
 have hbr:=hR.pl.br
 have hbs:=hR.pl.bs
 have hblt:=hR.pl.lt
 have toR:∀ {w2:World},Mod w w2 (orM (blk r) (rng b1 (j * el.sz) el.sz))→Mod w1 w2 (blk r):=fun hm=>hR.mod.trans hm fun k i hk h=>h.elim id fun h=>h.elim id fun h=>by have:k=b1:=h.1; omega
 rw[hLj] at hrd
 cases hv:el.rd ver fl s with
 | none=>
  simp only [rdN,hv] at hrd
  exact fun σ' w' h3 hm=>hret hrd σ' w' h3 (toR hm)
 | some x=>
  obtain⟨v,s2⟩:=x
  simp only [rdN,hv] at hrd
  intro σ2 w2 cs ha2 hr2 hm2 hrg3 hcl3 hrep3
  have hs2:=hm2.size
  have ha':∀ i,i < p+2→σ2 i=σ i:=fun i hi=>ha2 i hi
  refine⟨by rw[ha' p (by omega)]; exact hR.i,?_⟩
  refine⟨(hR.ag.trans ha2 (by omega)).upd (by omega),by rw[zg (by omega),ha' _ (by omega)]; exact hR.arr,by rw[zg (by omega),ha' _ (by omega)]; exact hR.len,upd_same _ _ _,by omega,?_,hR.pl.mod hm2,toR hm2⟩
  have hap:=hinv.rd.apart
  have hhi:=hinv.rd.hi_le
  have hrlt:=hinv.rd.lt
  refine⟨s2,hinv.mod hR.pl.bg hm2 hr2,vs++[v],css++[cs],?_,by simp [hvl],?_,?_,?_⟩
  ·rw[hrd]
   cases rdN (el.rd ver fl) (L - (j+1)) s2 with
   | none=>rfl
   | some x=>simp
  ·intro c hc
   rcases List.mem_append.1 hc with hc | hc
   ·exact hcl c hc
   ·simp at hc; subst hc; exact hcl3
  ·refine RepL.append (RepL.mod hm2 (fun k hk=>?_) vs hrep) ?_
   ·have hnot:k≠b1∧k≠r∧k < w.heap.size:=by
     have hmsz:=hR.mod.size
     rcases hk with⟨h2,h3⟩ | ⟨h2,h3⟩
     ·omega
     ·omega
    refine⟨hnot.2.2,fun o h=>h.elim hnot.2.1 fun h=>hnot.1 h.1,?_⟩
    rcases hk with hk | ⟨h2,h3⟩
    ·exact .inl hk
    ·exact .inr ⟨h2,by omega⟩
   ·simp only [RepL]
    exact⟨cs,[],rfl,Rep.mono (fun k hk=>hk.imp id fun h=>⟨by omega,h.2⟩) v hrep3,rfl⟩
  ·simp only [List.flatten_append,List.flatten_cons,List.flatten_nil,List.append_nil]
   rw[zx,zx]
   have hz:=hA.zl
   refine⟨⟨hm2.rangeAt hblt (fun i h1 h2 h=>h.elim hbr fun h=>by have:=h.2.1; omega) (by rw[hjs] at *; exact hrg2.1),by rw[Nat.zero_add,hjs]; exact hrg3⟩,?_⟩
   have h5:=hrg1.2
   simp only [List.length_append,hjs,Nat.zero_add,hcl3] at h5 ⊢
   rw[hz] at h5
   exact hm2.rangeAt hblt (fun i h1 h2 h=>h.elim hbr fun h=>by have:=h.2.2; omega) h5
def nulX (nul:Option Int) (ver X:Int) (sz:Nat):Val:=match nul with
 | none=>.nilA
 | some k=>if ver < k∨X=0 then .arr sz [] else .nilA
theorem W_cNulQ (B:Base P N) (hlo:zei loc N') {el:El} {st:TypeId} (hA:ArrT P N st el) {nul:Option Int} {n m:Nat} {ver X:Int} {rest:C} (h5:σ 5=.int .i16 ver) (h1:σ (n+1)=.slice none 0 0) (h2:σ (n+2)=.int .i32 X) (hn:5 < n) (hm:n+2 < m)
  (hQ:∀ (σ':Env) (w':World) (ad:Option Addr) (x:Val),(∀ i,i≠n+1→i≠m→σ' i=σ i)→σ' (n+1)=.slice ad 0 0→Mod w w' zy→x=nulX nul ver X el.sz→(∀ (w'':World) (G:Nat→Prop),Rep w'' G x [.slice ad 0 0])→W P loc N' rest Q σ' w') :
  W P loc N' (cNulQ N st nul n m rest) Q σ w:=by
 have nilR:∀ (w'':World) (G:Nat→Prop),Rep w'' G .nilA [.slice none 0 0]:=fun _ _=>by simp only [Rep]
 unfold cNulQ
 cases nul with
 | none=>exact hQ σ w none .nilA (fun _ _ _=>rfl) h1 (.refl _ _) rfl nilR
 | some k=>
  simp only
  unfold cNul
  have yes:∀ {σ1:Env},(∀ i,i≠m→σ1 i=σ i)→σ1 m=.bool true→(ver < k∨X=0)→W P loc N' (.cond m (.ops [⟨some 0,.buildSlice st 0 #[],0,none,[]⟩,⟨some (n+1+100),.assign (T 0),0,none,[]⟩]) .skip) (zfd (W P loc N' rest Q) Q) σ1 w:=by
   intro σ1 hag hm1 hc
   refine W_if hlo hm1 ?_
   rw[if_pos rfl]
   obtain⟨d,by',z,hty,_⟩:=hA.ty
   have hb:=zke (P:=P) (w:=w) hA.st hty
   obtain⟨w1,hw1⟩:∃ w1,w1=w.alloc (.cells #[] (el.ty N)):=⟨_,rfl⟩
   have m1:Mod w w1 zy:=by rw[hw1]; exact Mod.alloc _ _ _
   rw[← hw1] at hb
   refine zi fun τ=>?_
   have e0:∀ ρ:Env,(#[]:Array (Nat × Operand)).map (fun p=>(p.1,ev ρ p.2))=#[]:=fun ρ=>by simp
   simp +decide (disch:=omega) only [bK,bE,BEq.rfl,e0,hb,zk,zai,locs_envOf]
   refine hQ _ w1 (some ⟨w.heap.size,0,none⟩) (.arr el.sz []) (fun i hi hi2=>by rw[zg hi]; exact hag i hi2) (upd_same _ _ _) m1 (by unfold nulX; simp only; rw[if_pos hc]) (fun w'' G=>?_)
   simp only [Rep]
   refine⟨w.heap.size,0,[],rfl,Nat.le_refl _,fun h=>absurd rfl h,fun x hx=>by simp at hx,by simp only [RepL],fun j v hj=>by simp at hj⟩
  have no:∀ {σ1:Env},(∀ i,i≠m→σ1 i=σ i)→σ1 m=.bool false→¬ (ver < k∨X=0)→W P loc N' (.cond m (.ops [⟨some 0,.buildSlice st 0 #[],0,none,[]⟩,⟨some (n+1+100),.assign (T 0),0,none,[]⟩]) .skip) (zfd (W P loc N' rest Q) Q) σ1 w:=by
   intro σ1 hag hm1 hc
   refine W_if hlo hm1 ?_
   rw[if_neg (by decide)]
   exact zbd (hQ σ1 w none .nilA (fun i _ hi2=>hag i hi2) ((hag _ (by omega)).trans h1) (.refl _ _) (by unfold nulX; simp only; rw[if_neg hc]) nilR)
  have hagm:∀ (v:Value),∀ i,i≠m→upd σ m v i=σ i:=fun v i hi=>zg hi
  refine zd fun K hK=>zd fun K1 hK1=>zi fun τ=>?_
  by_cases hv:ver < k
  ·simp +decide only [bK,bE,Nat.reduceBeqDiff,decide_true,BEq.rfl,Nat.reduceAdd,if_true,h5,hv,zbi,Bool.not_false,zca]
   simp (disch:=omega) only [zk,zai,locs_envOf]
   exact hK1 _ _ (zii (yes (hagm _) (upd_same _ _ _) (.inl hv)) fun e σ' w' hq=>by cases e<;>first | exact hK _ _ hq | exact hq)
  ·by_cases hX:X=0
   ·have bX:(X == 0)=true:=by simpa using hX
    simp +decide only [bK,bE,Nat.reduceBeqDiff,decide_false,BEq.rfl,Nat.reduceAdd,if_false,h5,h2,hv,bX,zap,zca]
    simp (disch:=omega) only [zk,zai,locs_envOf]
    exact hK1 _ _ (zii (yes (hagm _) (upd_same _ _ _) (.inr hX)) fun e σ' w' hq=>by cases e<;>first | exact hK _ _ hq | exact hq)
   ·have bX:(X == 0)=false:=by simpa using hX
    simp +decide only [bK,bE,Nat.reduceBeqDiff,decide_false,BEq.rfl,Nat.reduceAdd,if_false,h5,h2,hv,bX,zap,zca]
    simp (disch:=omega) only [zk,zai,locs_envOf]
    exact hK1 _ _ (zii (no (hagm _) (upd_same _ _ _) (fun h=>h.elim hv hX)) fun e σ' w' hq=>by cases e<;>first | exact hK _ _ hq | exact hq)
theorem tyOk_arr (B:Base P N) (F:Fns P N) {fx:Bool} {el:El} {st:TypeId} (nul:Option Int) (hA:ArrT P N st el) (hcx:fx=true→N.zba≠0) (hel:ElOk P N fx el):TyOk P N fx (.arr st nul el):=by
 intro loc N' Q σ w lo hi r s e u fl ver is b oo Tt idx off n k hlo hx hinv hpl his hT hini hn hisn hQ
 have hini0:w.cell? ⟨b,oo+off,none⟩=some (.slice none 0 0):=hini 0 _ rfl
 rw[Ty.gen]
 unfold cArr
 simp only []
 obtain⟨m,hmm⟩:∃ m,m=n+3+(if fx=true then 1 else 0):=⟨_,rfl⟩
 have hmn:n+3≤m:=by rw[hmm]; omega
 rw[← hmm]
 clear hmm
 obtain⟨p,hp⟩:∃ p,p=m+(if nul.isSome=true then 1 else 0):=⟨_,rfl⟩
 have hpn:n+3≤p:=by rw[hp]; omega
 rw[← hp]
 clear hp
 refine zd fun K hK=>zi fun τ=>?_
 simp +decide (disch:=omega) only [bK,bE,BEq.rfl,his]
 rw[zw rfl]
 simp +decide (disch:=omega) only [bK,bE,BEq.rfl,hT.run,hA.st.run_load1 rfl,hini0,zk,zai,locs_envOf]
 refine hK _ _ ?_
 clear hK K
 refine zd fun K hK=>zgp (hK _ _ ?_)
 clear hK K
 rw[upd_same]
 refine zd fun K hK=>zao (hK _ _ ?_)
 clear hK K
 obtain⟨σ1,hσ1⟩:∃ σ1,σ1=upd (upd (upd σ n (.slice none 0 0)) (n+1) (.slice none 0 0)) (n+2) (.int .i32 0):=⟨_,rfl⟩
 have ha1:Ag n σ σ1:=by rw[hσ1]; exact(((Ag.refl n σ).upd (by omega)).upd (by omega)).upd (by omega)
 have f1:σ1 (n+1)=.slice none 0 0:=by rw[hσ1,zg (by omega)]; exact upd_same _ _ _
 rw[← hσ1]
 clear hσ1
 refine zd fun K hK=>W_cLen B F hlo hA.len hcx (hx.ag ha1 hn) hinv.rd hn fun σ2 w2 ha2 f2 hr2 hm2=>hK _ _ ?_
 clear hK K
 have ha2':Ag n σ σ2:=ha1.trans ha2 (by omega)
 have g1:σ2 (n+1)=.slice none 0 0:=by rw[ha2 _ (by omega)]; exact f1
 have hm2':Mod w w2 (orM (blk r) (rng b (oo+off) 1)):=hm2.mono fun _ _ _ h=>.inl h
 have hinv2:=hinv.mod (o:=oo+off) (n:=1) hpl.bg hm2' hr2
 have hrd:Ty.rd ver fl (.arr st nul el) s=(if (lenX fl s).2.bad then none else if 0 < (lenX fl s).1 then (match rdN (el.rd ver fl) (lenX fl s).1.toNat (lenX fl s).2 with | none=>none | some (l,s)=>some (.arr el.sz l,s)) else some (nulX nul ver (lenX fl s).1 el.sz,(lenX fl s).2)):=by
  cases nul<;>(simp only [Ty.rd]; rfl)
 have hbnd:=zon fl s
 obtain⟨X,hX⟩:∃ X,X=lenX fl s:=⟨_,rfl⟩
 rw[← hX] at hrd f2 hr2 hinv2 hbnd
 refine W_cNulQ B hlo hA ((ha2' 5 (by omega)).trans hx.vr) g1 f2 (by omega) (by omega) fun σ2' w2' ad x0 hagN g1 mN hx0 hrepN=>?_
 have ha2':Ag n σ σ2':=fun i hi=>(hagN i (by omega) (by omega)).trans (ha2' i hi)
 have f2:σ2' (n+2)=.int .i32 X.1:=by
  by_cases e:n+2=m
  ·omega
  ·exact(hagN _ (by omega) e).trans f2
 have hm2N:Mod w w2' (blk r):=hm2.trans' (mN.mono fun _ _ _ h=>h.elim)
 have hr2:RdAt w2' lo hi r X.2:=hr2.mod mN (fun _ h=>h) (fun _ _ _ _ h=>h)
 have hm2':Mod w w2' (orM (blk r) (rng b (oo+off) 1)):=hm2N.mono fun _ _ _ h=>.inl h
 have hinv2:=hinv.mod (o:=oo+off) (n:=1) hpl.bg hm2' hr2
 rw[← hx0] at hrd
 refine zd fun K hK=>W_cOk B F hlo hA.ok hA.cpl (hx.ag ha2' hn).rd (by omega) hinv2 (fun hbad σ3 w3 h3 hm3=>?_) fun hbad w3 hr3 hm3=>hK _ _ ?_
 ·rw[hrd,if_pos hbad] at hQ
  exact hQ σ3 w3 h3 ((hm2N.trans' hm3).mono fun _ _ _ h=>.inl h)
 clear hK K
 rw[hrd,hbad] at hQ
 simp only [Bool.false_eq_true,if_false] at hQ
 obtain⟨σ3,hσ3⟩:∃ σ3,σ3=upd σ2' p (.bool false):=⟨_,rfl⟩
 have ha3:Ag n σ σ3:=by rw[hσ3]; exact ha2'.upd (by omega)
 have k1:σ3 (n+1)=.slice ad 0 0:=by rw[hσ3,zg (by omega)]; exact g1
 have k2:σ3 (n+2)=.int .i32 X.1:=by rw[hσ3,zg (by omega)]; exact f2
 rw[← hσ3]
 clear hσ3
 have hm03:Mod w w3 (blk r):=hm2N.trans' hm3
 have hdcut:(Instr.sliceAt st (.slice ad 0 0) none (some (.int .i64 0)) none).run P w3=.ok (.slice ad 0 0) w3:=by
  obtain⟨d,by',z,ht,_⟩:=hA.ty
  have:=zhj (P:=P) (w:=w3) hA.st ht (ad:=ad) (n:=0) (c:=0) (h:=0) (k:=.i64) (Nat.le_refl _)
  simpa using this
 refine zd fun K hK=>zi fun τ=>?_
 simp +decide (disch:=omega) only [bK,bE,BEq.rfl,Option.map_some,Option.map_none,k1,hdcut,zk,zai,locs_envOf]
 refine hK _ _ ?_
 clear hK K
 obtain⟨σ4,hσ4⟩:∃ σ4,σ4=upd σ3 (n+1) (.slice ad 0 0):=⟨_,rfl⟩
 have ha4:Ag n σ σ4:=by rw[hσ4]; exact ha3.upd (by omega)
 have l1:σ4 (n+1)=.slice ad 0 0:=by rw[hσ4]; exact upd_same _ _ _
 have l2:σ4 (n+2)=.int .i32 X.1:=by rw[hσ4,zg (by omega)]; exact k2
 rw[← hσ4]
 clear hσ4
 have fin:∀ {σ':Env} {w':World} {v:Value} {x:Val} {s':RS},v.oneCell'=true→σ' (n+1)=v→Ag n σ σ'→Mod w w' (blk r)→RdAt w' lo hi r s'→Rep w' (GG lo hi w.heap.size w'.heap.size) x [v]→FQ N lo hi r n b (oo+off) 1 e σ w (some (x,s')) Q→
   W P loc N' (.seq (zqt n (n+1)) (zih is Tt idx st (.move (V n)))) Q σ' w':=fun hone hv ha hm hr hrep hq=>
  arr_tail hA hT hone hpl hini (by rw[ha is hisn]; exact his) hisn hv ha hm hr hrep hq
 have hm03s:=hm03.size
 have hrlt:=hinv.rd.lt
 refine zd fun K hK=>zd fun K1 hK1=>zi fun τ=>?_
 simp +decide (disch:=omega) only [bK,bE,BEq.rfl,l2,zk,zai,locs_envOf]
 refine hK1 _ _ (W_if hlo (upd_same _ _ _) ?_)
 clear hK1 K1
 by_cases hpos:0 < X.1
 ·rw[decide_eq_true (show X.1 > 0 from hpos),if_pos rfl]
  rw[if_pos hpos] at hQ
  obtain⟨σ5,hσ5⟩:∃ σ5,σ5=upd σ4 (p+1) (.bool true):=⟨_,rfl⟩
  have ha5:Ag n σ σ5:=by rw[hσ5]; exact ha4.upd (by omega)
  have m1:σ5 (n+1)=.slice ad 0 0:=by rw[hσ5,zg (by omega)]; exact l1
  have m2:σ5 (n+2)=.int .i32 X.1:=by rw[hσ5,zg (by omega)]; exact l2
  rw[← hσ5]
  clear hσ5
  obtain⟨L,hL⟩:∃ L:Nat,X.1=L:=⟨X.1.toNat,by omega⟩
  have hLt:X.1.toNat=L:=by omega
  rw[hLt] at hQ
  rw[hL] at m2
  obtain⟨d,by',z,hty,hz,hby⟩:=hA.ty
  have hzs:z.cells.size=el.sz:=by rw[← Array.length_toList,hz]; exact hA.zl
  obtain⟨cap,rest,hcap,hgrow⟩:=run_grow B (ad:=ad) (ty:=st) hA.st hty (w:=w3) (L:=L) (by omega) (by omega) hA.sz hby hzs
  refine zi fun τ=>?_
  simp +decide (disch:=omega) only [bK,bE,Nat.reduceBeqDiff,BEq.rfl,m1,m2,hgrow,zk,zai,locs_envOf]
  refine hK _ _ ?_
  clear hK K hgrow
  obtain⟨w4,hw4⟩:∃ w4,w4=w3.drew.alloc (.cells (zs z.cells.toList L++rest).toArray (el.ty N)):=⟨_,rfl⟩
  obtain⟨σ6,hσ6⟩:∃ σ6,σ6=upd σ5 (n+1) (.slice (some ⟨w3.heap.size,0,none⟩) L cap):=⟨_,rfl⟩
  have ha6:Ag n σ σ6:=by rw[hσ6]; exact ha5.upd (by omega)
  have n1:σ6 (n+1)=.slice (some ⟨w3.heap.size,0,none⟩) L cap:=by rw[hσ6]; exact upd_same _ _ _
  have n2:σ6 (n+2)=.int .i32 L:=by rw[hσ6,zg (by omega)]; exact m2
  rw[← hσ6,← hw4]
  clear hσ6
  have mA:Mod w3 w4 zy:=by rw[hw4]; exact(Mod.drew w3 zy).trans' (Mod.alloc _ _ _)
  have s4:w4.heap.size=w3.heap.size+1:=by rw[hw4]; exact zav w3.drew _
  have rg4:w4.rangeAt w3.heap.size 0 (zs el.zero L):=by
   have:=zr w3.drew (zs z.cells.toList L++rest).toArray (el.ty N) (0,0)
   rw[hw4,← hz]
   exact(zx.1 (by simpa using this)).1
  have th4:w4.there w3.heap.size 0 (L * el.sz):=by
   have:=zbq w3.drew (zs z.cells.toList L++rest).toArray (el.ty N)
   rw[hw4]
   intro j hj
   refine this j ?_
   simp only [List.size_toArray,List.length_append,zna,hz,hA.zl]
   omega
  clear hw4
  have hgsz:=zde (show (w.cell? ⟨N.zj,0,none⟩).isSome=true by rw[hinv.er]; rfl)
  have hr4:RdAt w4 lo hi r X.2:=hr3.mod mA (fun _ h=>h) (fun _ _ _ _ h=>h)
  have hm04:Mod w w4 (blk r):=hm03.trans' (mA.mono fun _ _ _ h=>h.elim)
  have hinv4:Inv N w4 lo hi r X.2 e:=hinv.mod (o:=0) (n:=0) hpl.bg (hm04.mono fun _ _ _ h=>.inl h) hr4
  have hpl4:Pl N w4 lo hi r w3.heap.size 0 (L * el.sz):=⟨th4,by omega,by omega,.inr hr3.hi_le,by omega⟩
  refine zd fun K hK=>zyj (Q:=zfd K Q) (lv:=(L:Int)) hlo (by omega) (Rnd N el ver fl lo hi r n is w3.heap.size L cap (p+2) X.2 σ w3 e) (fun j σ w h=>⟨h.i,h.len,by have:=h.le; omega⟩) (fun j σ w bb h=>?_) ?_ (fun σ' w' h=>hK _ _ ?_) (fun j σ' w' hj h=>?_)
  ·exact⟨h.ag.upd (by omega),by rw[zg (by omega)]; exact h.arr,by rw[zg (by omega)]; exact h.len,by rw[zg (by omega)]; exact h.i,h.le,h.inv,h.pl,h.mod⟩
  ·refine⟨ha6.upd (by omega),by rw[zg (by omega)]; exact n1,by rw[zg (by omega)]; exact n2,upd_same _ _ _,Nat.zero_le _,⟨X.2,hinv4,[],[],?_,rfl,fun c hc=>by simp at hc,by simp only [RepL],by simpa using rg4⟩,hpl4,mA.mono fun _ _ _ h=>h.elim⟩
   rw[Nat.sub_zero]
   cases rdN (el.rd ver fl) L X.2 with
   | none=>rfl
   | some x=>rfl
  ·have e1:(L:Int).toNat=L:=by omega
   rw[e1] at h
   obtain⟨s',hinv',vs,css,hrdN,hvl,hcl,hrep,hrg⟩:=h.inv
   rw[Nat.sub_self] at hrdN hrg
   simp only [rdN,List.append_nil] at hrdN
   rw[hrdN] at hQ
   have hmz:=h.mod.size
   refine fin (v:=.slice (some ⟨w3.heap.size,0,none⟩) L cap) rfl h.arr h.ag (hm03.trans' h.mod) hinv'.rd ?_ hQ
   simp only [Rep]
   have hlt':=h.pl.lt
   refine⟨w3.heap.size,cap,css,by rw[hvl],by omega,fun _=>.inr ⟨hm03s,hlt'⟩,hcl,RepL.mono (fun k hk=>hk.imp id fun h=>⟨by omega,h.2⟩) vs hrep,?_⟩
   simpa [zs] using hrg
  ·refine zii (round (Q:=Q) hA hel hlo hx hn (by omega) (Nat.le_refl _) (by omega) h (by omega) (fun hnone σ'' w'' h3 hm=>?_)) fun ex σ'' w'' hq=>?_
   ·rw[hnone] at hQ
    exact hQ σ'' w'' h3 ((hm03.trans' hm).mono fun _ _ _ h=>.inl h)
   ·cases ex<;>first | exact hq | exact hq.elim
 ·rw[decide_eq_false (show ¬ X.1 > 0 from hpos),if_neg (by simp)]
  rw[if_neg hpos] at hQ
  refine zbd (hK _ _ ?_)
  clear hK K
  have hz0:X.1.toNat=0:=by omega
  refine zd fun K hK=>zyj (Q:=zfd K Q) (lv:=X.1) hlo hbnd.2 (fun j σ' w'=>w'=w3∧Ag n σ σ'∧σ' (n+1)=.slice ad 0 0∧σ' (n+2)=.int .i32 X.1∧σ' (p+2)=.int .i32 j∧j=0) (fun j σ w h=>⟨h.2.2.2.2.1,h.2.2.2.1,by have:=h.2.2.2.2.2; omega⟩) (fun j σ w bb h=>?_) ?_ (fun σ' w' h=>hK _ _ ?_) (fun j σ' w' hj h=>by omega)
  ·obtain⟨h1,h2,h3,h4,h5,h6⟩:=h
   exact⟨h1,h2.upd (by omega),by rw[zg (by omega)]; exact h3,by rw[zg (by omega)]; exact h4,by rw[zg (by omega)]; exact h5,h6⟩
  ·exact⟨rfl,(ha4.upd (by omega)).upd (by omega),by rw[zg (by omega),zg (by omega)]; exact l1,by rw[zg (by omega),zg (by omega)]; exact l2,upd_same _ _ _,rfl⟩
  ·obtain⟨h1,h2,h3,_,_,_⟩:=h
   subst h1
   exact fin (v:=.slice ad 0 0) rfl h3 h2 hm03 hr3 (hrepN _ _) hQ
end
end
def cDf (N:Nums) (Tt:TypeId) (idx:Nat) (k:PK) (d:Value):C:=
 .ops [⟨some 0,.move (V 0),0,none,[]⟩,⟨some 1,.nilCheck (T 0),0,none,[]⟩,⟨some 2,.fieldAddr Tt (T 1) idx,0,none,[]⟩,⟨none,.store (k.t N) (T 2) (.const d),0,none,[]⟩]
def cDfRow (Tt:TypeId) (idx q:Nat):C:=
 .seq (.ops [⟨some 0,.move (V 0),0,none,[]⟩,⟨some 1,.nilCheck (T 0),0,none,[]⟩,⟨some 2,.fieldAddr Tt (T 1) idx,0,none,[]⟩,⟨some (q+100),.assign (T 2),0,none,[]⟩]) (.ops [⟨some 0,.move (V q),0,none,[]⟩])
def Fds.dflQ (N:Nums) (Tt:TypeId):Fds→Nat→Nat→List C
 | .cons _ (.pr k (some d)) r,q,idx=>cDf N Tt idx k d :: r.dflQ N Tt q (idx+1)
 | .cons _ (.row ..) r,q,idx=>cDfRow Tt idx q :: r.dflQ N Tt (q+1) (idx+1)
 | .cons _ (.ptr ..) r,q,idx=>cDfRow Tt idx q :: r.dflQ N Tt (q+1) (idx+1)
 | .cons _ _ r,q,idx=>r.dflQ N Tt q (idx+1)
 | _,_,_=>[]
def Fds.dfl (N:Nums) (Tt:TypeId) (fs:Fds) (idx:Nat):List C:=fs.dflQ N Tt 1 idx
def Fds.plain (N:Nums):Fds→Prop
 | .cons _ (.pr k (some d)) r=>(k.isSg=true∧k.nt N)∧d.oneCell'=true∧r.plain N
 | .cons _ (.row _ _ _ fs) r=>fs.zero=fs.ini∧r.plain N
 | .cons _ _ r=>r.plain N
 | _=>True
theorem pk_sz {k:PK} (h:k.isSg=true):k.sz=1:=by cases k<;>first | rfl | cases h
theorem ziu (k:PK):k.zero.cells.toList.length=k.sz:=by cases k<;>rfl
mutual
theorem Ty.zero_length:∀ (t:Ty),t.zero.length=t.sz
 | .pr k _=>ziu k
 | .txt _=>rfl
 | .arr ..=>rfl
 | .row _ _ _ fs=>Fds.zero_length fs
 | .tv _=>rfl
 | .ptr ..=>rfl
theorem Fds.zero_length:∀ (fs:Fds),fs.zero.length=fs.sz
 | .nil=>rfl
 | .tags _=>rfl
 | .cons _ t r=>by
  simp only [Fds.zero,Fds.sz,List.length_append]
  rw[Ty.zero_length t,Fds.zero_length r]
end
section
variable {P:Program} {N:Nums}
theorem W_cDf (B:Base P N) {loc:List Nat} {N':Nat} {Q:Exit→Env→World→Prop} {σ:Env} {w:World} {Tt:TypeId} {idx off b o:Nat} {k:PK} {d:Value} (hk:k.isSg=true∧k.nt N) (hd:d.oneCell'=true) (hT:HF P Tt idx off) (h0:σ 0=.pointer (some ⟨b,o,none⟩)) (ht:w.there b (o+off) 1)
  (hQ:Q .normal σ (w.setCell ⟨b,o+off,none⟩ d)):W P loc N' (cDf N Tt idx k d) Q σ w:=by
 obtain⟨hk,hnt⟩:=hk
 unfold cDf
 obtain⟨dd,by',hti⟩:=pk_ti B k hnt (fun t e=>by rw[e] at hk; cases hk)
 rw[pk_sz hk] at hti
 refine zi fun τ=>?_
 have st:=hti.run_store1 (w:=w) (b:=b) (o:=o+off) (v:=d) hd ht
 simp +decide (disch:=omega) only [bK,bE,BEq.rfl,Nat.zero_add,h0]
 rw[zw rfl]
 simp +decide (disch:=omega) only [bK,bE,BEq.rfl,hT.run,st,zai,locs_envOf]
 exact hQ
theorem W_move {loc:List Nat} {N':Nat} {Q:Exit→Env→World→Prop} {σ:Env} {w:World} {i:Nat} (h:Q .normal σ w):W P loc N' (.ops [⟨some 0,.move (V i),0,none,[]⟩]) Q σ w:=by
 refine zi fun τ=>?_
 simp +decide (disch:=omega) only [bK,bE,zai,locs_envOf]
 exact h
theorem W_cDfRow {loc:List Nat} {N':Nat} {Q:Exit→Env→World→Prop} {σ:Env} {w:World} {Tt:TypeId} {idx off b o q:Nat} (hT:HF P Tt idx off) (h0:σ 0=.pointer (some ⟨b,o,none⟩))
  (hQ:Q .normal (upd σ q (.pointer (some ⟨b,o+off,none⟩))) w):W P loc N' (cDfRow Tt idx q) Q σ w:=by
 unfold cDfRow
 refine zd fun K hK=>zi fun τ=>?_
 simp +decide (disch:=omega) only [bK,bE,BEq.rfl,Nat.zero_add,h0]
 rw[zw rfl]
 simp +decide (disch:=omega) only [bK,bE,BEq.rfl,hT.run,zk,zai,locs_envOf]
 exact hK _ _ (W_move hQ)
def Fds.pre:Fds→List Value→Prop
 | .cons _ (.pr k (some _)) r,cs=>∃ u rest,cs=u++rest∧u.length=k.sz∧r.pre rest
 | .cons _ t r,cs=>∃ rest,cs=t.ini++rest∧r.pre rest
 | .nil,cs=>cs=[]
 | .tags _,cs=>cs=[.map none]
theorem zjx {N:Nums}:∀ (fs:Fds),fs.plain N→fs.pre fs.zero
 | .nil,_=>rfl
 | .tags _,_=>rfl
 | .cons g t r,h=>by
  cases t with
  | pr k d=>
   cases d with
   | none=>exact⟨r.zero,rfl,zjx r h⟩
   | some d=>exact⟨_,r.zero,rfl,ziu k,zjx r h.2.2⟩
  | txt k=>exact⟨r.zero,rfl,zjx r h⟩
  | arr st nul e=>exact⟨r.zero,rfl,zjx r h⟩
  | tv k=>exact⟨r.zero,rfl,zjx r h⟩
  | ptr T' pT f fs=>exact⟨r.zero,rfl,zjx r h⟩
  | row T' pT f fs=>exact⟨r.zero,by simp only [Fds.zero,Ty.zero,Ty.ini,h.1],zjx r h.2⟩
theorem zni {N:Nums}:∀ (fs:Fds),fs.plain N→fs.pre fs.ini
 | .nil,_=>rfl
 | .tags _,_=>rfl
 | .cons g t r,h=>by
  cases t with
  | pr k d=>
   cases d with
   | none=>exact⟨r.ini,rfl,zni r h⟩
   | some d=>exact⟨_,r.ini,rfl,by show d.cells.toList.length=_; rw[zds h.2.1,pk_sz h.1.1]; rfl,zni r h.2.2⟩
  | txt k=>exact⟨r.ini,rfl,zni r h⟩
  | arr st nul e=>exact⟨r.ini,rfl,zni r h⟩
  | tv k=>exact⟨r.ini,rfl,zni r h⟩
  | ptr T' pT f fs=>exact⟨r.ini,rfl,zni r h⟩
  | row T' pT f fs=>exact⟨r.ini,rfl,zni r h.2⟩
theorem WL_dfl (B:Base P N) {loc:List Nat} {N':Nat} {Q:Exit→Env→World→Prop} {Tt:TypeId} {b o:Nat}:∀ (fs:Fds) (q:Nat) (σ:Env) (idx off:Nat) (w:World) (cs:List Value),q≠0→σ 0=.pointer (some ⟨b,o,none⟩)→fs.plain N→fs.hf P Tt idx off→w.there b (o+off) fs.sz→b < w.heap.size→w.rangeAt b (o+off) cs→fs.pre cs→
  (∀ σ' w',Mod w w' (rng b (o+off) fs.sz)→w'.rangeAt b (o+off) fs.ini→Q .normal σ' w')→WL P loc N' (fs.dflQ N Tt q idx) Q σ w
 | .nil,_,σ,_,_,w,cs,_,_,_,_,_,_,hz,hp,hQ=>by
  simp only [Fds.pre] at hp
  subst hp
  exact hQ σ w (.refl _ _) hz
 | .tags _,_,σ,_,_,w,cs,_,_,_,_,_,_,hz,hp,hQ=>by
  simp only [Fds.pre] at hp
  subst hp
  exact hQ σ w (.refl _ _) hz
 | .cons g t r,q,σ,idx,off,w,cs,hq,h0,hp,hf,ht,hb,hz,hpre,hQ=>by
  obtain⟨hf1,hf2⟩:=hf
  have same:∀ {q1:Nat} {σ1:Env},q1≠0→σ1 0=.pointer (some ⟨b,o,none⟩)→t.ini.length=t.sz→r.plain N→(∃ rest,cs=t.ini++rest∧r.pre rest)→WL P loc N' (r.dflQ N Tt q1 (idx+1)) Q σ1 w:=by
   rintro q1 σ1 hq1 h01 e1 hpr ⟨rest,rfl,hrest⟩
   have hz2:=zx.1 hz
   rw[e1,Nat.add_assoc] at hz2
   refine WL_dfl B r q1 σ1 (idx+1) (off+t.sz) w rest hq1 h01 hpr hf2 (fun j hj=>?_) hb hz2.2 hrest fun σ' w' hm hr=>?_
   ·have:=ht (t.sz+j) (by simp only [Fds.sz]; omega)
    rwa [show o+off+(t.sz+j)=o+(off+t.sz)+j by omega] at this
   ·refine hQ σ' w' (hm.mono fun k i _ h=>⟨h.1,by have:=h.2.1; omega,by have:=h.2.2; simp only [Fds.sz]; omega⟩) ?_
    simp only [Fds.ini]
    rw[zx]
    refine⟨hm.rangeAt hb (fun i h1 h2 h=>by have:=h.2.1; rw[e1] at h2; omega) hz2.1,?_⟩
    rw[e1,Nat.add_assoc]; exact hr
  cases t with
  | pr k d=>
   cases d with
   | none=>exact same hq h0 (ziu k) hp hpre
   | some d=>
    obtain⟨h1,h2,h3⟩:=hp
    obtain⟨u,rest,rfl,hu,hrest⟩:=hpre
    have hk1:=pk_sz h1.1
    have hz2:=zx.1 hz
    rw[hu,Nat.add_assoc] at hz2
    refine zaa fun K hK=>W_cDf B h1 h2 hf1 h0 (fun j hj=>by have:=ht j (by simp only [Fds.sz,Ty.sz]; omega); exact this) (hK _ _ ?_)
    have m1:Mod w (w.setCell ⟨b,o+off,none⟩ d) (rng b (o+off) 1):=Mod.setCell fun _=>⟨rfl,Nat.le_refl _,by omega⟩
    refine WL_dfl B r q σ (idx+1) (off+(Ty.pr k (some d)).sz) _ rest hq h0 h3 hf2 (fun j hj=>?_) (by simpa [World.setCell] using hb) (m1.rangeAt hb (fun i h1 h2 h=>by have:=h.2.2; simp only [Ty.sz] at h1; omega) hz2.2) hrest fun σ' w' hm hr=>?_
    ·have:=m1.there hb ht (k.sz+j) (by simp only [Fds.sz,Ty.sz]; omega)
     simp only [Ty.sz]
     rwa [show o+off+(k.sz+j)=o+(off+k.sz)+j by omega] at this
    ·simp only [Ty.sz] at hm hr
     refine hQ σ' w' (m1.trans hm fun k' i _ h=>h.elim (fun h=>⟨h.1,h.2.1,by have:=h.2.2; simp only [Fds.sz,Ty.sz]; omega⟩) (fun h=>⟨h.1,by have:=h.2.1; omega,by have:=h.2.2; simp only [Fds.sz,Ty.sz]; omega⟩)) ?_
     simp only [Fds.ini,Ty.ini,Option.getD_some]
     rw[zds h2,zx]
     have hz1:w.cell? ⟨b,o+off,none⟩=some (u[0]'(by omega)):=by
      have:=hz2.1 0 (u[0]'(by omega)) (by rw[List.getElem?_eq_getElem])
      simpa using this
     refine⟨?_,?_⟩
     ·have:(w.setCell ⟨b,o+off,none⟩ d).rangeAt b (o+off) [d]:=zfe.2 (World.cell?_setCell_same _ _ _ hz1)
      exact hm.rangeAt (by simpa [World.setCell] using hb) (fun i h1 h2 h=>by have:=h.2.1; simp at h2; omega) this
     ·rw[hk1] at hr
      simpa [Nat.add_assoc] using hr
  | txt k=>exact same hq h0 rfl hp hpre
  | arr st nul e=>exact same hq h0 rfl hp hpre
  | tv k=>exact same hq h0 rfl hp hpre
  | ptr T' pT f fs=>
   refine zaa fun K hK=>W_cDfRow hf1 h0 (hK _ _ ?_)
   exact same (by omega) (by rw[zg (fun e=>hq e.symm)]; exact h0) rfl hp hpre
  | row T' pT f fs=>
   refine zaa fun K hK=>W_cDfRow hf1 h0 (hK _ _ ?_)
   exact same (by omega) (by rw[zg (fun e=>hq e.symm)]; exact h0) (by simp only [Ty.ini,Ty.sz]; rw[← hp.1]; exact Fds.zero_length fs) hp.2 hpre
theorem dfOk (B:Base P N) {Tt:TypeId} {f:FuncId} {fs:Fds} (hF:FOk P f 1 (seqs (fs.dfl N Tt 0)) []) (hp:fs.plain N) (hf:fs.hf P Tt 0 0):DfOk P f fs:=by
 refine⟨hF.has,fun w b o ht hb hz=>hF.call rfl fun loc N' hlo=>?_⟩
 have fin:∀ (σ':Env) w',Mod w w' (rng b (o+0) fs.sz)→w'.rangeAt b (o+0) fs.ini→retQ P [] (fun _ w'=>Mod w w' (rng b o fs.sz)∧w'.rangeAt b o fs.ini) .normal σ' w':=
  fun σ' w' hm hr=>⟨.inl rfl,.tuple #[],rfl,hm,hr⟩
 have key:=WL_dfl B (loc:=loc) (N':=N') (Q:=retQ P [] (fun _ w'=>Mod w w' (rng b o fs.sz)∧w'.rangeAt b o fs.ini)) (Tt:=Tt) (b:=b) (o:=o) fs 1 (zdf #[.pointer (some ⟨b,o,none⟩)]) 0 0 w _ (by decide) (zbh _) hp hf ht hb hz (zjx fs hp) fin
 change WL P loc N' (fs.dfl N Tt 0) _ _ _ at key
 cases hl:fs.dfl N Tt 0 with
 | nil=>rw[hl] at key; exact zbd key
 | cons x l=>rw[hl] at key; exact zfp (by simp) key
end
end Go.Kf
