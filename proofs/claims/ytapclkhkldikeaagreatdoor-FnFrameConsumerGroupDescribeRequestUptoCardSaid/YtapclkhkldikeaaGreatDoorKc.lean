/- A part of the calculus by which the claim's proof goes: over any program and any numbering of its functions; no condition beyond those that each theorem names. -/
import Derived.MapKept
import Derived.Deep.AppendSrc
import Derived.Great.BuildSlice
import Derived.Laws.IdiomStrings
import Derived.Laws.MakeOwn
import Derived.Maps.RangeRun
import Derived.Test.YtapclkhkldikeaaGreatDoorKb
set_option linter.unusedSimpArgs false
set_option linter.unusedVariables false
namespace Go.Kf
open Go Go.RowKit
section
variable {P:Program} {N:Nums}
def Msg.rd (m:Msg) (fx:Bool) (ver:Int) (s:RS):Option (List Val):=
 match m.fs.rdR ver (fx && decide (ver ≥ m.fl)) s with
 | none=>none
 | some (l,s)=>if s.bad then none else some l
def zyl (N:Nums) (m:Msg) (x:Option (List Val)) (lo hi M:Nat) (ver:Int) (e:Value) (w:World) (v:Value) (w':World):Prop:=
 Mod w w' (blk M)∧match x with
 | none=>v=e
 | some l=>v=.nilIface∧w'.cell? ⟨M,0,none⟩=some (.int .i16 ver)∧∃ css,RepL w' (GG lo hi w.heap.size w'.heap.size) l css∧w'.rangeAt M 1 css.flatten∧css.flatten.length=m.fs.sz
structure MsgT (P:Program) (N:Nums) (m:Msg) (fx:Bool):Prop where
 hf:m.fs.hf P m.tT 1 1
 v0:HF P m.tT 0 0
 plain:m.fs.plain N
 dflt:FOk P m.dflt 1 (seqs (m.fs.dfl N m.tT 1)) []
 fds:FdsOkR P N fx m.fs
 ok:N.zaf≠0
theorem msg_dflt (B:Base P N) {m:Msg} {fx:Bool} (hm:MsgT P N m fx) {w:World} {M:Nat} (ht:w.there M 0 (m.fs.sz+1)) (hM:M < w.heap.size) {zs:List Value} (hz:w.rangeAt M 1 zs) (hp:m.fs.pre zs) :
  Call P m.dflt #[.pointer (some ⟨M,0,none⟩)] w fun _ w'=>Mod w w' (rng M 1 m.fs.sz)∧w'.rangeAt M 1 m.fs.ini:=by
 refine hm.dflt.call rfl fun loc N' hlo=>?_
 have fin:∀ (σ':Env) w',Mod w w' (rng M (0+1) m.fs.sz)→w'.rangeAt M (0+1) m.fs.ini→retQ P [] (fun _ w'=>Mod w w' (rng M 1 m.fs.sz)∧w'.rangeAt M 1 m.fs.ini) .normal σ' w':=
  fun σ' w' hm hr=>⟨.inl rfl,.tuple #[],rfl,hm,hr⟩
 have key:=WL_dfl B (loc:=loc) (N':=N') (Q:=retQ P [] (fun _ w'=>Mod w w' (rng M 1 m.fs.sz)∧w'.rangeAt M 1 m.fs.ini)) (Tt:=m.tT) (b:=M) (o:=0) m.fs 1 (zdf #[.pointer (some ⟨M,0,none⟩)]) 1 1 w _ (by decide) (zbh _) hm.plain hm.hf
  (fun j hj=>by have:=ht (1+j) (by omega); simpa [Nat.add_assoc] using this) hM hz hp fin
 change WL P loc N' (m.fs.dfl N m.tT 1) _ _ _ at key
 cases hl:m.fs.dfl N m.tT 1 with
 | nil=>rw[hl] at key; exact zbd key
 | cons x l=>rw[hl] at key; exact zfp (by simp) key
theorem W_mkReader (B:Base P N) {loc:List Nat} {N':Nat} {Q:Exit→Env→World→Prop} {σ:Env} {w:World} {lo hi:Nat} {v:Value} {nl:Bool} {l:List UInt8} (h1:σ 1=v) (hb:zbz w lo hi v nl l) (hhi:hi≤w.heap.size)
  (hQ:∀ w',w'.heap.size=w.heap.size+1→Mod w w' zy→RdAt w' lo hi w.heap.size ⟨l,false,nl⟩→Q .normal (upd σ 4 (.pointer (some ⟨w.heap.size,0,none⟩))) w') :
  W P loc N' (.ops [⟨some 0,.move (V 1),0,none,[]⟩,⟨some 1,.build N.zv #[(0,T 0)],0,none,[]⟩,⟨some 104,.alloc N.zv,0,none,[]⟩,⟨none,.store N.zv (V 4) (T 1),0,none,[]⟩]) Q σ w:=by
 obtain⟨fs,ht,_⟩:=B.reader.out
 have hone:v.oneCell'=true:=hb.oneCell
 have hbu:(Instr.build N.zv #[(0,v)]).run P w=.ok (.agg #[v,.bool false]) w:=B.reader.run_build (by
  simp [Instr.fill,zds hone])
 have e1:∀ ρ:Env,(#[(0,T 0)]:Array (Nat × Operand)).map (fun p=>(p.1,ev ρ p.2))=#[(0,ρ 0)]:=fun ρ=>by simp
 refine zi fun τ=>?_
 simp +decide (disch:=omega) only [bK,bE,Nat.reduceBeqDiff,BEq.rfl,Nat.reduceAdd,e1,h1,hbu,ht.run_alloc]
 obtain⟨w1,hw1⟩:∃ w1,w1=w.alloc (.cells (Value.cells (.agg [.slice none 0 0,.bool false].toArray)) N.zv):=⟨_,rfl⟩
 have m1:Mod w w1 zy:=by rw[hw1]; exact Mod.alloc _ _ _
 have s1:w1.heap.size=w.heap.size+1:=by rw[hw1]; exact zav _ _
 have r1:w1.rangeAt w.heap.size 0 [.slice none 0 0,.bool false]:=by rw[hw1]; exact zr w _ _ _
 have t1:w1.there w.heap.size 0 2:=by rw[hw1]; exact zbq w _ _
 have st:=ht.run_store (w:=w1) (b:=w.heap.size) (o:=0) (v:=.agg #[v,.bool false]) (cs:=[v,.bool false]) rfl rfl t1 (fun c hc=>by
  simp at hc; rcases hc with rfl | rfl
  ·exact hone
  ·rfl)
 rw[← hw1]
 clear hw1
 simp +decide (disch:=omega) only [bK,st,zk,zai,locs_envOf]
 have m2:Mod w1 (w1.setCells w.heap.size 0 [v,.bool false]) (blk w.heap.size):=Mod.setCells _ 0 _ fun _ _ _ _=>rfl
 have m02:Mod w (w1.setCells w.heap.size 0 [v,.bool false]) zy:=m1.fresh m2 fun k o e=>by have:k=w.heap.size:=e; omega
 have r2:=zax [v,.bool false] 0 w1 _ r1 (Nat.le_refl _)
 refine hQ _ ?_ m02 ⟨⟨v,by simpa using r2,hb.mod m02 hhi fun _ _ _ _ h=>h⟩,m2.there (by omega) t1,Nat.le_trans hhi m02.size,.inr hhi⟩
 simp [World.setCells,World.setCell,s1]
theorem W_rdRest (B:Base P N) (F:Fns P N) {m:Msg} {fx:Bool} (hm:MsgT P N m fx) {loc:List Nat} {N':Nat} (hlo:zei loc N') {w w2:World} {lo hi M r:Nat} {e:Value} {u:Bool} {s:RS} {ver:Int} {σ2:Env}
  (hMs:M < lo∨hi≤M) (hM:M < w.heap.size) (hMg:M≠N.zj) (hgl:N.zj < w.heap.size) (hrw:w.heap.size≤r) (hm02:Mod w w2 (blk M)) (ht:w2.there M 0 (m.fs.sz+1)) (hver2:w2.cell? ⟨M,0,none⟩=some (.int .i16 ver)) (hini2:w2.rangeAt M 1 m.fs.ini)
  (he2:w2.cell? ⟨N.zj,0,none⟩=some e) (hei:∃ te ve,e=.iface te ve) (hr2:RdAt w2 lo hi r s) (b0:σ2 0=.pointer (some ⟨M,0,none⟩)) (b2:σ2 2=.bool u) (b4:σ2 4=.pointer (some ⟨r,0,none⟩)) :
  WL P loc N' ([.ops [⟨some 0,.move (V 0),0,none,[]⟩,⟨some 1,.nilCheck (T 0),0,none,[]⟩,⟨some 2,.fieldAddr m.tT (T 1) 0,0,none,[]⟩,⟨some 3,.load N.zbf (T 2),0,none,[]⟩,⟨some 105,.assign (T 3),0,none,[]⟩],.ops [⟨some 0,.move (V 5),0,none,[]⟩]] ++
   (if fx then [.ops [⟨some 0,.move (V 5),0,none,[]⟩,⟨some 1,.binOp .geq N.zbf (T 0) (.const (.int .i16 m.fl)) N.zbf,0,none,[]⟩,⟨some 106,.assign (T 1),0,none,[]⟩],.ops [⟨some 0,.move (V 6),0,none,[]⟩]] else []) ++
   [zqt (if fx then 7 else 6) 0]++m.fs.genR N fx (if fx then 7 else 6) m.tT 1 ((if fx then 7 else 6)+1) 0++[zgo N 3 N.zaf N.zgc,.ret]) (retQ P [.var 3] (zyl N m (m.rd fx ver s) lo hi M ver e w)) σ2 w2:=by
 have hs2:=hm02.size
 simp only [List.nil_append,List.cons_append]
 refine zaa fun K hK=>zi fun τ=>?_
 simp +decide (disch:=omega) only [bK,bE,BEq.rfl,Nat.zero_add,b0]
 rw[zw rfl]
 simp +decide (disch:=omega) only [bK,bE,BEq.rfl,Nat.add_zero,hm.v0.run,B.int16.run_load1 rfl,hver2]
 refine hK _ _ (zb fun σ3 hσ=>?_)
 have c0:=hσ 0
 have c2:=hσ 2
 have c4:=hσ 4
 have c5:=hσ 5
 simp +decide only [bE,Nat.reduceBeqDiff,BEq.rfl,Nat.reduceAdd,Nat.zero_add,b0,b2,b4] at c0 c2 c4 c5
 clear hσ hK K
 refine zaa fun K hK=>W_move (hK _ _ ?_)
 clear hK K
 have tail:∀ {σ4:Env} {is:Nat},6≤is→(fx=true→is=7)→Cx σ4 fx u (fx && decide (ver ≥ m.fl)) ver r→σ4 0=.pointer (some ⟨M,0,none⟩)→
   WL P loc N' (zqt is 0 :: (m.fs.genR N fx is m.tT 1 (is+1) 0++[zgo N 3 N.zaf N.zgc,.ret])) (retQ P [.var 3] (zyl N m (m.rd fx ver s) lo hi M ver e w)) σ4 w2:=by
  intro σ4 is his6 his7 hx d0
  refine zaa fun K hK=>zgp (hK _ _ ?_)
  clear hK K
  rw[d0]
  obtain⟨σ5,hσ5⟩:∃ σ5,σ5=upd σ4 is (.pointer (some ⟨M,0,none⟩)):=⟨_,rfl⟩
  have hx5:Cx σ5 fx u (fx && decide (ver ≥ m.fl)) ver r:=by
   rw[hσ5]
   refine⟨by rw[zg (by omega)]; exact hx.un,by rw[zg (by omega)]; exact hx.rd,by rw[zg (by omega)]; exact hx.vr,fun h=>?_,hx.nofl⟩
   rw[zg (by have:=his7 h; omega)]; exact hx.fle h
  have d5:σ5 is=.pointer (some ⟨M,0,none⟩):=by rw[hσ5]; exact upd_same _ _ _
  rw[← hσ5]
  clear hσ5
  have hr2':RdAt w2 lo hi r s:=hr2
  have hinv:Inv N w2 lo hi r s e:=⟨hr2',he2,by omega,hei⟩
  have hpl:Pl N w2 lo hi r M (0+1) m.fs.sz:=⟨fun j hj=>by have:=ht (1+j) (by omega); simpa [Nat.add_assoc] using this,by omega,by omega,hMs,hMg⟩
  have tot:∀ {w3:World},Mod w2 w3 (orM (blk r) (rng M (0+1) m.fs.sz))→Mod w w3 (blk M):=fun h=>hm02.trans h fun k i hk h=>h.elim id fun h=>h.elim (fun h=>by have:k=r:=h; omega) fun h=>h.1
  have hcomp:∀ {w3:World} {s3:RS},w3.cell? ⟨N.zj,0,none⟩=some e→RdAt w3 lo hi r s3→Call P N.zaf #[.pointer (some ⟨r,0,none⟩)] w3 fun v w'=>v=(if s3.bad then e else .nilIface)∧w'=w3:=by
   intro w3 s3 he3 hr3
   rcases B.error with h | ⟨ms,h⟩
   ·exact zie B F hm.ok h rfl he3 hr3
   ·exact zie B F hm.ok h rfl he3 hr3
  refine zvf ?_
  have his8:7≤is+1:=by omega
  refine hm.fds (s:=s) (e:=e) (ver:=ver) (oo:=0) (off:=1) (b:=M) hlo hx5 hinv hpl d5 hm.hf hini2 his8 (by omega) ?_
  cases hrd:m.fs.rdR ver (fx && decide (ver ≥ m.fl)) s with
  | none=>
   intro σ6 w3 h3 hm3
   refine⟨.inr rfl,e,h3.symm,tot hm3,?_⟩
   simp only [Msg.rd,hrd]
  | some x=>
   obtain⟨vs,s3⟩:=x
   intro σ6 w3 css ha6 hr3 hm3 hrg hcl _ hrep
   have f4:σ6 4=.pointer (some ⟨r,0,none⟩):=by rw[ha6 4 (by omega)]; exact hx5.rd
   have hinv3:=hinv.mod hMg hm3 hr3
   refine zaa fun K hK=>zjr (F.PReader_Complete hm.ok).has f4 (hcomp hinv3.er hr3) fun v' w' ⟨hv,hw⟩=>hK _ _ ?_
   clear hK K
   subst hw
   refine zaa fun K hK=>zbb ⟨.inr rfl,v',(upd_same _ _ _).symm,tot hm3,?_⟩
   simp only [Msg.rd,hrd]
   cases hb:s3.bad with
   | true=>
    rw[hb,if_pos rfl] at hv
    exact hv
   | false=>
    rw[hb] at hv
    refine⟨hv,?_,css,RepL.mono (fun k hk=>hk.imp id fun h=>⟨by omega,h.2⟩) vs hrep,hrg,hcl⟩
    rw[hm3.cell _ _ (by omega) (fun h=>h.elim (fun h=>by have:M=r:=h; omega) fun h=>by have:=h.2.1; omega)]
    exact hver2
 cases hfx:fx with
 | false=>
  subst hfx
  exact tail (σ4:=σ3) (is:=6) (by omega) (fun h=>by cases h) ⟨c2,c4,c5,(fun h=>by cases h),fun _=>rfl⟩ c0
 | true=>
  subst hfx
  simp only [if_true,List.cons_append,List.nil_append]
  refine zaa fun K hK=>zi fun τ=>?_
  simp +decide (disch:=omega) only [bK,bE,BEq.rfl,Nat.reduceAdd,c5]
  refine hK _ _ (zb fun σ4 hσ=>?_)
  have d0:=hσ 0
  have d2:=hσ 2
  have d4:=hσ 4
  have d5:=hσ 5
  have d6:=hσ 6
  simp +decide only [bE,Nat.reduceBeqDiff,BEq.rfl,Nat.reduceAdd,Nat.zero_add,c0,c2,c4,c5] at d0 d2 d4 d5 d6
  clear hσ hK K
  refine zaa fun K hK=>W_move (hK _ _ ?_)
  exact tail (σ4:=σ4) (is:=7) (by omega) (fun _=>rfl) ⟨d2,d4,d5,(fun _=>d6),fun h=>by cases h⟩ d0
theorem zxv (B:Base P N) (F:Fns P N) {m:Msg} {fx:Bool} (hvin:m.vin=false) (hm:MsgT P N m fx) {f:FuncId} (hf:FOk P f 3 (m.gen N fx) [.var 3]) {w:World} {lo hi M:Nat} {v e:Value} {nl u:Bool} {l:List UInt8} {ver:Int}
  (hb:zbz w lo hi v nl l) (hhi:hi≤w.heap.size) (ht:w.there M 0 (m.fs.sz+1)) (hM:M < w.heap.size) (hMs:M < lo∨hi≤M) (hMg:M≠N.zj) (hver:w.cell? ⟨M,0,none⟩=some (.int .i16 ver)) {zs:List Value} (hz:w.rangeAt M 1 zs) (hp:m.fs.pre zs)
  (he:w.cell? ⟨N.zj,0,none⟩=some e) (hei:∃ te ve,e=.iface te ve) :
  Call P f #[.pointer (some ⟨M,0,none⟩),v,.bool u] w (zyl N m (m.rd fx ver ⟨l,false,nl⟩) lo hi M ver e w):=by
 refine hf.call rfl fun loc N' hlo=>?_
 unfold Msg.gen
 rw[hvin]
 simp only [Bool.false_eq_true,if_false,List.append_nil,List.nil_append,List.cons_append]
 refine zfp (by simp) ?_
 refine zaa fun K hK=>zao (hK _ _ ?_)
 clear hK K
 obtain⟨σ1,hσ1⟩:∃ σ1,σ1=upd (zdf #[.pointer (some ⟨M,0,none⟩),v,.bool u]) 3 .nilIface:=⟨_,rfl⟩
 have a0:σ1 0=.pointer (some ⟨M,0,none⟩):=by rw[hσ1,zg (by decide)]; rfl
 have a1:σ1 1=v:=by rw[hσ1,zg (by decide)]; rfl
 have a2:σ1 2=.bool u:=by rw[hσ1,zg (by decide)]; rfl
 rw[← hσ1]
 clear hσ1
 refine zaa fun K hK=>zi fun τ=>?_
 simp +decide (disch:=omega) only [bK,bE,Nat.zero_add,a0]
 rw[zan hm.dflt.has]
 simp +decide (disch:=omega) only [bK,bE,BEq.rfl]
 refine(msg_dflt B hm ht hM hz hp).mono ?_
 rintro _ w1 ⟨hm1,hini1⟩
 simp +decide (disch:=omega) only [zai,locs_envOf]
 refine hK _ _ ?_
 clear hK K
 have hs1:=hm1.size
 have hb1:zbz w1 lo hi v nl l:=hb.mod hm1 hhi fun k o h1 h2 h=>by have:k=M:=h.1; omega
 refine zaa fun K hK=>W_mkReader B a1 hb1 (by omega) fun w2 hs2 hm2 hr2=>hK _ _ ?_
 clear hK K
 have hm02:Mod w w2 (rng M 1 m.fs.sz):=hm1.trans hm2 fun k o _ h=>h.elim id False.elim
 have hver2:w2.cell? ⟨M,0,none⟩=some (.int .i16 ver):=by rw[hm02.cell _ _ hM (fun h=>by have:=h.2.1; omega)]; exact hver
 have hini2:w2.rangeAt M 1 m.fs.ini:=hm2.rangeAt (by omega) (fun _ _ _ h=>h) hini1
 have he2:w2.cell? ⟨N.zj,0,none⟩=some e:=by
  rw[hm02.cell _ _ (zde (by rw[he]; rfl)) (fun h=>hMg h.1.symm)]; exact he
 obtain⟨r,hrr⟩:∃ r,r=w1.heap.size:=⟨_,rfl⟩
 rw[← hrr] at hr2 ⊢
 obtain⟨σ2,hσ2⟩:∃ σ2,σ2=upd σ1 4 (.pointer (some ⟨r,0,none⟩)):=⟨_,rfl⟩
 have b0:σ2 0=.pointer (some ⟨M,0,none⟩):=by rw[hσ2,zg (by decide)]; exact a0
 have b2:σ2 2=.bool u:=by rw[hσ2,zg (by decide)]; exact a2
 have b4:σ2 4=.pointer (some ⟨r,0,none⟩):=by rw[hσ2]; exact upd_same _ _ _
 rw[← hσ2]
 clear hσ2
 have hgl:=zde (show (w.cell? ⟨N.zj,0,none⟩).isSome=true by rw[he]; rfl)
 have:=W_rdRest B F hm hlo (w:=w) (w2:=w2) (lo:=lo) (hi:=hi) (M:=M) (r:=r) (e:=e) (u:=u) (s:=⟨l,false,nl⟩) (ver:=ver) (σ2:=σ2) hMs hM hMg hgl (by omega) (hm02.mono fun _ _ _ h=>h.1) (hm02.there hM ht) hver2 hini2 he2 hei hr2 b0 b2 b4
 simpa only [List.append_nil,List.nil_append,List.cons_append,List.append_assoc] using this
end
section
variable {P:Program} {N:Nums}
theorem tyOk_ptr (B:Base P N) (F:Fns P N) {fx:Bool} {T' pT:TypeId} {f:FuncId} {fs:Fds} {d:TypeDesc} {by':Nat} {z:Value} (hI:N.zdt≠0) (h8:N.zjd≠0) (hO:N.zeg≠0) (hp:TI P pT (.pointer T') 1 8 (.pointer none)) (ht:TI P T' d fs.sz by' z) (hz:z.cells.toList=fs.zero) (hf:DfOk P f fs) (hfs:zvs P N fx fs) (hhf:fs.hf P T' 0 0):TyOk P N fx (.ptr T' pT f fs):=by
 intro loc N' Q σ w lo hi r s e u fl ver is b oo Tt idx off n kb hlo hx hinv hpl his hT hini hn hisn hQ
 rw[Ty.gen]
 unfold cPtr
 have hini0:w.cell? ⟨b,oo+off,none⟩=some (.pointer none):=hini 0 _ rfl
 have hQ:FQ N lo hi r n b (oo+off) 1 e σ w (if i8P s=-1∨(PK.i8.rd s).2.bad=true then some (.nilP,(PK.i8.rd s).2) else (match fs.rd ver fl (PK.i8.rd s).2 with | none=>none | some (l,s)=>some (.ptr l,s))) Q:=by
  rw[Ty.rd] at hQ; exact hQ
 obtain⟨x,hx8,_⟩:=rd8 s
 have hi8:i8P s=x:=by unfold i8P; rw[hx8]
 rw[hi8] at hQ
 have hpl:Pl N w lo hi r b (oo+off) 1:=hpl
 have hbr:=hpl.br
 have hbs:=hpl.bs
 have hblt:=hpl.lt
 have hrl:=hinv.rd.lt
 have hhi:=hinv.rd.hi_le
 refine zd fun K hK=>zjr (r:=r) (F.PReader_Int8 hI).has hx.rd (zabt B F hI h8 w lo hi r s hinv.rd) fun v w1 ⟨hv,hr1,hm1⟩=>hK _ _ ?_
 clear hK K
 have hv:v=.int .i8 x:=hv.trans hx8
 subst hv
 obtain⟨σ1,hσ1⟩:∃ σ1,σ1=upd σ n (.int .i8 x):=⟨_,rfl⟩
 have a1:Ag n σ σ1:=by rw[hσ1]; exact(Ag.refl n σ).upd (Nat.le_refl _)
 have f1:σ1 n=.int .i8 x:=by rw[hσ1]; exact upd_same _ _ _
 rw[← hσ1]
 clear hσ1
 have f4:σ1 4=.pointer (some ⟨r,0,none⟩):=by rw[a1 4 (by omega)]; exact hx.rd
 have hm1s:=hm1.size
 have hini1:∀ {w':World},Mod w w' (blk r)→w'.rangeAt b (oo+off) [.pointer none]:=fun hm=>hm.rangeAt hblt (fun i _ _ e=>hbr e) hini
 have no:∀ (σ':Env) (w':World),Ag n σ σ'→Mod w w' (blk r)→RdAt w' lo hi r (PK.i8.rd s).2→(x=-1∨(PK.i8.rd s).2.bad=true)→Q .normal σ' w':=by
  intro σ' w' ha hm hr hc
  rw[if_pos hc] at hQ
  exact hQ σ' w' [.pointer none] ha hr (hm.mono fun _ _ _ h=>.inl h) (hini1 hm) rfl (by simp only [Rep])
 have yes:∀ (σ':Env) (w':World),Ag n σ σ'→Mod w w' (blk r)→RdAt w' lo hi r (PK.i8.rd s).2→¬ (x=-1∨(PK.i8.rd s).2.bad=true)→W P loc N' (seqs (.ops [⟨some 0,.move (V is),0,none,[]⟩,⟨some 1,.alloc T',0,none,[]⟩,⟨some 2,.nilCheck (T 0),0,none,[]⟩,⟨some 3,.fieldAddr Tt (T 2) idx,0,none,[]⟩,⟨none,.store pT (T 3) (T 1),0,none,[]⟩] ::
   .ops [⟨some 0,.move (V is),0,none,[]⟩,⟨some 1,.nilCheck (T 0),0,none,[]⟩,⟨some 2,.fieldAddr Tt (T 1) idx,0,none,[]⟩,⟨some 3,.load pT (T 2),0,none,[]⟩,⟨some (n+2+100),.assign (T 3),0,none,[]⟩] ::
   cDflt N f pT (n+2) :: zqt (n+3) (n+2) :: fs.gen N fx (n+3) T' 0 (n+4) kb)) Q σ' w':=by
  intro σ2 w2 a2 hm2 hr2 hc
  rw[if_neg hc] at hQ
  have his2:σ2 is=.pointer (some ⟨b,oo,none⟩):=by rw[a2 is hisn]; exact his
  have s2:=hm2.size
  obtain⟨w3,hw3⟩:∃ w3,w3=w2.alloc (.cells z.cells T'):=⟨_,rfl⟩
  have m3:Mod w2 w3 zy:=by rw[hw3]; exact Mod.alloc _ _ _
  have s3:w3.heap.size=w2.heap.size+1:=by rw[hw3]; exact zav _ _
  have rB:w3.rangeAt w2.heap.size 0 fs.zero:=by rw[hw3,← hz]; exact zr w2 _ _ _
  have tB:w3.there w2.heap.size 0 fs.sz:=by
   have:=zbq w2 z.cells T'
   rw[hw3]
   intro j hj
   refine this j ?_
   rw[← Array.length_toList,hz,Fds.zero_length]; exact hj
  have hm3:Mod w w3 (blk r):=hm2.trans' (m3.mono fun _ _ _ h=>h.elim)
  have hpl3:=hpl.mod hm3
  have st:=hp.run_store1 (w:=w3) (b:=b) (o:=oo+off) (v:=.pointer (some ⟨w2.heap.size,0,none⟩)) rfl hpl3.there
  refine zfp (by simp) ?_
  refine zaa fun K hK=>zi fun τ=>?_
  simp +decide (disch:=omega) only [bK,bE,Nat.reduceBeqDiff,BEq.rfl,his2,ht.run_alloc]
  rw[← hw3]
  rw[zw (a:=⟨b,oo,none⟩) (by simp +decide only [bK,bE,Nat.reduceBeqDiff,BEq.rfl])]
  simp +decide (disch:=omega) only [bK,bE,Nat.reduceBeqDiff,BEq.rfl,hT.run,st,zai,locs_envOf]
  refine hK _ _ ?_
  clear hK K
  obtain⟨w4,hw4⟩:∃ w4,w4=w3.setCell ⟨b,oo+off,none⟩ (.pointer (some ⟨w2.heap.size,0,none⟩)):=⟨_,rfl⟩
  have m4:Mod w3 w4 (rng b (oo+off) 1):=by rw[hw4]; exact Mod.setCell fun _=>⟨rfl,Nat.le_refl _,by omega⟩
  have c4:w4.cell? ⟨b,oo+off,none⟩=some (.pointer (some ⟨w2.heap.size,0,none⟩)):=by rw[hw4]; exact World.cell?_setCell_same _ _ _ (hini1 hm3 0 _ rfl)
  rw[← hw4]
  clear hw4
  have s4:=m4.size
  have hbw:b < w2.heap.size:=by omega
  refine zaa fun K hK=>zi fun τ=>?_
  simp +decide (disch:=omega) only [bK,bE,BEq.rfl,his2]
  rw[zw rfl]
  simp +decide (disch:=omega) only [bK,bE,BEq.rfl,hT.run,hp.run_load1 rfl,c4,zk,zai,locs_envOf]
  refine hK _ _ ?_
  clear hK K
  obtain⟨σ3,hσ3⟩:∃ σ3,σ3=upd σ2 (n+2) (.pointer (some ⟨w2.heap.size,0,none⟩)):=⟨_,rfl⟩
  have a3:Ag n σ σ3:=by rw[hσ3]; exact a2.upd (by omega)
  have f3:σ3 (n+2)=.pointer (some ⟨w2.heap.size,0,none⟩):=by rw[hσ3]; exact upd_same _ _ _
  have hgen:∀ {l:List C},WL P loc N' l Q σ3 w4→WL P loc N' l Q (upd σ2 (n+2) (.pointer (some ⟨w2.heap.size,0,none⟩))) w4:=fun h=>hσ3 ▸ h
  refine hgen ?_
  clear hgen hσ3
  have rB4:w4.rangeAt w2.heap.size 0 fs.zero:=m4.rangeAt (by omega) (fun i _ _ h=>by have:=h.1; omega) rB
  have tB4:w4.there w2.heap.size 0 fs.sz:=m4.there (by omega) tB
  refine zaa fun K hK=>zi fun τ=>?_
  simp +decide (disch:=omega) only [bK,bE,f3]
  rw[zan hf.1]
  simp +decide (disch:=omega) only [bK,bE,BEq.rfl]
  refine(hf.2 w4 w2.heap.size 0 tB4 (by omega) rB4).mono ?_
  rintro _ w5 ⟨m5,ini5⟩
  simp +decide (disch:=omega) only [zai,locs_envOf]
  refine hK _ _ ?_
  clear hK K
  refine zaa fun K hK=>zgp (hK _ _ ?_)
  clear hK K
  rw[f3]
  obtain⟨σ4,hσ4⟩:∃ σ4,σ4=upd σ3 (n+3) (.pointer (some ⟨w2.heap.size,0,none⟩)):=⟨_,rfl⟩
  have a4:Ag n σ σ4:=by rw[hσ4]; exact a3.upd (by omega)
  have f5:σ4 (n+3)=.pointer (some ⟨w2.heap.size,0,none⟩):=by rw[hσ4]; exact upd_same _ _ _
  rw[← hσ4]
  clear hσ4
  have s5:=m5.size
  have M5:Mod w w5 (orM (blk r) (rng b (oo+off) 1)):=(hm3.trans m4 fun k o _ h=>h).trans m5 fun k o hk h=>h.elim id fun h=>by have:=h.1; omega
  have hr5:RdAt w5 lo hi r (PK.i8.rd s).2:=((hr2.mod m3 (fun _ h=>h) fun _ _ _ _ h=>h).mod m4 (fun o h=>hbr h.1.symm) fun k o h1 h2 h=>by have:=h.1; omega).mod m5 (fun o h=>by have:=h.1; omega) fun k o h1 h2 h=>by have:=h.1; omega
  have hinv5:=hinv.mod hpl.bg M5 hr5
  have hgl:=zde (show (w.cell? ⟨N.zj,0,none⟩).isSome=true by rw[hinv.er]; rfl)
  have pl5:Pl N w5 lo hi r w2.heap.size (0+0) fs.sz:=⟨m5.there (by omega) tB4,by omega,by omega,.inr (by omega),by omega⟩
  have c5:w5.cell? ⟨b,oo+off,none⟩=some (.pointer (some ⟨w2.heap.size,0,none⟩)):=by rw[m5.cell _ _ (by omega) (fun h=>by have:=h.1; omega)]; exact c4
  refine hfs (s:=(PK.i8.rd s).2) (e:=e) (oo:=0) (off:=0) (b:=w2.heap.size) hlo (hx.ag a4 hn) hinv5 pl5 f5 hhf ini5 (by omega) (by omega) ?_
  have tot:∀ {w6:World},Mod w5 w6 (orM (blk r) (rng w2.heap.size (0+0) fs.sz))→Mod w w6 (orM (blk r) (rng b (oo+off) 1)):=fun h=>M5.trans h fun k o hk h=>h.elim id fun h=>h.elim .inl fun h=>by have:=h.1; omega
  cases hrd:fs.rd ver fl (PK.i8.rd s).2 with
  | none=>
   rw[hrd] at hQ
   exact fun σ' w' h3 hm=>hQ σ' w' h3 (tot hm)
  | some y=>
   obtain⟨l,s'⟩:=y
   rw[hrd] at hQ
   intro σ5 w6 css a6 hr6 hm6 hrg6 hl6 _ hrep6
   have s6:=hm6.size
   refine hQ σ5 w6 [.pointer (some ⟨w2.heap.size,0,none⟩)] (a4.trans a6 (by omega)) hr6 (tot hm6) (zfe.2 ?_) rfl ?_
   ·rw[hm6.cell _ _ (by omega) (fun h=>h.elim (fun h=>hbr h) fun h=>by have:=h.1; omega)]; exact c5
   ·simp only [Rep]
    exact⟨w2.heap.size,css,rfl,.inr ⟨by omega,by omega⟩,RepL.mono (fun k hk=>hk.imp id fun h=>⟨by omega,h.2⟩) l hrep6,hrg6⟩
 have u1:∀ (bb:Bool),Ag n σ (upd σ1 (n+1) (.bool bb)):=fun bb=>a1.upd (by omega)
 refine zd fun K hK=>zi fun τ=>?_
 by_cases hneg:x=-1
 ·have hb:(x != -1)=false:=by rw[hneg]; rfl
  simp +decide (disch:=omega) only [bK,bE,BEq.rfl,f1,hb]
  refine Eq.mpr (zbi (by simp +decide only [bE,BEq.rfl]; rfl)) ?_
  simp +decide (disch:=omega) only [bK,bE,Nat.reduceBeqDiff,BEq.rfl,if_false,zca,zk,zai,locs_envOf]
  refine hK _ _ (W_if hlo (upd_same _ _ _) ?_)
  rw[if_neg (by decide)]
  exact zbd (no _ w1 (u1 _) hm1 hr1 (.inl hneg))
 ·have hb:(x != -1)=true:=by simpa using hneg
  simp +decide (disch:=omega) only [bK,bE,BEq.rfl,f1,hb]
  refine Eq.mpr (zap (by simp +decide only [bE,BEq.rfl])) ?_
  rw[zan (F.PReader_Ok hO).has]
  simp +decide (disch:=omega) only [bK,bE,Nat.reduceBeqDiff,Nat.reduceAdd,f4]
  refine(rd_Ok B F hO w1 lo hi r _ hr1).mono ?_
  rintro v w2 ⟨rfl,hr2,hm2⟩
  have hm02:=hm1.trans' hm2
  simp +decide (disch:=omega) only [bK,bE,Nat.reduceBeqDiff,BEq.rfl,if_true,zca,zk,zai,locs_envOf]
  refine hK _ _ (W_if hlo (upd_same _ _ _) ?_)
  cases hbd:(PK.i8.rd s).2.bad with
  | true=>
   rw[if_neg (by simp; exact hbd)]
   exact zbd (no _ w2 (u1 _) hm02 hr2 (.inr hbd))
  | false=>
   rw[if_pos (by simp; exact hbd)]
   exact yes _ w2 (u1 _) hm02 hr2 (fun h=>h.elim hneg fun h=>by rw[hbd] at h; cases h)
end
section
variable {P:Program} {N:Nums}
theorem run_eqlMap {t a b:TypeId} (h:P.underlying t=some (.map a b)) {x y:Operand} {m:Option Nat} {w:World} :
  (do eqGuard .eql t x y (.map m) (.map none); binOp .eql t (.map m) (.map none):Sem Value).run P w=.ok (.bool m.isNone) w:=by
 have e:(Op.equal t (.map m) (.map none)).run P w=.ok m.isNone w:=by
  unfold Op.equal Op.maxDepth
  rw[show (10000:Nat)=9999+1 from rfl]
  unfold Op.equalIn
  rw[Sem.run_bind,run_underlying h,Result.andThen_ok]
  cases m<;>rfl
 have e1:(eqGuard .eql t x y (.map m) (.map none)).run P w=.ok () w:=rfl
 rw[Sem.run_bind,e1,Result.andThen_ok]
 show ((do pure (.bool (← Op.equal t (.map m) (.map none))):Sem Value)).run P w=_
 rw[Sem.run_bind,e,Result.andThen_ok]
 rfl
theorem Mod.setMap {w:World} {r:Nat} {es es':Array MapEntry} {ck ck':Nat} (h:w.heap[r]?=some (.map es ck)):Mod w { w with heap:=w.heap.setIfInBounds r (.map es' ck') } (blk r):=by
 obtain⟨h1,h2⟩:=MapKept.heap_set (o':=.map es' ck') h
 refine⟨rfl,rfl,rfl,by simp,fun k hk hn=>h2 k fun e=>hn 0 e,fun k o hk hn=>?_,fun k o hk=>?_,fun k o hk=>?_,fun k hk=>?_⟩
 ·exact World.cell?_of_block (h2 k fun e=>hn e)
 ·by_cases e:k=r
  ·subst e
   simp only [World.cell?,h1,h]
  ·rw[World.cell?_of_block (h2 k e)]
 ·by_cases e:k=r
  ·subst e
   simp only [World.frozen?,h1,h]
  ·rw[World.frozen?_of_block (h2 k e)]
 ·by_cases e:k=r
  ·subst e
   simp only [World.shape?,h1,h]
  ·simp only [World.shape?,h2 k e]
def tagV (w:World) (G:Nat→Prop) (v:Value) (l:List UInt8):Prop:=(l=[]∧∃ ad c,v=.slice ad 0 c)∨OctG w G v (some l)
theorem find_tag {w:World} {G:Nat→Prop} {k:Nat} {v:Value} {vl:List UInt8} (hv:tagV w G v vl):∀ (l:List (Nat × List UInt8)) (es:List MapEntry) (i0:Nat),zcf w G l es→(l.map Prod.fst).Nodup→
  (∃ i val x,Instr.findNow (.int .u32) (.int .u32 k) es i0=some (some (i0+i,val))∧es[i]?=some x∧x.key=.int .u32 k∧(l.map Prod.fst).contains k=true ∧
   zcf w G (l.map fun x=>if x.1=k then (k,vl) else x) (es.modify i fun e=>{ e with key:=.int .u32 k,val:=v })) ∨
  (Instr.findNow (.int .u32) (.int .u32 k) es i0=some none∧(l.map Prod.fst).contains k=false)
 | [],es,i0,he,_=>by
  simp only [zcf] at he
  subst he
  exact .inr ⟨rfl,rfl⟩
 | (k',l') :: l,es,i0,he,hnd=>by
  obtain⟨v',b,rest,rfl,h2,h3⟩:=he
  simp only [List.map_cons,List.nodup_cons] at hnd
  by_cases hk:k'=k
  ·subst hk
   left
   refine⟨0,v',⟨.int .u32 k',v',b⟩,by simp [Instr.findNow,Instr.sameNow],rfl,rfl,by simp,?_⟩
   have hrest:(l.map fun x=>if x.1=k' then (k',vl) else x)=l:=by
    conv=>rhs; rw[← List.map_id l]
    refine List.map_congr_left fun x hx=>?_
    have:x.1≠k':=fun e=>hnd.1 (List.mem_map.2 ⟨x,hx,e⟩)
    simp [this]
   simp only [List.map_cons,if_true,hrest,List.modify_zero_cons,zcf]
   exact⟨v,b,rest,rfl,hv,h3⟩
  ·have hk2:((k:Int) == (k':Int))=false:=by
    have:(k:Int)≠(k':Int):=by omega
    simpa using this
   rcases find_tag hv l rest (i0+1) h3 hnd.2 with⟨i,val,x,g1,g2,g3,g4,g5⟩ | ⟨g1,g2⟩
   ·left
    refine⟨i+1,val,x,?_,by simpa using g2,g3,?_,?_⟩
    ·simp only [Instr.findNow,Instr.sameNow,if_true,hk2,g1]
     congr 3; omega
    ·simp only [List.map_cons,List.contains_cons,g4,Bool.or_true]
    ·simp only [List.map_cons,if_neg hk,List.modify_succ_cons,zcf]
     exact⟨v',b,_,rfl,h2,g5⟩
   ·right
    refine⟨by simp only [Instr.findNow,Instr.sameNow,if_true,hk2,g1],?_⟩
    have:(k == k')=false:=by simpa using fun e=>hk e.symm
    simp only [List.map_cons,List.contains_cons,g2,this,Bool.or_false]
theorem zcf.append {w:World} {G:Nat→Prop} {k b:Nat} {v:Value} {vl:List UInt8} (hv:tagV w G v vl):∀ {l:List (Nat × List UInt8)} {es:List MapEntry},zcf w G l es→zcf w G (l++[(k,vl)]) (es++[⟨.int .u32 k,v,b⟩])
 | [],es,he=>by
  simp only [zcf] at he
  subst he
  exact⟨v,b,[],rfl,hv,rfl⟩
 | (k',l') :: l,es,⟨v',b',rest,h1,h2,h3⟩=>by
  subst h1
  exact⟨v',b',_,rfl,h2,zcf.append hv h3⟩
theorem tput_keys {l:List (Nat × List UInt8)} {k:Nat} {v:List UInt8} (hn:(l.map Prod.fst).Nodup):((tput l k v).map Prod.fst).Nodup∧∀ x∈tput l k v,x.1=k∨x.1∈l.map Prod.fst:=by
 unfold tput
 split
 ·rename_i hc
  have e:(l.map fun x=>if x.1=k then (k,v) else x).map Prod.fst=l.map Prod.fst:=by
   rw[List.map_map]
   refine List.map_congr_left fun x _=>?_
   simp only [Function.comp]
   split
   ·rename_i h; exact h.symm
   ·rfl
  rw[e]
  refine⟨hn,fun x hx=>?_⟩
  have:x.1∈(l.map fun x=>if x.1=k then (k,v) else x).map Prod.fst:=List.mem_map.2 ⟨x,hx,rfl⟩
  rw[e] at this
  exact .inr this
 ·rename_i hc
  refine⟨?_,fun x hx=>?_⟩
  ·rw[List.map_append,List.nodup_append]
   refine⟨hn,by simp,fun a ha b hb=>?_⟩
   simp at hb
   subst hb
   intro e
   subst e
   exact hc (by simpa using ha)
  ·rcases List.mem_append.1 hx with hx | hx
   ·exact .inr (List.mem_map.2 ⟨x,hx,rfl⟩)
   ·simp at hx; subst hx; exact .inl rfl
theorem run_setTag (B:Base P N) (hT:N.zcy≠0) {w:World} {G:Nat→Prop} {mr:Nat} {l:List (Nat × List UInt8)} {es:Array MapEntry} {ck k:Nat} {v:Value} {vl:List UInt8} (hv:tagV w G v vl) (hk:k < 4294967296)
  (hb:w.heap[mr]?=some (.map es ck)) (h4:∀ e∈es.toList,e.born < ck) (h5:(es.toList.map MapEntry.born).Nodup) (h6:zcf w G l es.toList) (h7:(l.map Prod.fst).Nodup) (h8:∀ x∈l,x.1 < 4294967296) :
  ∃ w' es' ck',(Instr.mapUpdate N.zab (.map (some mr)) (.int .u32 k) v).run P w=.ok () w'∧Mod w w' (blk mr)∧w'.heap.size=w.heap.size∧w'.heap[mr]?=some (.map es' ck')∧(∀ e∈es'.toList,e.born < ck')∧(es'.toList.map MapEntry.born).Nodup ∧
   zcf w G (tput l k vl) es'.toList∧((tput l k vl).map Prod.fst).Nodup∧∀ x∈tput l k vl,x.1 < 4294967296:=by
 obtain⟨_,_,hmap⟩:=B.tags hT
 have hkeys:=tput_keys (k:=k) (v:=vl) h7
 have hbound:∀ x∈tput l k vl,x.1 < 4294967296:=fun x hx=>by
  rcases hkeys.2 x hx with h | h
  ·omega
  ·obtain⟨y,hy,e⟩:=List.mem_map.1 h
   rw[← e]; exact h8 y hy
 have hck:=MapKept.run_checkKey (P:=P) (w:=w) (k:=.int .u32 k) B.uint32.und rfl false 9999
 have hgo:=MapKept.run_getObj_map (P:=P) hb
 rcases find_tag (k:=k) hv l es.toList 0 h6 h7 with⟨i,val,x,g1,g2,g3,g4,g5⟩ | ⟨g1,g2⟩
 ·have hfk:=MapKept.run_findKey (P:=P) (w:=w) (k:=.int .u32 k) B.uint32.und g1
  have hks:=MapKept.run_keyThatStays (P:=P) (w:=w) (d:=.int .u32) (k:=.int .u32 k) rfl
  have hi:es[i]?=some x:=by simpa using g2
  have hold:(((es[i]?).map (·.key)).getD (.int .u32 k))=.int .u32 k:=by rw[hi]; simpa using g3
  have hso:=MapKept.run_setObj_map (P:=P) (.map (es.modify i fun e=>{ e with key:=.int .u32 k,val:=v }) ck) hb
  refine⟨_,es.modify i (fun e=>{ e with key:=.int .u32 k,val:=v }),ck,?_,Mod.setMap hb,by simp,(MapKept.heap_set hb).1,?_,?_,?_,hkeys.1,hbound⟩
  ·simp only [Instr.mapUpdate,Sem.run_bind,hmap.run_und,Result.andThen_ok,hgo,hck,hfk,Nat.zero_add,hold,hks,hso]
  ·intro e he
   rw[Array.toList_modify] at he
   obtain⟨j,hj⟩:=List.getElem?_of_mem he
   rw[List.getElem?_modify] at hj
   cases hx:es.toList[j]? with
   | none=>rw[hx] at hj; simp at hj
   | some y=>
    rw[hx] at hj
    have hy:=h4 y (List.mem_of_getElem? hx)
    simp at hj
    split at hj<;>(subst hj; exact hy)
  ·have:(es.modify i fun e=>{ e with key:=.int .u32 k,val:=v }).toList.map MapEntry.born=es.toList.map MapEntry.born:=by
    rw[Array.toList_modify]
    apply List.ext_getElem?
    intro j
    rw[List.getElem?_map,List.getElem?_modify,List.getElem?_map]
    cases es.toList[j]? with
    | none=>rfl
    | some y=>simp; split<;>rfl
   rw[this]; exact h5
  ·unfold tput
   rw[if_pos g4,Array.toList_modify]
   exact g5
 ·have hfk:=MapKept.run_findKey (P:=P) (w:=w) (k:=.int .u32 k) B.uint32.und g1
  have hso:=MapKept.run_setObj_map (P:=P) (.map (es.push ⟨.int .u32 k,v,ck⟩) (ck+1)) hb
  refine⟨_,es.push ⟨.int .u32 k,v,ck⟩,ck+1,?_,Mod.setMap hb,by simp,(MapKept.heap_set hb).1,?_,?_,?_,hkeys.1,hbound⟩
  ·simp only [Instr.mapUpdate,Sem.run_bind,hmap.run_und,Result.andThen_ok,hgo,hck,hfk,hso]
  ·intro e he
   simp at he
   rcases he with he | he
   ·have:=h4 e (by simpa using he); omega
   ·subst he; simp
  ·simp only [Array.toList_push,List.map_append,List.map_cons,List.map_nil]
   rw[List.nodup_append]
   refine⟨h5,by simp,fun a ha b hb'=>?_⟩
   simp at hb'
   subst hb'
   obtain⟨y,hy,e⟩:=List.mem_map.1 ha
   have:=h4 y hy
   omega
  ·unfold tput
   rw[if_neg (by rw[g2]; simp),Array.toList_push]
   exact zcf.append hv h6
end
section
variable {P:Program} {N:Nums}
theorem tagV.mod {w w':World} {M:Nat→Nat→Prop} {G G':Nat→Prop} (h:Mod w w' M) (hG:∀ k,G k→k < w.heap.size∧(∀ o,¬ M k o)∧G' k) {v:Value} {l:List UInt8} (hb:tagV w G v l):tagV w' G' v l:=
 hb.imp (fun x=>⟨x.1,x.2⟩) fun x=>x.mod h hG
def zms (w:World) (G:Nat→Prop) (c:Nat) (v:Value) (l:List (Nat × List UInt8)):Prop:=
 (v=.map none∧l=[])∨∃ m es ck,v=.map (some m)∧c≤m∧m < w.heap.size∧w.heap[m]?=some (.map es ck)∧(∀ e∈es.toList,e.born < ck)∧(es.toList.map MapEntry.born).Nodup∧zcf w G l es.toList∧(l.map Prod.fst).Nodup∧∀ x∈l,x.1 < 4294967296
theorem zaai (B:Base P N) (F:Fns P N) (hN:N.zcz≠0) (hT:N.zcy≠0) {w:World} {G:Nat→Prop} {b q c k:Nat} {m v:Value} {l:List (Nat × List UInt8)} {vl:List UInt8}
  (hc:w.cell? ⟨b,q,none⟩=some m) (ht:w.there b q 1) (htg:zms w G c m l) (hbc:b < c) (hcw:c≤w.heap.size) (hG:∀ i,G i→i < c∧i≠b) (hv:tagV w G v vl) (hk:k < 4294967296) :
  Call P N.zcz #[.pointer (some ⟨b,q,none⟩),.int .u32 k,v] w fun _ w'=>∃ m',w'.cell? ⟨b,q,none⟩=some m'∧m'.oneCell'=true∧zms w' G c m' (tput l k vl)∧(∀ j,m'=.map (some j)→m=.map (some j)∨w.heap.size≤j)∧Mod w w' fun i o=>(i=b∧o=q)∨m=.map (some i):=by
 obtain⟨_,hHF,hmap⟩:=B.tags hT
 have hb:=zwz ht (by omega)
 refine(F.PTags_Set hN).call rfl fun loc N' hlo=>?_
 unfold zut
 obtain⟨σ,hσ⟩:∃ σ,σ=zdf #[.pointer (some ⟨b,q,none⟩),.int .u32 k,v]:=⟨_,rfl⟩
 have f0:σ 0=.pointer (some ⟨b,q,none⟩):=by rw[hσ]; rfl
 have f1:σ 1=.int .u32 k:=by rw[hσ]; rfl
 have f2:σ 2=v:=by rw[hσ]; rfl
 rw[← hσ]
 clear hσ
 have fin:∀ {σ':Env} {w1:World} {mr:Nat} {l1:List (Nat × List UInt8)},Ag 3 σ σ'→w1.cell? ⟨b,q,none⟩=some (.map (some mr))→zms w1 G c (.map (some mr)) l→c≤w1.heap.size→Mod w w1 (fun i o=>(i=b∧o=q)∨m=.map (some i))→(mr < w.heap.size→m=.map (some mr))→tagV w1 G v vl→
   W P loc N' (.ops [⟨some 0,.move (V 0),0,none,[]⟩,⟨some 1,.nilCheck (T 0),0,none,[]⟩,⟨some 2,.fieldAddr N.zcy (T 1) 0,0,none,[]⟩,⟨some 3,.load N.zab (T 2),0,none,[]⟩,⟨some 4,.move (V 1),0,none,[]⟩,⟨some 5,.move (V 2),0,none,[]⟩,
    ⟨none,.mapUpdate N.zab (T 3) (T 4) (T 5),0,none,[]⟩]) (retQ P [] fun _ w'=>∃ m',w'.cell? ⟨b,q,none⟩=some m'∧m'.oneCell'=true∧zms w' G c m' (tput l k vl)∧(∀ j,m'=.map (some j)→m=.map (some j)∨w.heap.size≤j)∧Mod w w' fun i o=>(i=b∧o=q)∨m=.map (some i)) σ' w1:=by
  intro σ' w1 mr l1 ha hc1 ht1 hcw1 hm1 hmr hv1
  rcases ht1 with⟨h,_⟩ | ⟨m1,es,ck,e1,h1,h2,h3,h4,h5,h6,h7,h8⟩
  ·cases h
  ·cases e1
   obtain⟨w2,es',ck',hrun,hm2,hs2,g1,g2,g3,g4,g5,g6⟩:=run_setTag B hT hv1 hk h3 h4 h5 h6 h7 h8
   have e0:=ha 0 (by omega)
   have e1:=ha 1 (by omega)
   have e2:=ha 2 (by omega)
   rw[f0] at e0
   rw[f1] at e1
   rw[f2] at e2
   refine zi fun τ=>?_
   simp +decide (disch:=omega) only [bK,bE,Nat.reduceBeqDiff,BEq.rfl,Nat.reduceAdd,Nat.zero_add,e0]
   rw[zw rfl]
   simp +decide (disch:=omega) only [bK,bE,Nat.reduceBeqDiff,BEq.rfl,Nat.add_zero,hHF.run,hmap.run_load1 rfl,hc1,e1,e2,zvi,hrun]
   refine⟨.inl rfl,.tuple #[],rfl,.map (some mr),?_,rfl,.inr ⟨mr,es',ck',rfl,h1,by omega,g1,g2,g3,?_,g5,g6⟩,(fun j e=>by
    cases e
    by_cases h:mr < w.heap.size
    ·exact .inl (hmr h)
    ·exact .inr (by omega)),hm1.trans hm2 fun i o hi h=>h.elim id fun h=>.inr (by have e:i=mr:=h; rw[e]; exact hmr (by omega))⟩
   ·rw[hm2.cell _ _ (by omega) (fun h=>by have:b=mr:=h; omega)]; exact hc1
   ·exact g4.mod hm2 fun i hi=>⟨by have:=hG i hi; omega,fun o h=>by have:i=mr:=h; have:=hG i hi; omega,hi⟩
 refine zd fun K hK=>zd fun K1 hK1=>zi fun τ=>?_
 simp +decide (disch:=omega) only [bK,bE,BEq.rfl,Nat.reduceAdd,Nat.zero_add,f0]
 rw[zw rfl]
 have hml:∃ mo,m=.map mo:=by
  rcases htg with⟨h,_⟩ | ⟨m1,es,ck,e1,_⟩
  ·exact⟨_,h⟩
  ·exact⟨_,e1⟩
 obtain⟨mo,rfl⟩:=hml
 simp +decide (disch:=omega) only [bK,bE,BEq.rfl,Nat.add_zero,hHF.run,hmap.run_load1 rfl,hc,run_eqlMap hmap.und]
 refine hK1 _ _ (zb fun σ1 hσ=>?_)
 have a1:Ag 3 σ σ1:=fun i hi=>by
  rw[hσ]
  match i,hi with
  | 0,_=>simp +decide only [bE,Nat.reduceBeqDiff,Nat.zero_add]
  | 1,_=>simp +decide only [bE,Nat.reduceBeqDiff,Nat.reduceAdd]
  | 2,_=>simp +decide only [bE,Nat.reduceBeqDiff,Nat.reduceAdd]
 have a3:=hσ 3
 simp +decide only [bE,BEq.rfl,Nat.reduceAdd] at a3
 clear hσ hK1 K1
 refine W_if hlo a3 ?_
 cases mo with
 | some mr=>
  refine zbd (hK _ _ (fin (l1:=l) a1 hc htg hcw (.refl _ _) (fun _=>rfl) hv))
 | none=>
  have hl:l=[]:=by
   rcases htg with⟨_,h⟩ | ⟨m1,es,ck,e1,_⟩
   ·exact h
   ·cases e1
  subst hl
  simp only [Option.isNone_none,if_true]
  have e0:=a1 0 (by omega)
  rw[f0] at e0
  have hmk:(Instr.makeMap N.zab none).run P w=.ok (.map (some w.heap.size)) (w.alloc (.map #[] 0)):=by
   simp [Instr.makeMap,newObj,Sem.run,bind,Sem.bind]
  obtain⟨w1,hw1⟩:∃ w1,w1=w.alloc (.map #[] 0):=⟨_,rfl⟩
  have m1:Mod w w1 zy:=by rw[hw1]; exact Mod.alloc _ _ _
  have s1:w1.heap.size=w.heap.size+1:=by rw[hw1]; exact zav _ _
  have n1:w1.heap[w.heap.size]?=some (.map #[] 0):=by rw[hw1]; exact zoe _ _
  have t1:w1.there b q 1:=m1.there hb ht
  have st:=hmap.run_store1 (w:=w1) (b:=b) (o:=q) (v:=.map (some w.heap.size)) rfl t1
  have c1:w1.cell? ⟨b,q,none⟩=some (.map none):=by rw[m1.cell _ _ hb (fun h=>h)]; exact hc
  refine zi fun τ=>?_
  rw[hw1] at st
  simp +decide (disch:=omega) only [bK,bE,Nat.reduceBeqDiff,BEq.rfl,Nat.zero_add,Option.map_none,e0,zyz,hmk]
  rw[zw (a:=⟨b,q,none⟩) (by simp +decide only [bK,bE,Nat.reduceBeqDiff,BEq.rfl])]
  simp +decide (disch:=omega) only [bK,bE,Nat.reduceBeqDiff,BEq.rfl,Nat.add_zero,hHF.run,st,zai,locs_envOf]
  rw[← hw1]
  have m2:Mod w1 (w1.setCell ⟨b,q,none⟩ (.map (some w.heap.size))) (fun i o=>i=b∧o=q):=Mod.setCell fun _=>⟨rfl,rfl⟩
  have m02:Mod w (w1.setCell ⟨b,q,none⟩ (.map (some w.heap.size))) (fun i o=>(i=b∧o=q)∨Value.map none=.map (some i)):=m1.trans m2 fun i o _ h=>h.elim False.elim fun h=>.inl h
  have s2:(w1.setCell ⟨b,q,none⟩ (.map (some w.heap.size))).heap.size=w1.heap.size:=by simp [World.setCell]
  refine hK _ _ (fin (l1:=[]) a1 (World.cell?_setCell_same _ _ _ c1) (.inr ⟨w.heap.size,#[],0,rfl,hcw,by omega,?_,by simp,by simp,by simp [zcf],by simp,by simp⟩) (by omega) m02 (fun h=>by omega) ?_)
  ·rw[m2.block _ (by omega) (fun o h=>by have:w.heap.size=b:=h.1; omega)]; exact n1
  ·exact hv.mod m02 fun i hi=>⟨by have:=hG i hi; omega,(fun o h=>h.elim (fun h=>by have:=hG i hi; omega) fun h=>by cases h),hi⟩
theorem call_SetO (B:Base P N) (F:Fns P N) (hN:N.zcz≠0) (hT:N.zcy≠0) {w:World} {G:Nat→Prop} {b q c k:Nat} {m v:Value} {l:List (Nat × List UInt8)} {vl:List UInt8}
  (hc:w.cell? ⟨b,q,none⟩=some m) (ht:w.there b q 1) (htg:zms w G c m l) (hbc:b < c) (hcw:c≤w.heap.size) (hG:∀ i,G i→i < c∧i≠b) (hv:tagV w G v vl) (hk:k < 4294967296) :
  Call P N.zcz #[.pointer (some ⟨b,q,none⟩),.int .u32 k,v] w fun _ w'=>∃ m',w'.cell? ⟨b,q,none⟩=some m'∧m'.oneCell'=true∧zms w' G c m' (tput l k vl)∧Mod w w' fun i o=>(i=b∧o=q)∨c≤i:=
 (zaai B F hN hT hc ht htg hbc hcw hG hv hk).mono fun _ _ ⟨m',h1,h2,h3,_,h4⟩=>⟨m',h1,h2,h3,h4.mono fun i _ _ h=>h.imp id fun h=>by
  rcases htg with⟨e,_⟩ | ⟨mm,_,_,e,h5,_⟩
  ·rw[e] at h; cases h
  ·rw[e] at h; cases h; exact h5⟩
theorem call_Set (B:Base P N) (F:Fns P N) (hN:N.zcz≠0) (hT:N.zcy≠0) {w:World} {G:Nat→Prop} {b c k:Nat} {m v:Value} {l:List (Nat × List UInt8)} {vl:List UInt8}
  (hc:w.cell? ⟨b,0,none⟩=some m) (ht:w.there b 0 1) (htg:zms w G c m l) (hbc:b < c) (hcw:c≤w.heap.size) (hG:∀ i,G i→i < c∧i≠b) (hv:tagV w G v vl) (hk:k < 4294967296) :
  Call P N.zcz #[.pointer (some ⟨b,0,none⟩),.int .u32 k,v] w fun _ w'=>∃ m',w'.cell? ⟨b,0,none⟩=some m'∧m'.oneCell'=true∧zms w' G c m' (tput l k vl)∧Mod w w' fun i _=>i=b∨c≤i:=
 (call_SetO B F hN hT hc ht htg hbc hcw hG hv hk).mono fun _ _ ⟨m',h1,h2,h3,h4⟩=>⟨m',h1,h2,h3,h4.mono fun _ _ _ h=>h.imp And.left id⟩
structure TRnd (lo hi r b1 b2:Nat) (s0:RS) (w0:World) (n:Nat) (σ:Env) (w:World):Prop where
 f0:σ 0=.pointer (some ⟨r,0,none⟩)
 f1:σ 1=.pointer (some ⟨b1,0,none⟩)
 f2:σ 2=.pointer (some ⟨b2,0,none⟩)
 f3:σ 3=.int .u32 n
 lt:n < 4294967296
 st:∃ l s m,RdAt w lo hi r s∧zvh n l s=zvg s0∧w.cell? ⟨b2,0,none⟩=some m∧m.oneCell'=true∧zms w (fun k=>lo≤k∧k < hi) (b2+1) m l
 t1:w.there b1 0 1
 t2:w.there b2 0 1
 c1:w.cell? ⟨b1,0,none⟩=some (.map none)
 mod:Mod w0 w (fun i _=>i=r∨b2≤i)
 size:b2+1≤w.heap.size
theorem tagsOk (B:Base P N) (F:Fns P N) (hN:N.zdu≠0) (hT:N.zcy≠0):TagsOk P N:=by
 have hF:=F.internalReadTags hN
 have hU:=hF.2.2.1
 have hS:=hF.2.1
 have hSet:=hF.2.2.2
 refine⟨hF.1.has,fun w lo hi r s hr=>hF.1.call rfl fun loc N' hlo=>?_⟩
 obtain⟨⟨fs,htg⟩,hHF,hmap⟩:=B.tags hT
 have hrlt:=hr.lt
 have hhi:=hr.hi_le
 unfold zky
 refine zd fun K hK=>zi fun τ=>?_
 simp +decide only [bK,Nat.reduceAdd,htg.run_alloc,zk,locs_envOf]
 refine hK _ _ ?_
 clear hK K
 obtain⟨w1,hw1⟩:∃ w1,w1=w.alloc (.cells (Value.cells (.agg #[.map none])) N.zcy):=⟨_,rfl⟩
 rw[← hw1]
 have m1:Mod w w1 zy:=by rw[hw1]; exact Mod.alloc _ _ _
 have s1:w1.heap.size=w.heap.size+1:=by rw[hw1]; exact zav _ _
 have r1:w1.rangeAt w.heap.size 0 [.map none]:=by rw[hw1]; exact zr w _ _ _
 have t1:w1.there w.heap.size 0 1:=by rw[hw1]; exact zbq w _ _
 clear hw1
 refine zd fun K hK=>zi fun τ=>?_
 simp +decide only [bK,Nat.reduceAdd,htg.run_alloc,zk,locs_envOf]
 refine hK _ _ ?_
 clear hK K
 obtain⟨w2,hw2⟩:∃ w2,w2=w1.alloc (.cells (Value.cells (.agg #[.map none])) N.zcy):=⟨_,rfl⟩
 rw[← hw2]
 have m2:Mod w1 w2 zy:=by rw[hw2]; exact Mod.alloc _ _ _
 have s2:w2.heap.size=w1.heap.size+1:=by rw[hw2]; exact zav _ _
 have r2:w2.rangeAt w1.heap.size 0 [.map none]:=by rw[hw2]; exact zr w1 _ _ _
 have t2:w2.there w1.heap.size 0 1:=by rw[hw2]; exact zbq w1 _ _
 clear hw2
 have m02:Mod w w2 zy:=m1.trans' m2
 have hr2:RdAt w2 lo hi r s:=hr.mod m02 (fun _ h=>h) (fun _ _ _ _ h=>h)
 obtain⟨σ,hσ⟩:∃ σ,σ=upd (upd (zdf #[.pointer (some ⟨r,0,none⟩)]) 1 (.pointer (some ⟨w.heap.size,0,none⟩))) 2 (.pointer (some ⟨w1.heap.size,0,none⟩)):=⟨_,rfl⟩
 have f0:σ 0=.pointer (some ⟨r,0,none⟩):=by rw[hσ,zg (by decide),zg (by decide)]; rfl
 have f1:σ 1=.pointer (some ⟨w.heap.size,0,none⟩):=by rw[hσ,zg (by decide)]; exact upd_same _ _ _
 have f2:σ 2=.pointer (some ⟨w1.heap.size,0,none⟩):=by rw[hσ]; exact upd_same _ _ _
 rw[← hσ]
 clear hσ
 refine zd fun K hK=>zd fun K1 hK1=>zi fun τ=>?_
 simp +decide (disch:=omega) only [bK,bE,Nat.reduceAdd,Nat.zero_add,f0]
 rw[zan (F.PReader_Uvarint hU).1.has]
 simp +decide (disch:=omega) only [bK,bE,BEq.rfl]
 refine(zgr B F hU w2 lo hi r s hr2).mono ?_
 rintro v w3 ⟨rfl,hr3,hm3⟩
 simp +decide (disch:=omega) only [zk,zai,locs_envOf]
 have hs3:=hm3.size
 have hlt:=zlm s
 refine hK1 _ _ (zem (zpk (TRnd lo hi r w.heap.size w1.heap.size s w) (n:=(uvN s).1) ⟨by rw[zg (by decide)]; exact f0,by rw[zg (by decide)]; exact f1,by rw[zg (by decide)]; exact f2,upd_same _ _ _,hlt,⟨[],(uvN s).2,.map none,hr3,rfl,?_,rfl,.inl ⟨rfl,rfl⟩⟩,hm3.there (by omega) (m2.there (by omega) t1),hm3.there (by omega) t2,?_,(m02.trans hm3 fun i o _ h=>h.elim False.elim .inl),by omega⟩ ?_))
 ·rw[hm3.cell _ _ (by omega) (fun h=>by have:w1.heap.size=r:=h; omega)]; exact r2 0 _ rfl
 ·rw[hm3.cell _ _ (by omega) (fun h=>by have:w.heap.size=r:=h; omega),m2.cell _ _ (by omega) (fun h=>h)]; exact r1 0 _ rfl
 clear hK1 K1
 intro n σ1 w4 hI
 obtain⟨l,s4,m,hr4,hrest,hc,hone,htc⟩:=hI.st
 have hsz4:=hI.size
 have hapr:∀ k,lo≤k→k < hi→k < w.heap.size∧k≠r:=fun k h1 h2=>⟨by omega,by have:=hr.apart; omega⟩
 refine zd fun K2 hK2=>zd fun K3 hK3=>zi fun τ=>?_
 have e3:=hI.f3
 simp +decide (disch:=omega) only [bK,bE,BEq.rfl,Nat.reduceAdd,e3,zk,zai,locs_envOf]
 refine hK3 _ _ (W_if hlo (upd_same _ _ _) ?_)
 clear hK3 K3
 cases n with
 | zero=>
  rw[if_neg (by simp)]
  refine zof ?_
  simp only [zfd,inB,if_true]
  refine hK _ _ ?_
  simp only [zvh] at hrest
  obtain⟨σ5,hσ5⟩:∃ σ5,σ5=upd σ1 4 (.bool (decide (((0:Nat):Int) > 0))):=⟨_,rfl⟩
  have g1:σ5 1=.pointer (some ⟨w.heap.size,0,none⟩):=by rw[hσ5,zg (by decide)]; exact hI.f1
  have g2:σ5 2=.pointer (some ⟨w1.heap.size,0,none⟩):=by rw[hσ5,zg (by decide)]; exact hI.f2
  have hgen:∀ {c:C} {Q:Exit→Env→World→Prop},W P loc N' c Q σ5 w4→W P loc N' c Q (upd σ1 4 (.bool (decide (((0:Nat):Int) > 0)))) w4:=fun h=>hσ5 ▸ h
  refine hgen ?_
  clear hgen hσ5
  refine zd fun K4 hK4=>zi fun τ=>?_
  have hld:=htg.run_load (w:=w4) (b:=w1.heap.size) (o:=0) (cs:=[m]) (zfe.2 hc) rfl (fun h=>by cases h)
  have hlv:ldv (.struct fs) [m]=.agg #[m]:=rfl
  have hst:=htg.run_store (w:=w4) (b:=w.heap.size) (o:=0) (v:=.agg #[m]) (cs:=[m]) rfl rfl hI.t1 (fun c hc=>by simp at hc; subst hc; exact hone)
  simp +decide (disch:=omega) only [bK,bE,Nat.reduceBeqDiff,BEq.rfl,Nat.reduceAdd,g1,g2,hld,hlv,hst]
  refine hK4 _ _ (zb fun σ6 hσ=>zbb ⟨.inr rfl,.agg #[m],⟨⟨w.heap.size,0,none⟩,?_,?_⟩,?_⟩)
  ·have:=hσ 1
   simp +decide only [bE,Nat.reduceBeqDiff,Nat.reduceAdd,g1] at this
   exact this
  ·have h2:=zax [m] 0 w4 _ (zfe.2 hI.c1) (Nat.le_refl _)
   have hl2:=htg.run_load (w:=w4.setCells w.heap.size 0 [m]) (b:=w.heap.size) (o:=0) (cs:=[m]) (by simpa using h2) rfl (fun h=>by cases h)
   simpa [Instr.loadAt,Instr.sureAddr,Sem.run_bind,hlv] using hl2
  ·have m5:Mod w4 (w4.setCells w.heap.size 0 [m]) (blk w.heap.size):=Mod.setCells _ 0 _ fun _ _ _ _=>rfl
   have s5:(w4.setCells w.heap.size 0 [m]).heap.size=w4.heap.size:=by simp [World.setCells,World.setCell]
   have hs0:=hI.mod.size
   rw[← hrest]
   refine⟨m,rfl,hone,?_,hr4.mod m5 (fun o h=>by have:r=w.heap.size:=h; omega) (fun k o h1 h2 h=>by have:k=w.heap.size:=h; omega),?_⟩
   ·rcases htc with⟨e1,e2⟩ | ⟨mm,es,ck,e1,h1,h2,h3,h4,h5,h6,h7,h8⟩
    ·exact .inl ⟨e1,e2⟩
    ·refine .inr ⟨mm,es,ck,e1,.inr ⟨by omega,by omega⟩,?_,h4,h5,?_,h7,h8⟩
     ·rw[m5.block _ h2 (fun o h=>by have:mm=w.heap.size:=h; omega)]; exact h3
     ·exact h6.mod m5 fun k hk=>⟨by omega,fun o h=>by have:k=w.heap.size:=h; omega,.inl hk⟩
   ·refine(hI.mod.trans m5 (M:=fun i _=>i=r∨w.heap.size≤i) fun i o _ h=>h.elim (fun h=>h.imp id fun h=>by omega) (fun h=>.inr (by have:i=w.heap.size:=h; omega))).mono fun i o hi h=>h.elim id fun h=>by omega
 | succ n=>
  rw[show decide (((n+1:Nat):Int) > 0)=true from by simp,if_pos rfl]
  refine zbd (hK2 _ _ ?_)
  clear hK2 K2
  obtain⟨σ5,hσ5⟩:∃ σ5,σ5=upd σ1 4 (.bool true):=⟨_,rfl⟩
  have g0:σ5 0=.pointer (some ⟨r,0,none⟩):=by rw[hσ5,zg (by decide)]; exact hI.f0
  have g1:σ5 1=.pointer (some ⟨w.heap.size,0,none⟩):=by rw[hσ5,zg (by decide)]; exact hI.f1
  have g2:σ5 2=.pointer (some ⟨w1.heap.size,0,none⟩):=by rw[hσ5,zg (by decide)]; exact hI.f2
  have g3:σ5 3=.int .u32 ((n+1:Nat):Int):=by rw[hσ5,zg (by decide)]; exact hI.f3
  rw[← hσ5]
  clear hσ5
  refine zd fun K2 hK2=>zem (zd fun K3 hK3=>zi fun τ=>?_)
  simp +decide (disch:=omega) only [bK,bE,Nat.reduceBeqDiff,Nat.reduceAdd,Nat.zero_add,g0]
  rw[zan (F.PReader_Uvarint hU).1.has]
  simp +decide (disch:=omega) only [bK,bE,Nat.reduceBeqDiff,BEq.rfl]
  refine(zgr B F hU w4 lo hi r s4 hr4).mono ?_
  rintro v w5 ⟨rfl,hr5,hm5⟩
  simp +decide (disch:=omega) only [g0]
  rw[zan (F.PReader_Uvarint hU).1.has]
  simp +decide (disch:=omega) only [bK,bE,Nat.reduceBeqDiff,BEq.rfl]
  refine(zgr B F hU w5 lo hi r _ hr5).mono ?_
  rintro v w6 ⟨rfl,hr6,hm6⟩
  simp +decide (disch:=omega) only []
  refine hK3 _ _ (zb fun σ6 hσ=>?_)
  have p0:=hσ 0
  have p1:=hσ 1
  have p2:=hσ 2
  have p3:=hσ 3
  have p5:=hσ 5
  have p6:=hσ 6
  simp +decide only [bE,Nat.reduceBeqDiff,BEq.rfl,Nat.reduceAdd,Nat.zero_add,g0,g1,g2,g3] at p0 p1 p2 p3 p5 p6
  clear hσ hK3 K3
  have hklt:=zlm s4
  have hzlt:=zlm (uvN s4).2
  refine zi fun τ=>?_
  have e1:IntKind.i64.wrap ((uvN (uvN s4).2).1:Int)=((uvN (uvN s4).2).1:Int):=wrap_i64 (by omega) (by omega)
  simp +decide (disch:=omega) only [bK,bE,Nat.reduceBeqDiff,BEq.rfl,Nat.reduceAdd,Nat.zero_add,p0,p5,p6,zat B.uint32 B.int ⟨_,rfl⟩,e1]
  rw[zah (F.PReader_Span hS).has]
  simp +decide (disch:=omega) only [bK,bE,Nat.reduceBeqDiff,BEq.rfl]
  refine(zly B F hS (n:=((uvN (uvN s4).2).1:Int)) hr6).mono ?_
  rintro v w7 ⟨hb7,hr7,hm7⟩
  rw[zit (F.PTags_Set hSet).has]
  simp +decide (disch:=omega) only [bK,bE,Nat.reduceBeqDiff,BEq.rfl,Nat.reduceAdd,p2]
  have hm47:Mod w4 w7 (blk r):=(hm5.trans' hm6).trans' hm7
  have hs7:=hm47.size
  have hc7:w7.cell? ⟨w1.heap.size,0,none⟩=some m:=by rw[hm47.cell _ _ (by omega) (fun h=>by have:w1.heap.size=r:=h; omega)]; exact hc
  have htc7:zms w7 (fun k=>lo≤k∧k < hi) (w1.heap.size+1) m l:=by
   rcases htc with h | ⟨mm,es,ck,e1,h1,h2,h3,h4,h5,h6,h7,h8⟩
   ·exact .inl h
   ·refine .inr ⟨mm,es,ck,e1,h1,by omega,?_,h4,h5,?_,h7,h8⟩
    ·rw[hm47.block _ h2 (fun o h=>by have:mm=r:=h; omega)]; exact h3
    ·exact h6.mod hm47 fun k hk=>⟨by omega,fun o h=>(hapr k hk.1 hk.2).2 h,hk⟩
  have hv7:tagV w7 (fun k=>lo≤k∧k < hi) v (zeu ((uvN (uvN s4).2).1:Int) (uvN (uvN s4).2).2):=by
   rcases hb7 with⟨h0,h1,h2⟩ | ⟨b,o,c,h0,h1,h2,h3,h4⟩
   ·exact .inl ⟨h2,_,_,h1⟩
   ·exact .inr ⟨b,o,c,h1,h2,h3,h4⟩
  refine(call_Set B F hSet hT (c:=w1.heap.size+1) hc7 (hm47.there (by omega) hI.t2) htc7 (by omega) (by omega) (fun i hi=>by omega) hv7 hklt).mono ?_
  rintro _ w8 ⟨m',hc8,hone8,htc8,hm8⟩
  have hs8:=hm8.size
  refine zb (K:=fun σ' w'=>inB 1 (zfd K2 _) .normal σ' w') fun σ8 hσ=>hK2 _ _ ?_
  have q0:=hσ 0
  have q1:=hσ 1
  have q2:=hσ 2
  have q3:=hσ 3
  simp +decide only [bE,Nat.reduceBeqDiff,Nat.reduceAdd,Nat.zero_add,p0,p1,p2,p3] at q0 q1 q2 q3
  clear hσ hK2 K2
  refine zi fun τ=>?_
  have hw:IntKind.u32.wrap (((n+1:Nat):Int) - 1)=(n:Int):=by
   have:=hI.lt
   rw[show (((n+1:Nat):Int) - 1)=((n:Nat):Int) by omega]
   exact zhg n (by omega)
  simp +decide (disch:=omega) only [bK,bE,BEq.rfl,Nat.reduceAdd,q3,hw,zk,zai,locs_envOf]
  have hm48:Mod w4 w8 (fun i _=>i=r∨w1.heap.size≤i):=hm47.trans hm8 fun i o _ h=>h.elim (fun h=>.inl h) fun h=>.inr (by omega)
  refine⟨n,by omega,by rw[zg (by decide)]; exact q0,by rw[zg (by decide)]; exact q1,by rw[zg (by decide)]; exact q2,upd_same _ _ _,by have:=hI.lt; omega,
   ⟨_,_,m',hr7.mod hm8 (fun o h=>by omega) (fun k o h1 h2 h=>by omega),hrest,hc8,hone8,htc8⟩,hm48.there (by omega) hI.t1,hm48.there (by omega) hI.t2,?_,hI.mod.trans' hm48,by omega⟩
  rw[hm48.cell _ _ (by omega) (fun h=>by omega)]
  exact hI.c1
end
theorem put_own {ρ:Env} {k t:Nat} {v:Value} (h:k < 100) (ht:100≤t):put ρ (some k) v t=ρ t:=by
 show (if t=k then v else ρ t)=ρ t
 rw[if_neg (by omega)]
def anyC (P:Program) (Cw:World→Prop) (l:List ROp) (rd:Nat→Bool) (K:Env→World→Prop):Nat→List Nat→Env→World→Prop
 | 0,_,ρ,w=>K ρ w
 | f+1,C,ρ,w=>∀ i,readyP l C i→zcn P (l.getD i default) ρ w fun ρ w=>(zps l rd i=true∨Cw w)∧anyC P Cw l rd K f (C.erase i) ρ w
def pairB2 (l:List ROp) (rd:Nat→Bool) (i j:Nat):Bool:=
 match (l.getD i default).dst with
 | none=>true
 | some d=>
  if i == j then !(zhh (l.getD j default)).contains d
  else (match (l.getD j default).dst with | some d'=>!(Nat.beq d' d) | none=>true) &&
   (!(zhh (l.getD j default)).contains d || ((l.getD j default).after.contains i && (!rd j || rd i)))
def zsp (l:List ROp) (rd:Nat→Bool):Bool:=
 zvq l && l.all (fun r=>!isSel r.op) && (List.range l.length).all fun i=>(List.range l.length).all fun j=>pairB2 l rd i j
section
variable {P:Program} {l:List ROp} {rd:Nat→Bool}
theorem zzn (h:zsp l rd=true) {i:Nat} (hi:i < l.length):isSel (l.getD i default).op=false:=by
 unfold zsp at h
 simp only [Bool.and_eq_true,List.all_eq_true] at h
 have:=h.1.2 l[i] (List.getElem_mem hi)
 simpa [List.getD,hi] using this
theorem zrn (h:zsp l rd=true):zvq l=true:=by
 unfold zsp at h
 simp only [Bool.and_eq_true] at h
 exact h.1.1
theorem zabv (h:zsp l rd=true) {i j d:Nat} (hi:i < l.length) (hj:j < l.length) (hd:(l.getD i default).dst=some d) :
  (i=j→d ∉ zhh (l.getD j default))∧(i≠j→(l.getD j default).dst≠some d∧(d∈zhh (l.getD j default)→i∈(l.getD j default).after∧(rd j=true→rd i=true))):=by
 have h1:pairB2 l rd i j=true:=by
  unfold zsp at h
  rw[Bool.and_eq_true,List.all_eq_true] at h
  have h1:=h.2 i (List.mem_range.2 hi)
  rw[List.all_eq_true] at h1
  exact h1 j (List.mem_range.2 hj)
 unfold pairB2 at h1
 rw[hd] at h1
 simp only at h1
 refine⟨fun e=>?_,fun e=>?_⟩
 ·have:(i == j)=true:=by simpa using e
  rw[this] at h1; simpa using h1
 ·have:(i == j)=false:=by simpa using e
  rw[this] at h1
  simp only [Bool.false_eq_true,if_false,Bool.and_eq_true] at h1
  refine⟨fun hc=>?_,fun hm=>?_⟩
  ·rw[hc] at h1; simp at h1
  ·have h2:=h1.2
   simp only [Bool.or_eq_true,Bool.not_eq_true',List.contains_eq_mem,decide_eq_true_eq,Bool.and_eq_true,decide_eq_false_iff_not] at h2
   rcases h2 with h2 | h2
   ·exact absurd hm h2
   ·refine⟨h2.1,fun hr=>?_⟩
    rcases h2.2 with h3 | h3
    ·rw[hr] at h3; cases h3
    ·exact h3
theorem zpp (hp:zsp l rd=true) {Cw:World→Prop} {K:Env→Prop}:∀ (is:List Nat) (ρ:Env),is.Pairwise (· < ·)→(∀ i∈is,i < l.length)→zkf P Cw l rd K is ρ→
  ∃ ρ1,K ρ1∧(∀ t,(∀ i∈is,rd i=true→(l.getD i default).dst≠some t)→ρ1 t=ρ t) ∧
   ∀ i∈is,rd i=true→∃ v,(∀ d,(l.getD i default).dst=some d→ρ1 d=v)∧∀ w,Cw w→zmd P (l.getD i default) ρ1 w v
 | [],ρ,_,_,h=>⟨ρ,h,fun _ _=>rfl,fun _ hi=>by cases hi⟩
 | i :: is,ρ,hs,hlt,h=>by
  have hs':=List.pairwise_cons.1 hs
  have hi:=hlt i (by simp)
  have hlt':∀ j∈is,j < l.length:=fun j hj=>hlt j (by simp [hj])
  unfold zkf at h
  by_cases hr:rd i=true
  ·rw[if_pos hr] at h
   obtain⟨v,hy,h⟩:=h
   obtain⟨ρ1,hK,hrest,hall⟩:=zpp hp is _ hs'.2 hlt' h
   refine⟨ρ1,hK,fun t ht=>?_,fun j hj hrj=>?_⟩
   ·rw[hrest t fun j hj hrj=>ht j (by simp [hj]) hrj]
    have:=ht i (by simp) hr
    cases hd:(l.getD i default).dst with
    | none=>rfl
    | some d=>
     simp only [put]
     rw[if_neg (fun e=>this (by rw[hd,e]))]
   ·rcases List.mem_cons.1 hj with rfl | hj'
    ·have hval:∀ d,(l.getD j default).dst=some d→ρ1 d=v:=fun d hd=>by
      rw[hrest d fun k hk hrk hdk=>by
       have hne:j≠k:=by have:=hs'.1 k hk; omega
       exact((zabv hp hi (hlt' k hk) hd ).2 hne).1 hdk]
      rw[hd]; simp [put]
     refine⟨v,hval,fun w hw=>zjv (zzn hp hi) (fun t ht=>?_) (hy w hw)⟩
     have hnd:(l.getD j default).dst≠some t:=fun hd=>(zabv hp hi hi hd ).1 rfl ht
     rw[hrest t fun k hk hrk hdk=>by
      have hk':=hlt' k hk
      have hne:k≠j:=by have:=hs'.1 k hk; omega
      have:=((zabv hp hk' hi hdk).2 hne).2 ht
      have:=zma (zrn hp) hi this.1
      have:=hs'.1 k hk; omega]
     cases hd:(l.getD j default).dst with
     | none=>rfl
     | some d=>
      simp only [put]
      rw[if_neg (fun e=>hnd (by rw[hd,e]))]
    ·exact hall j hj' hrj
  ·rw[if_neg hr] at h
   obtain⟨ρ1,hK,hrest,hall⟩:=zpp hp is _ hs'.2 hlt' h
   refine⟨ρ1,hK,fun t ht=>hrest t fun j hj hrj=>ht j (by simp [hj]) hrj,fun j hj hrj=>?_⟩
   rcases List.mem_cons.1 hj with rfl | hj'
   ·exact absurd hrj hr
   ·exact hall j hj' hrj
theorem zyf (hp:zsp l rd=true) {Cw:World→Prop} {K:Env→World→Prop} {ρ1:Env}
  (hread:∀ i,i < l.length→rd i=true→∃ v,(∀ d,(l.getD i default).dst=some d→ρ1 d=v)∧∀ w,Cw w→zmd P (l.getD i default) ρ1 w v) :
  ∀ (f:Nat) (pend:List Nat) (ρ:Env) (w:World),pend.length=f→pend.Pairwise (· < ·)→(∀ i∈pend,i < l.length)→
   (∀ j,j < l.length→j ∉ pend→∀ e∈(l.getD j default).after,e ∉ pend)→
   (∀ t,(∀ j,j < l.length→j ∉ pend→rd j=false→(l.getD j default).dst≠some t)→zgh l rd ρ1 pend ρ t=ρ1 t)→
   ((∃ i∈pend,rd i=true)→Cw w)→
   anyC P Cw l rd K (pend.filter fun i=>!rd i).length (pend.filter fun i=>!rd i) (zgh l rd ρ1 pend ρ) w→anyP P l K f pend ρ w:=by
 intro f
 induction f with
 | zero=>
  intro pend ρ w hf _ _ _ _ _ hc
  have hnil:pend=[]:=List.length_eq_zero_iff.1 hf
  subst hnil
  have:zgh l rd ρ1 [] ρ=ρ:=funext fun t=>zea (fun i hi=>by cases hi)
  rw[this] at hc
  exact hc
 | succ f ih=>
  intro pend ρ w hf hs hlt hcl hinv hCw hc i hready
  obtain⟨hi,hall⟩:=hready
  have hil:=hlt i hi
  have hnd:pend.Nodup:=hs.imp (fun h=>Nat.ne_of_lt h)
  have hlook:∀ t∈zhh (l.getD i default),zgh l rd ρ1 pend ρ t=ρ t:=fun t ht=>zea fun k hk hrk hdk=>by
   have hkl:=hlt k hk
   by_cases hki:k=i
   ·subst hki; exact(zabv hp hkl hkl hdk).1 rfl ht
   ·exact hall k (((zabv hp hkl hil hdk).2 hki).2 ht).1 hk
  have hsel:=zzn hp hil
  have hs':(pend.erase i).Pairwise (· < ·):=hs.sublist List.erase_sublist
  have hlt':∀ j∈pend.erase i,j < l.length:=fun j hj=>hlt j (List.mem_of_mem_erase hj)
  have hlen':(pend.erase i).length=f:=by rw[List.length_erase_of_mem hi]; omega
  have hmem:∀ j,j∈pend.erase i ↔ j≠i∧j∈pend:=fun j=>hnd.mem_erase_iff
  have hcl':∀ j,j < l.length→j ∉ pend.erase i→∀ e∈(l.getD j default).after,e ∉ pend.erase i:=fun j hj hjp e he hep=>by
   have hep':=(hmem e).1 hep
   by_cases hji:j=i
   ·subst hji; exact hall e he hep'.2
   ·exact hcl j hj (fun h=>hjp ((hmem j).2 ⟨hji,h⟩)) e he hep'.2
  by_cases hr:rd i=true
  ·
   obtain⟨v,hv,hy⟩:=hread i hil hr
   have heq:∀ t∈zhh (l.getD i default),ρ1 t=ρ t:=fun t ht=>by
    rw[← hlook t ht]
    refine(hinv t fun j hj hjp hrj hdj=>?_).symm
    by_cases hji:j=i
    ·subst hji; rw[hr] at hrj; cases hrj
    ·have:=(((zabv hp hj hil hdj).2 hji).2 ht).2 hr
     rw[hrj] at this; cases this
   have hy':=zjv hsel heq (hy w (hCw ⟨i,hi,hr⟩))
   have hfill:zgh l rd ρ1 (pend.erase i) (put ρ (l.getD i default).dst v)=zgh l rd ρ1 pend ρ:=by
    funext t
    by_cases ht:∃ k∈pend.erase i,rd k=true∧(l.getD k default).dst=some t
    ·obtain⟨k,hk,hrk,hdk⟩:=ht
     rw[zfw hk hrk hdk,zfw ((hmem k).1 hk).2 hrk hdk]
    ·rw[zea fun k hk hrk hdk=>ht ⟨k,hk,hrk,hdk⟩]
     cases hd:(l.getD i default).dst with
     | none=>
      simp only [put]
      exact(zea fun k hk hrk hdk=>by
       by_cases hki:k=i
       ·subst hki; rw[hd] at hdk; cases hdk
       ·exact ht ⟨k,(hmem k).2 ⟨hki,hk⟩,hrk,hdk⟩).symm
     | some d=>
      simp only [put]
      by_cases htd:t=d
      ·subst htd
       rw[if_pos rfl,zfw hi hr hd,hv t hd]
      ·rw[if_neg htd]
       exact(zea fun k hk hrk hdk=>by
        by_cases hki:k=i
        ·subst hki; rw[hd] at hdk; exact htd (Option.some.inj hdk).symm
        ·exact ht ⟨k,(hmem k).2 ⟨hki,hk⟩,hrk,hdk⟩).symm
   have hfil:(pend.erase i).filter (fun j=>!rd j)=pend.filter fun j=>!rd j:=by
    rw[hnd.erase_eq_filter,List.filter_filter]
    refine List.filter_congr fun j hj=>?_
    by_cases hji:j=i
    ·subst hji; simp [hr]
    ·simp [hji]
   have hgo:anyP P l K f (pend.erase i) (put ρ (l.getD i default).dst v) w:=by
    refine ih _ _ _ hlen' hs' hlt' hcl' (fun t ht=>?_) (fun ⟨k,hk,hrk⟩=>hCw ⟨k,((hmem k).1 hk).2,hrk⟩) (by rw[hfil,hfill]; exact hc)
    ·rw[hfill]
     refine hinv t fun j hj hjp hrj=>ht j hj (fun h=>hjp ((hmem j).1 h).2) hrj
   unfold zcn
   rcases hy' with⟨hw,hrun⟩ | ⟨hw,rfl⟩
   ·rw[if_pos hw,hrun]; exact hgo
   ·rw[if_neg (by rw[hw]; simp)]; exact hgo
  ·
   have hr':rd i=false:=by simpa using hr
   have hiC:i∈pend.filter fun j=>!rd j:=List.mem_filter.2 ⟨hi,by simp [hr']⟩
   have hfil:(pend.erase i).filter (fun j=>!rd j)=(pend.filter fun j=>!rd j).erase i:=by
    have hndC:(pend.filter fun j=>!rd j).Nodup:=hnd.sublist List.filter_sublist
    rw[hnd.erase_eq_filter,hndC.erase_eq_filter,List.filter_filter,List.filter_filter]
    refine List.filter_congr fun j _=>Bool.and_comm _ _
   have hlenC:(pend.filter fun j=>!rd j).length=((pend.filter fun j=>!rd j).erase i).length+1:=by
    have:=List.length_erase_of_mem hiC
    have:=List.length_pos_of_mem hiC
    omega
   rw[hlenC] at hc
   have hc:=hc i ⟨hiC,fun e he hec=>hall e he (List.mem_filter.1 hec).1⟩
   have hown:∀ k∈pend.erase i,rd k=true→∀ d,(l.getD i default).dst=some d→(l.getD k default).dst≠some d:=fun k hk hrk d hd hdk=>by
    have hkl:=hlt' k hk
    exact((zabv hp hil hkl hd).2 (fun e=>((hmem k).1 hk).1 e.symm)).1 hdk
   have hfill:∀ v,zgh l rd ρ1 (pend.erase i) (put ρ (l.getD i default).dst v)=put (zgh l rd ρ1 pend ρ) (l.getD i default).dst v:=by
    intro v
    have hsame:∀ t,(l.getD i default).dst≠some t→zgh l rd ρ1 (pend.erase i) (put ρ (l.getD i default).dst v) t=zgh l rd ρ1 pend ρ t:=by
     intro t hti
     by_cases ht:∃ k∈pend.erase i,rd k=true∧(l.getD k default).dst=some t
     ·obtain⟨k,hk,hrk,hdk⟩:=ht
      rw[zfw hk hrk hdk,zfw ((hmem k).1 hk).2 hrk hdk]
     ·rw[zea fun k hk hrk hdk=>ht ⟨k,hk,hrk,hdk⟩]
      rw[zea (pend:=pend) fun k hk hrk hdk=>by
       by_cases hki:k=i
       ·subst hki; rw[hr'] at hrk; cases hrk
       ·exact ht ⟨k,(hmem k).2 ⟨hki,hk⟩,hrk,hdk⟩]
      cases hd:(l.getD i default).dst with
      | none=>rfl
      | some d=>
       simp only [put]
       rw[if_neg (fun e=>hti (by rw[hd,e]))]
    funext t
    by_cases hti:(l.getD i default).dst=some t
    ·rw[zea fun k hk hrk=>hown k hk hrk t hti,hti]
     simp [put]
    ·rw[hsame t hti]
     cases hd:(l.getD i default).dst with
     | none=>rfl
     | some d=>
      simp only [put]
      rw[if_neg (fun e=>hti (by rw[hd,e]))]
   have hgo:∀ v w',((zps l rd i=true∨Cw w')∧anyC P Cw l rd K ((pend.filter fun j=>!rd j).erase i).length ((pend.filter fun j=>!rd j).erase i) (put (zgh l rd ρ1 pend ρ) (l.getD i default).dst v) w')→anyP P l K f (pend.erase i) (put ρ (l.getD i default).dst v) w':=by
    rintro v w' ⟨hlast,hch⟩
    refine ih _ _ _ hlen' hs' hlt' hcl' (fun t ht=>?_) (fun ⟨k,hk,hrk⟩=>?_) (by rw[hfil,hfill]; exact hch)
    ·rw[hfill]
     have hti:=ht i hil (fun h=>((hmem i).1 h).1 rfl) hr'
     have h1:put (zgh l rd ρ1 pend ρ) (l.getD i default).dst v t=zgh l rd ρ1 pend ρ t:=by
      cases hd:(l.getD i default).dst with
      | none=>rfl
      | some d=>simp only [put]; rw[if_neg (fun e=>hti (by rw[hd,e]))]
     rw[h1]
     exact hinv t fun j hj hjp hrj=>ht j hj (fun h=>hjp ((hmem j).1 h).2) hrj
    ·rcases hlast with hlast | hcw
     ·unfold zps at hlast
      rw[List.all_eq_true] at hlast
      have:=hlast k (List.mem_range.2 (hlt' k hk))
      simp only [hrk,Bool.not_true,Bool.false_or] at this
      exact absurd ((hmem k).1 hk).2 (zrj (zrn hp) hcl _ i k hil hall this)
     ·exact hcw
   have hexec:exec (zgh l rd ρ1 pend ρ) (l.getD i default)=exec ρ (l.getD i default):=zru hsel hlook
   have hwant:zdl (zgh l rd ρ1 pend ρ) (l.getD i default).guard=zdl ρ (l.getD i default).guard:=zmf hlook
   unfold zcn at hc ⊢
   rw[hexec,hwant] at hc
   by_cases hw:zdl ρ (l.getD i default).guard=true
   ·rw[if_pos hw] at hc ⊢
    exact upon_map hgo hc
   ·rw[if_neg hw] at hc ⊢
    exact hgo _ _ hc
theorem zaco (hp:zsp l rd=true) {Cw:World→Prop} {K:Env→World→Prop} {ρ:Env} {w:World} (hw:Cw w)
  (h:zkf P Cw l rd (fun ρ1=>anyC P Cw l rd K ((List.range l.length).filter fun i=>!rd i).length ((List.range l.length).filter fun i=>!rd i) ρ1 w) (List.range l.length) ρ):anyP P l K l.length (List.range l.length) ρ w:=by
 obtain⟨ρ1,hK,hrest,hall⟩:=zpp hp _ _ List.pairwise_lt_range (fun i hi=>List.mem_range.1 hi) h
 have hfill:zgh l rd ρ1 (List.range l.length) ρ=ρ1:=by
  funext t
  by_cases ht:∃ k∈List.range l.length,rd k=true∧(l.getD k default).dst=some t
  ·obtain⟨k,hk,hrk,hdk⟩:=ht
   exact zfw hk hrk hdk
  ·rw[zea fun k hk hrk hdk=>ht ⟨k,hk,hrk,hdk⟩]
   exact(hrest t fun k hk hrk hdk=>ht ⟨k,hk,hrk,hdk⟩).symm
 refine zyf hp (ρ1:=ρ1) (fun i hi hr=>?_) l.length _ ρ w (by simp) List.pairwise_lt_range (fun i hi=>List.mem_range.1 hi) (fun j hj hjp=>absurd (List.mem_range.2 hj) hjp)
  (fun t _=>by rw[hfill]) (fun _=>hw) (by rw[hfill]; exact hK)
 exact hall i (List.mem_range.2 hi) hr
def seqB (l:List ROp):List Nat→Bool
 | []=>true
 | i :: C=>C.all (fun j=>(l.getD j default).after.any fun e=>(i :: C).contains e) && seqB l C
theorem zka {Cw:World→Prop} {K:Env→World→Prop}:∀ (C:List Nat) (ρ:Env) (w:World),seqB l C=true→C.Nodup→(∀ j,C.getLast?=some j→zps l rd j=true)→
  zid P Cw K (C.map fun j=>l.getD j default) ρ w→anyC P Cw l rd K C.length C ρ w
 | [],_,_,_,_,_,h=>h
 | i :: C,ρ,w,hs,hnd,hlast,h=>by
  simp only [seqB,Bool.and_eq_true,List.all_eq_true] at hs
  intro j hj
  have hji:j=i:=by
   rcases List.mem_cons.1 hj.1 with e | he
   ·exact e
   ·have h1:=hs.1 j he
    rw[List.any_eq_true] at h1
    obtain⟨e,he1,he2⟩:=h1
    exact absurd (by simpa using he2) (hj.2 e he1)
  subst hji
  rw[List.erase_cons_head]
  cases C with
  | nil=>
   refine zhi (fun ρ w hk=>⟨.inl (hlast j rfl),?_⟩) h
   exact hk
  | cons k C=>
   refine zhi (fun ρ w hk=>⟨.inr hk.1,?_⟩) h
   exact zka (k :: C) ρ w hs.2 (List.nodup_cons.1 hnd).2 (fun j' h'=>hlast j' (by simpa using h')) hk.2
end
def zabs (l:List ROp) (rd:List Bool):List Nat:=(List.range l.length).filter fun i=>!rdOf rd i
theorem W_drawC {P:Program} {loc:List Nat} {N:Nat} {Q:Exit→Env→World→Prop} {σ:Env} {w:World} {l:List ROp} (hm:P.follows .mixedOrders=true) (rd:List Bool) (hl:rd.length=l.length) (hp:zsp l (rdOf rd)=true) (Cw:World→Prop) (hw:Cw w.drew)
  (h:∀ τ,zfv P Cw (fun ρ1=>anyC P Cw l (rdOf rd) (fun ρ w=>Q .normal (locs ρ) w) (zabs l rd).length (zabs l rd) ρ1 w.drew) (l.zip rd) (zli σ τ)):W P loc N (.draw l) Q σ w:=by
 have hzl:(l.zip rd).length=l.length:=by simp [hl]
 have hz:∀ i p,(l.zip rd)[i]?=some p→l.getD (0+i) default=p.1∧rdOf rd (0+i)=p.2:=by
  intro i p hi
  rw[List.getElem?_zip_eq_some] at hi
  simp [List.getD,rdOf,hi.1,hi.2]
 refine W_draw hm (zrn hp) fun τ=>zaco hp (Cw:=Cw) hw ?_
 have e:List.range l.length=List.range' 0 (l.zip rd).length:=by rw[hzl,List.range_eq_range']
 have h2:=zmh (P:=P) (Cw:=Cw) (l:=l) (rd:=rdOf rd) (l.zip rd) 0 _ hz (h τ)
 rw[← e] at h2
 exact h2
def planM (l:List ROp) (rd:List Bool):Bool:=
 Nat.beq rd.length l.length && zsp l (rdOf rd) && seqB l (zabs l rd) && (match (zabs l rd).getLast? with
  | some j=>zps l (rdOf rd) j
  | none=>true)
theorem zve {P:Program} {loc:List Nat} {N:Nat} {Q:Exit→Env→World→Prop} {σ:Env} {w:World} {l:List ROp} (hm:P.follows .mixedOrders=true) (rd:List Bool) (hB:planM l rd=true) (Cw:World→Prop) (hw:Cw w.drew)
  (h:∀ τ,zfv P Cw (fun ρ1=>zid P Cw (fun ρ w=>Q .normal (locs ρ) w) (zgv l rd) ρ1 w.drew) (l.zip rd) (zli σ τ)):W P loc N (.draw l) Q σ w:=by
 unfold planM at hB
 rw[Bool.and_eq_true,Bool.and_eq_true,Bool.and_eq_true] at hB
 obtain⟨⟨⟨hl,hp⟩,hs⟩,hlast⟩:=hB
 have hl:rd.length=l.length:=by simpa using hl
 have hz:∀ i p,(l.zip rd)[i]?=some p→l.getD (0+i) default=p.1∧rdOf rd (0+i)=p.2:=by
  intro i p hi
  rw[List.getElem?_zip_eq_some] at hi
  simp [List.getD,rdOf,hi.1,hi.2]
 have hcs:=zor (l:=l) (rd:=rdOf rd) (l.zip rd) 0 hz
 rw[show (l.zip rd).length=l.length by simp [hl],← List.range_eq_range'] at hcs
 refine W_drawC hm rd hl hp Cw hw fun τ=>?_
 have mono:∀ (r:List (ROp × Bool)) (ρ:Env) (K K':Env→Prop),(∀ ρ,K ρ→K' ρ)→zfv P Cw K r ρ→zfv P Cw K' r ρ:=by
  intro r
  induction r with
  | nil=>intro ρ K K' hk h; exact hk _ h
  | cons p r ih=>
   intro ρ K K' hk h
   obtain⟨o,b⟩:=p
   cases b with
   | true=>obtain⟨v,hv,h⟩:=h; exact⟨v,hv,ih _ _ _ hk h⟩
   | false=>exact ih _ _ _ hk h
 refine mono _ _ _ _ (fun ρ1 hc=>?_) (h τ)
 refine zka _ _ _ hs (List.nodup_range.sublist List.filter_sublist) (fun j hj=>?_) ?_
 ·rw[hj] at hlast; exact hlast
 ·have e:(zabs l rd).map (fun j=>l.getD j default)=zgv l rd:=hcs
  rw[e]; exact hc
section
variable {P:Program} {N:Nums}
theorem zacs (B:Base P N) (F:Fns P N) (hU:N.zq≠0) {X:Type} {keyR:X→RS→Option (X × RS)} {dfl:Nat→X→RS→X × RS} {J:X→RS→Env→World→Prop} {E:Env→World→Prop} {loc:List Nat} {N':Nat} (hlo:zei loc N') {Q:Exit→Env→World→Prop} {σ:Env} {w:World}
  {x:X} {s:RS} {lo hi r n k:Nat} {key dflC:C} {fl:Bool} (hn:7≤n) (h6:σ 6=.bool fl)
  (hJ4:∀ {x s σ w},J x s σ w→σ 4=.pointer (some ⟨r,0,none⟩)∧RdAt w lo hi r s) (hJa:∀ {x s σ σ' w},J x s σ w→Ag n σ σ'→J x s σ' w)
  (hJr:∀ {x s s' σ w w'},J x s σ w→RdAt w' lo hi r s'→Mod w w' (blk r)→J x s' σ w') (h0:J x s σ w)
  (hkey:∀ (x:X) (s:RS) (σ:Env) (w:World) (K:Exit→Env→World→Prop),J x s σ w→(∀ y σ' w',keyR x s=some y→J y.1 y.2 σ' w'→Ag (n+6) σ σ'→K .normal σ' w')→(keyR x s=none→∀ σ' w',E σ' w'→K .ret σ' w')→W P loc N' key K σ w)
  (hdfl:∀ (c:Nat) (x:X) (s:RS) (σ:Env) (w:World) (K:Exit→Env→World→Prop),J x s σ w→σ (n+3)=.int .u32 c→c < 4294967296→(∀ σ' w',J (dfl c x s).1 (dfl c x s).2 σ' w'→Ag (n+6) σ σ'→K .normal σ' w')→W P loc N' dflC K σ w)
  (hQ0:fl=false→∀ σ',Ag n σ σ'→Q .normal σ' w)
  (hQ1:fl=true→match kN keyR dfl (uvN s).1 x (uvN s).2 with
   | none=>∀ σ' w',E σ' w'→Q .ret σ' w'
   | some y=>∀ σ' w',J y.1 y.2 σ' w'→Ag n σ σ'→Q .normal σ' w'):W P loc N' (zuw N n k key dflC) Q σ w:=by
 unfold zuw
 refine zd fun K hK=>zi fun τ=>?_
 simp +decide (disch:=omega) only [bK,bE,Nat.reduceAdd,h6,zk,locs_envOf]
 refine hK _ _ (W_if hlo (upd_same _ _ _) ?_)
 clear hK K
 have a0:Ag n σ (upd σ n (.bool fl)):=(Ag.refl n σ).upd (Nat.le_refl _)
 cases fl with
 | false=>exact zbd (hQ0 rfl _ a0)
 | true=>
  have hQ:=hQ1 rfl
  clear hQ0 hQ1
  simp only [if_true]
  obtain⟨σ1,hσ1⟩:∃ σ1,σ1=upd σ n (.bool true):=⟨_,rfl⟩
  rw[← hσ1] at a0 ⊢
  clear hσ1
  have hj1:=hJa h0 a0
  refine zd fun K hK=>zi fun τ=>?_
  have e4:=(hJ4 hj1).1
  simp +decide (disch:=omega) only [bK]
  rw[zan (F.PReader_Uvarint hU).1.has]
  simp +decide (disch:=omega) only [bK,bE,BEq.rfl,Nat.reduceAdd,e4]
  refine(zgr B F hU w lo hi r s (hJ4 hj1).2).mono ?_
  rintro v w2 ⟨rfl,hr2,hm2⟩
  simp +decide (disch:=omega) only [zk,zai,locs_envOf]
  refine hK _ _ (zem ?_)
  clear hK K
  have hlt:=zlm s
  have a2:Ag n σ (upd σ1 (n+1) (.int .u32 (uvN s).1)):=a0.upd (by omega)
  have hj2:J x (uvN s).2 (upd σ1 (n+1) (.int .u32 (uvN s).1)) w2:=hJa (hJr hj1 hr2 hm2) ((Ag.refl n σ1).upd (by omega))
  refine zpk (fun c σ' w'=>∃ x' s',J x' s' σ' w'∧Ag n σ σ'∧σ' (n+1)=.int .u32 c∧c < 4294967296∧kN keyR dfl c x' s'=kN keyR dfl (uvN s).1 x (uvN s).2) (n:=(uvN s).1) ⟨x,(uvN s).2,hj2,a2,upd_same _ _ _,hlt,rfl⟩ ?_
  rintro c σ3 w3 ⟨x3,s3,hj3,a3,hc3,hclt,hk3⟩
  refine zd fun K2 hK2=>zd fun K3 hK3=>zi fun τ=>?_
  simp +decide (disch:=omega) only [bK,bE,BEq.rfl,hc3,zk,zai,locs_envOf]
  refine hK3 _ _ (W_if hlo (upd_same _ _ _) ?_)
  clear hK3 K3
  cases c with
  | zero=>
   rw[if_neg (by simp)]
   refine zof ?_
   simp only [zfd,inB,if_true]
   rw[kN] at hk3
   rw[← hk3] at hQ
   exact hQ _ _ (hJa hj3 ((Ag.refl n σ3).upd (by omega))) (a3.upd (by omega))
  | succ c=>
   rw[show decide (((c+1:Nat):Int) > 0)=true from by simp,if_pos rfl]
   refine zbd (hK2 _ _ ?_)
   clear hK2 K2
   obtain⟨σ4,hσ4⟩:∃ σ4,σ4=upd σ3 (n+2) (.bool true):=⟨_,rfl⟩
   have a34:Ag n σ3 σ4:=by rw[hσ4]; exact(Ag.refl n σ3).upd (by omega)
   have hc4:σ4 (n+1)=.int .u32 ((c+1:Nat):Int):=by rw[hσ4,zg (by omega)]; exact hc3
   rw[← hσ4]
   clear hσ4
   have hj4:=hJa hj3 a34
   refine zd fun K2 hK2=>zem (zd fun K3 hK3=>zi fun τ=>?_)
   have e4:=(hJ4 hj4).1
   simp +decide (disch:=omega) only [bK]
   rw[zan (F.PReader_Uvarint hU).1.has]
   simp +decide (disch:=omega) only [bK,bE,BEq.rfl,Nat.reduceAdd,e4]
   refine(zgr B F hU w3 lo hi r s3 (hJ4 hj4).2).mono ?_
   rintro v w5 ⟨rfl,hr5,hm5⟩
   simp +decide (disch:=omega) only [zk,zai,locs_envOf]
   refine hK3 _ _ ?_
   clear hK3 K3
   refine zd fun K3 hK3=>zi fun τ=>?_
   simp +decide (disch:=omega) only [bK,bE,upd_same,zk,locs_envOf]
   refine hK3 _ _ (zem ?_)
   clear hK3 K3
   refine zd fun K3 hK3=>zi fun τ=>?_
   simp +decide (disch:=omega) only [bK,bE,BEq.rfl,upd_same,zk,zai,locs_envOf]
   refine hK3 _ _ (W_if hlo (upd_same _ _ _) ?_)
   clear hK3 K3
   obtain⟨σ5,hσ5⟩:∃ σ5,σ5=upd (upd (upd σ4 (n+3) (.int .u32 (uvN s3).1)) (n+4) (.int .u32 (uvN s3).1)) (n+5) (.bool (((uvN s3).1:Int) == 0)):=⟨_,rfl⟩
   have a45:Ag n σ4 σ5:=by rw[hσ5]; exact(((Ag.refl n σ4).upd (by omega)).upd (by omega)).upd (by omega)
   have hc5:σ5 (n+1)=.int .u32 ((c+1:Nat):Int):=by rw[hσ5,zg (by omega),zg (by omega),zg (by omega)]; exact hc4
   have hk5:σ5 (n+3)=.int .u32 (uvN s3).1:=by rw[hσ5,zg (by omega),zg (by omega)]; exact upd_same _ _ _
   rw[← hσ5]
   clear hσ5
   have hj5:=hJa (hJr hj4 hr5 hm5) a45
   have hw:IntKind.u32.wrap (((c+1:Nat):Int) - 1)=(c:Int):=by
    rw[show (((c+1:Nat):Int) - 1)=((c:Nat):Int) by omega]
    exact zhg c (by omega)
   have fin:∀ (x':X) (s':RS) (σ':Env) (w':World),J x' s' σ' w'→Ag (n+6) σ5 σ'→kN keyR dfl c x' s'=kN keyR dfl (uvN s).1 x (uvN s).2→K2 σ' w':=by
    intro x' s' σ' w' hj' a5' hk'
    refine hK2 _ _ (zi fun τ=>?_)
    have hc':σ' (n+1)=.int .u32 ((c+1:Nat):Int):=by rw[a5' _ (by omega)]; exact hc5
    simp +decide (disch:=omega) only [bK,bE,BEq.rfl,hc',hw,zk,zai,locs_envOf]
    have am:Ag n σ5 σ':=a5'.mono (by omega)
    exact⟨c,by omega,x',s',hJa hj' ((Ag.refl n σ').upd (by omega)),((((a3.trans a34 (Nat.le_refl _)).trans a45 (Nat.le_refl _)).trans am (Nat.le_refl _))).upd (by omega),upd_same _ _ _,by omega,hk'⟩
   by_cases h0:(uvN s3).1=0
   ·have hb:(((uvN s3).1:Int) == 0)=true:=by rw[h0]; rfl
    rw[hb]
    simp only [if_true]
    refine hkey x3 _ σ5 w5 _ hj5 (fun y σ' w' hy hj' a'=>fin y.1 y.2 σ' w' hj' a' ?_) fun hnone σ' w' hE=>?_
    ·rw[← hk3,kN,if_pos h0,hy]
    ·rw[kN,if_pos h0,hnone] at hk3
     simp only at hk3
     rw[← hk3] at hQ
     exact hQ σ' w' hE
   ·have hb:(((uvN s3).1:Int) == 0)=false:=by simp; omega
    rw[hb]
    simp only [Bool.false_eq_true,if_false]
    refine hdfl (uvN s3).1 x3 _ σ5 w5 _ hj5 hk5 (zlm s3) fun σ' w' hj' a'=>fin _ _ σ' w' hj' a' ?_
    rw[← hk3,kN,if_neg h0]
end
section
variable {P:Program} {N:Nums}
theorem zzg {t:TypeId} {ms:Array (String × TypeId)} {sz by':Nat} {z:Value} (h:TI P t (.interface ms) sz by' z) {x:Operand} {w:World} :
  (do eqGuard .neq t x (.const .nilIface) .nilIface .nilIface; binOp .neq t .nilIface .nilIface:Sem Value).run P w=.ok (.bool false) w:=by
 have e:(Op.equal t .nilIface .nilIface).run P w=.ok true w:=by
  unfold Op.equal Op.maxDepth
  rw[show (10000:Nat)=9999+1 from rfl]
  unfold Op.equalIn
  rw[Sem.run_bind,run_underlying h.und,Result.andThen_ok]
  rfl
 have e1:(eqGuard .neq t x (.const .nilIface) .nilIface .nilIface).run P w=.ok () w:=by simp [eqGuard]
 rw[Sem.run_bind,e1,Result.andThen_ok]
 show ((do pure (.bool (!(← Op.equal t .nilIface .nilIface)))):Sem Value).run P w=_
 rw[Sem.run_bind,e,Result.andThen_ok]
 rfl
theorem run_isErr {t:TypeId} {ms:Array (String × TypeId)} {sz by':Nat} {z:Value} (h:TI P t (.interface ms) sz by' z) {x:Operand} {w:World} {te:TypeId} {ve:Value} :
  (do eqGuard .neq t x (.const .nilIface) (.iface te ve) .nilIface; binOp .neq t (.iface te ve) .nilIface:Sem Value).run P w=.ok (.bool true) w:=by
 have e:(Op.equal t (.iface te ve) .nilIface).run P w=.ok false w:=by
  unfold Op.equal Op.maxDepth
  rw[show (10000:Nat)=9999+1 from rfl]
  unfold Op.equalIn
  rw[Sem.run_bind,run_underlying h.und,Result.andThen_ok]
  rfl
 have e1:(eqGuard .neq t x (.const .nilIface) (.iface te ve) .nilIface).run P w=.ok () w:=by simp [eqGuard]
 rw[Sem.run_bind,e1,Result.andThen_ok]
 show ((do pure (.bool (!(← Op.equal t (.iface te ve) .nilIface)))):Sem Value).run P w=_
 rw[Sem.run_bind,e,Result.andThen_ok]
 rfl
theorem zacq (B:Base P N) (F:Fns P N) (hU:N.zq≠0) (hS:N.zu≠0) {loc:List Nat} {N':Nat} {Q:Exit→Env→World→Prop} {σ:Env} {w:World} {lo hi r q:Nat} {s:RS} (h4:σ 4=.pointer (some ⟨r,0,none⟩)) (hr:RdAt w lo hi r s) (hq:7≤q)
  (hQ:∀ w' bq,w.heap.size≤bq→bq < w'.heap.size→RdAt w' lo hi r (outS s)→RdAt w' lo hi bq (inS s)→Mod w w' (blk r)→Q .normal (upd σ q (.pointer (some ⟨bq,0,none⟩))) w'):W P loc N' (.ops (opsR N q)) Q σ w:=by
 obtain⟨fs,ht,_⟩:=B.reader.out
 unfold opsR
 refine zi fun τ=>?_
 simp +decide (disch:=omega) only [bK,bE,Nat.reduceBeqDiff,BEq.rfl]
 rw[zan (F.PReader_Uvarint hU).1.has]
 simp +decide (disch:=omega) only [bK,bE,BEq.rfl,Nat.reduceAdd,h4]
 refine(zgr B F hU w lo hi r s hr).mono ?_
 rintro _ w1 ⟨rfl,hr1,hm1⟩
 have hlt:=zlm s
 have e1:IntKind.i64.wrap ((uvN s).1:Int)=((uvN s).1:Int):=wrap_i64 (by omega) (by omega)
 simp +decide (disch:=omega) only [bK,zat B.uint32 B.int ⟨_,rfl⟩,e1]
 rw[zah (F.PReader_Span hS).has]
 simp +decide (disch:=omega) only [bK,bE,Nat.reduceBeqDiff,BEq.rfl,Nat.reduceAdd,h4]
 refine(zly B F hS (n:=((uvN s).1:Int)) hr1).mono ?_
 rintro v w2 ⟨hb,hr2,hm2⟩
 have hm02:=hm1.trans' hm2
 have hhi:=hr2.hi_le
 have hs02:=hm02.size
 have hrl:=hr2.lt
 have hone:v.oneCell'=true:=hb.oneCell
 have hbu:(Instr.build N.zv #[(0,v)]).run P w2=.ok (.agg #[v,.bool false]) w2:=B.reader.run_build (by
  simp [Instr.fill,zds hone])
 have e2:∀ ρ:Env,(#[(0,T 2)]:Array (Nat × Operand)).map (fun p=>(p.1,ev ρ p.2))=#[(0,ρ 2)]:=fun ρ=>by simp
 simp +decide (disch:=omega) only [bK,bE,BEq.rfl,e2,hbu,ht.run_alloc]
 obtain⟨w3,hw3⟩:∃ w3,w3=w2.alloc (.cells (Value.cells (.agg [.slice none 0 0,.bool false].toArray)) N.zv):=⟨_,rfl⟩
 have m3:Mod w2 w3 zy:=by rw[hw3]; exact Mod.alloc _ _ _
 have s3:w3.heap.size=w2.heap.size+1:=by rw[hw3]; exact zav _ _
 have r3:w3.rangeAt w2.heap.size 0 [.slice none 0 0,.bool false]:=by rw[hw3]; exact zr w2 _ _ _
 have t3:w3.there w2.heap.size 0 2:=by rw[hw3]; exact zbq w2 _ _
 have st:=ht.run_store (w:=w3) (b:=w2.heap.size) (o:=0) (v:=.agg #[v,.bool false]) (cs:=[v,.bool false]) rfl rfl t3 (fun c hc=>by
  simp at hc; rcases hc with rfl | rfl
  ·exact hone
  ·rfl)
 rw[← hw3]
 clear hw3
 simp +decide (disch:=omega) only [bK,st,zk,zai,locs_envOf]
 have m4:Mod w3 (w3.setCells w2.heap.size 0 [v,.bool false]) (blk w2.heap.size):=Mod.setCells _ 0 _ fun _ _ _ _=>rfl
 have m24:Mod w2 (w3.setCells w2.heap.size 0 [v,.bool false]) zy:=m3.fresh m4 fun k o e=>by have:k=w2.heap.size:=e; omega
 have r4:=zax [v,.bool false] 0 w3 _ r3 (Nat.le_refl _)
 have s4:(w3.setCells w2.heap.size 0 [v,.bool false]).heap.size=w3.heap.size:=by simp [World.setCells,World.setCell]
 exact hQ _ w2.heap.size (by omega) (by omega) (hr2.mod m24 (fun _ h=>h) fun _ _ _ _ h=>h) ⟨⟨v,(by have r5:=r4; simp only [List.length_cons,List.length_nil,List.drop_succ_cons,List.append_nil,List.drop_nil] at r5; exact r5),hb.mod m24 hhi fun _ _ _ _ h=>h⟩,m4.there (by omega) t3,Nat.le_trans hhi m24.size,.inr hhi⟩ (hm02.trans m24 fun k o _ h=>h.elim id False.elim)
theorem zjs.at_ {k:PK} {n:Nat} {σ σ':Env} {w:World} {v:Value} (h:zjs P (k.src N n) σ w v) (e:σ' n=σ n):zjs P (k.src N n) σ' w v:=by
 intro ρ d K hρ
 have h2:=h (zli σ ρ) d (fun ρ1 w1=>K (put ρ (some d) (ρ1 d)) w1) (fun i=>envOf_loc σ ρ i)
 have e0:ev ρ (V n)=ev (zli σ ρ) (V n):=by
  show ρ (n+100)=zli σ ρ (n+100)
  rw[hρ,e,envOf_loc]
 have ep:∀ x,put (zli σ ρ) (some d) x d=x:=fun x=>by simp [put]
 cases k with
 | uuid=>
  simp only [PK.src] at h2 ⊢
  rw[zqd] at h2 ⊢
  rw[e0]
  simpa only [ep] using h2
 | _=>
  simp only [PK.src] at h2 ⊢
  rw[zln] at h2 ⊢
  rw[e0]
  simpa only [ep] using h2
theorem W_getR (B:Base P N) (F:Fns P N) {k:PK} (hk:k.f N≠0) (hu:k.nt N) (hen:k.isEn=false) {loc:List Nat} {N':Nat} (hlo:zei loc N') {Q:Exit→Env→World→Prop} {σ:Env} {w:World} {lo hi bq q n:Nat} {s:RS} (hql:q < loc.length) (h4q:4 < q) (hqn:q < n)
  (hq:σ q=.pointer (some ⟨bq,0,none⟩)) (hr:RdAt w lo hi bq s)
  (h:∀ σ' w',Ag n σ σ'→zjs P (k.src N n) σ' w' (k.rd s).1→RdAt w' lo hi bq (k.rd s).2→Mod w w' (blk bq)→Q .normal σ' w'):W P loc N' ((k.get N n).sw 4 q) Q σ w:=by
 have sw4:swN 4 q 4=q:=by unfold swN; rw[if_pos rfl]
 have swn:swN 4 q n=n:=by unfold swN; rw[if_neg (by omega),if_neg (by omega)]
 refine W_sw hlo.nd (by omega) hql (W_get (σ:=swE 4 q σ) B F hk hu hen (r:=bq) (by unfold swE; rw[sw4]; exact hq) hr fun σ' w' ha hs hr' hm=>h _ w' (fun i hi=>?_) ?_ hr' hm)
 ·have hlt:swN 4 q i < n:=(swN_lt (by omega) (by omega)).2 hi
  show σ' (swN 4 q i)=σ i
  rw[ha _ hlt]
  unfold swE
  rw[zlf]
 ·have e:swE 4 q σ' n=σ' n:=by unfold swE; rw[swn]
  exact hs.at_ e
theorem swE_ag {n q:Nat} {σ σ':Env} (h4n:4 < n) (hqn:q < n) (ha:Ag n (swE 4 q σ) σ'):Ag n σ (swE 4 q σ'):=fun i hi=>by
 have hlt:swN 4 q i < n:=(swN_lt (by omega) (by omega)).2 hi
 show σ' (swN 4 q i)=σ i
 rw[ha _ hlt]
 unfold swE
 rw[zlf]
theorem znc {q i:Nat} {σ:Env} (h4:i≠4) (hq:i≠q):swE 4 q σ i=σ i:=by
 unfold swE swN
 rw[if_neg h4,if_neg hq]
theorem swE_4 {q:Nat} {σ:Env}:swE 4 q σ 4=σ q:=by
 unfold swE swN
 rw[if_pos rfl]
theorem W_txtR (B:Base P N) (F:Fns P N) {loc:List Nat} {N':Nat} (hlo:zei loc N') {Q:Exit→Env→World→Prop} {σ:Env} {w:World} {fx u fl:Bool} {ver:Int} {lo hi r bq q n m:Nat} {s:RS} {k:Txt} (hk:∀ f∈k.fns N fx,f≠0) (hx:Cx σ fx u fl ver r) (hql:q < loc.length) (h7q:7≤q) (hqn:q < n) (hm:n < m)
  (hq:σ q=.pointer (some ⟨bq,0,none⟩)) (hr:RdAt w lo hi bq s) (h:TxtQ lo hi bq n σ w (k.rd fl s) (Q .normal)):W P loc N' ((cTxt N fx k n m).sw 4 q) Q σ w:=by
 have hx':Cx (swE 4 q σ) fx u fl ver bq:=⟨by rw[znc (by omega) (by omega)]; exact hx.un,by rw[swE_4]; exact hq,by rw[znc (by omega) (by omega)]; exact hx.vr,fun e=>by rw[znc (by omega) (by omega)]; exact hx.fle e,hx.nofl⟩
 refine W_sw hlo.nd (by omega) hql (W_cTxt (σ:=swE 4 q σ) B F (loc:=locS 4 q loc) (N':=N') ?_ hk hx' hr (by omega) hm fun σ' w' v ha hv hone hrep hr' hm=>h (swE 4 q σ') w' v (swE_ag (by omega) hqn ha) ?_ hone hrep hr' hm)
 ·refine⟨fun i s hs=>?_,zom hlo.nd (by omega) hql⟩
  rw[zmm (by omega) hql] at hs
  exact hlo.lt _ _ hs
 ·rw[znc (by omega) (by omega)]; exact hv
theorem W_endK (B:Base P N) (F:Fns P N) (hC:N.zaf≠0) {loc:List Nat} {N':Nat} (hlo:zei loc N') {Q:Exit→Env→World→Prop} {σ:Env} {w:World} {lo hi bq q m:Nat} {s:RS} {te:TypeId} {ve:Value} (hql:q < loc.length) (h7q:7≤q) (hqm:q < m)
  (hq:σ q=.pointer (some ⟨bq,0,none⟩)) (hr:RdAt w lo hi bq s) (he:w.cell? ⟨N.zj,0,none⟩=some (.iface te ve))
  (hgood:s.bad=false→∀ σ',Ag m σ σ'→Q .normal σ' w) (hbad:s.bad=true→∀ σ',σ' 3=.iface te ve→Q .ret σ' w):W P loc N' (cEndK N q m) Q σ w:=by
 obtain⟨ms,hI⟩:∃ ms,TI P N.zgc (.interface ms) 1 16 .nilIface:=by
  rcases B.error with h | h
  ·exact⟨_,h⟩
  ·exact h
 have hcomp:Call P N.zaf #[.pointer (some ⟨bq,0,none⟩)] w fun v w'=>v=(if s.bad then .iface te ve else .nilIface)∧w'=w:=by
  exact zie B F hC hI rfl he hr
 unfold cEndK
 refine zd fun K hK=>W_sw hlo.nd (by omega) hql (zjr (σ:=swE 4 q σ) (F.PReader_Complete hC).has (by rw[swE_4]; exact hq) hcomp fun v w' ⟨hv,hw⟩=>?_)
 subst hw
 refine hK _ _ ?_
 clear hK K
 obtain⟨σ1,hσ1⟩:∃ σ1,σ1=swE 4 q (upd (swE 4 q σ) m v):=⟨_,rfl⟩
 have a1:Ag m σ σ1:=by rw[hσ1]; exact swE_ag (by omega) hqm ((Ag.refl m _).upd (Nat.le_refl _))
 have v1:σ1 m=v:=by rw[hσ1,znc (by omega) (by omega)]; exact upd_same _ _ _
 rw[← hσ1]
 clear hσ1
 cases hb:s.bad with
 | true=>
  rw[hb,if_pos rfl] at hv
  rw[hv] at v1
  refine zd fun K hK=>zi fun τ=>?_
  simp +decide (disch:=omega) only [bK,bE,BEq.rfl,v1,run_isErr hI,zk,zai,locs_envOf]
  refine hK _ _ (W_if hlo (upd_same _ _ _) ?_)
  simp only [if_true]
  refine zd fun K2 hK2=>zgp (hK2 _ _ (zbb (hbad hb _ ?_)))
  rw[upd_same,zg (by omega)]
  exact v1
 | false=>
  rw[hb] at hv
  simp only [Bool.false_eq_true,if_false] at hv
  rw[hv] at v1
  refine zd fun K hK=>zi fun τ=>?_
  simp +decide (disch:=omega) only [bK,bE,BEq.rfl,v1,zzg hI,zk,zai,locs_envOf]
  refine hK _ _ (W_if hlo (upd_same _ _ _) ?_)
  simp only [Bool.false_eq_true,if_false]
  exact zbd (hgood hb _ (a1.trans ((Ag.refl m σ1).upd (by omega)) (Nat.le_refl _)))
theorem W_keyPr (B:Base P N) (F:Fns P N) (hU:N.zq≠0) (hS:N.zu≠0) (hC:N.zaf≠0) {k:PK} (hk:k.f N≠0) (hu:k.nt N) (hen:k.isEn=false) {loc:List Nat} {N':Nat} (hlo:zei loc N') {Q:Exit→Env→World→Prop} {σ:Env} {w:World} {lo hi r q is b oo off idx:Nat} {Tt:TypeId} {s:RS} {te:TypeId} {ve:Value}
  (h4:σ 4=.pointer (some ⟨r,0,none⟩)) (hr:RdAt w lo hi r s) (h7q:7≤q) (his:is < q) (hσ:σ is=.pointer (some ⟨b,oo,none⟩)) (hT:HF P Tt idx off) (hpl:Pl N w lo hi r b (oo+off) k.sz) (he:w.cell? ⟨N.zj,0,none⟩=some (.iface te ve)) (hgr:N.zj≠r)
  (hgood:(k.rd (inS s)).2.bad=false→∀ σ' w1,Ag q σ σ'→Mod w w1 (blk r)→RdAt w1 lo hi r (outS s)→Q .normal σ' (w1.setCells b (oo+off) (k.rd (inS s)).1.cells.toList))
  (hbad:(k.rd (inS s)).2.bad=true→∀ σ' w1,σ' 3=.iface te ve→Mod w w1 (blk r)→Q .ret σ' (w1.setCells b (oo+off) (k.rd (inS s)).1.cells.toList)):W P loc N' (cKeyPr N k is Tt idx q) Q σ w:=by
 unfold cKeyPr
 refine W_dst (q:=q) ⟨⟨some (q+100),.alloc N.zv,0,none,[]⟩,by simp [opsR],rfl⟩ fun hql=>?_
 have hrl:=hr.lt
 refine zd fun K hK=>zacq B F hU hS h4 hr h7q fun w1 bq hb1 hb2 hr1 hi1 hm1=>hK _ _ ?_
 clear hK K
 obtain⟨σ1,hσ1⟩:∃ σ1,σ1=upd σ q (.pointer (some ⟨bq,0,none⟩)):=⟨_,rfl⟩
 have a1:Ag q σ σ1:=by rw[hσ1]; exact(Ag.refl q σ).upd (Nat.le_refl _)
 have q1:σ1 q=.pointer (some ⟨bq,0,none⟩):=by rw[hσ1]; exact upd_same _ _ _
 rw[← hσ1]
 clear hσ1
 refine zd fun K hK=>W_getR B F hk hu hen hlo (n:=q+1) hql (by omega) (by omega) q1 hi1 fun σ2 w2 a2 hs2 hi2 hm2=>hK _ _ ?_
 clear hK K
 have a12:Ag q σ σ2:=a1.trans (a2.mono (by omega)) (Nat.le_refl _)
 have q2:σ2 q=.pointer (some ⟨bq,0,none⟩):=by rw[a2 q (by omega)]; exact q1
 have hs1:=hm1.size
 have hm02:Mod w w2 (blk r):=hm1.trans hm2 fun k o hk h=>h.elim id fun h=>by have:k=bq:=h; omega
 have hpl2:=hpl.mod hm02
 have hbq:b≠bq:=by have:=hpl.lt; omega
 obtain⟨dd,by',hti⟩:=pk_ti B k hu (fun t e=>by rw[e] at hen; cases hen)
 refine zd fun K hK=>zte hT hti hs2 (by rw[a12 is his]; exact hσ) (cs:=(k.rd (inS s)).1.cells.toList) (by simp) (zpe k _).len (zpe k _).one hpl2.there (hK _ _ ?_)
 clear hK K
 have ms:Mod w2 (w2.setCells b (oo+off) (k.rd (inS s)).1.cells.toList) (blk b):=Mod.setCells _ _ _ fun _ _ _ _=>rfl
 have hbs:=hpl.bs
 have hi3:RdAt (w2.setCells b (oo+off) (k.rd (inS s)).1.cells.toList) lo hi bq (k.rd (inS s)).2:=hi2.mod ms (fun o h=>hbq (by have:bq=b:=h; omega)) fun k o h1 h2 h=>by have:k=b:=h; omega
 have hr2:RdAt w2 lo hi r (outS s):=hr1.mod hm2 (fun o h=>by have:r=bq:=h; omega) fun k o h1 h2 h=>by have:k=bq:=h; have:=hi1.apart; have:=hr.hi_le; omega
 have he2:w2.cell? ⟨N.zj,0,none⟩=some (.iface te ve):=by rw[hm02.cell _ _ (zde (by rw[he]; rfl)) (fun h=>hgr h)]; exact he
 have he3:(w2.setCells b (oo+off) (k.rd (inS s)).1.cells.toList).cell? ⟨N.zj,0,none⟩=some (.iface te ve):=by
  rw[ms.cell _ _ (zde (by rw[he2]; rfl)) (fun h=>hpl.bg (by have:N.zj=b:=h; omega))]; exact he2
 exact W_endK B F hC hlo (m:=q+2) hql h7q (by omega) q2 hi3 he3 (fun hb σ' ha=>hgood hb σ' w2 (a12.trans (ha.mono (by omega)) (Nat.le_refl _)) hm02 hr2) fun hb σ' h3=>hbad hb σ' w2 h3 hm02
theorem W_keyTxt (B:Base P N) (F:Fns P N) (hU:N.zq≠0) (hS:N.zu≠0) (hC:N.zaf≠0) {fx u fl:Bool} {ver:Int} {k:Txt} (hk:∀ f∈k.fns N fx,f≠0) (hp:k=.nstr→N.zbc≠0) {loc:List Nat} {N':Nat} (hlo:zei loc N') {Q:Exit→Env→World→Prop} {σ:Env} {w:World} {lo hi r q is b oo off idx:Nat} {Tt:TypeId} {s:RS} {te:TypeId} {ve:Value}
  (hx:Cx σ fx u fl ver r) (hr:RdAt w lo hi r s) (h7q:7≤q) (his:is < q) (hσ:σ is=.pointer (some ⟨b,oo,none⟩)) (hT:HF P Tt idx off) (hpl:Pl N w lo hi r b (oo+off) 1) (he:w.cell? ⟨N.zj,0,none⟩=some (.iface te ve)) (hgr:N.zj≠r)
  (hgood:(k.rd fl (inS s)).2.bad=false→∀ σ' w1 v,Ag q σ σ'→Mod w w1 (blk r)→RdAt w1 lo hi r (outS s)→v.oneCell'=true→Rep w1 (GG lo hi w.heap.size w1.heap.size) (k.rd fl (inS s)).1 [v]→Q .normal σ' (w1.setCells b (oo+off) [v]))
  (hbad:(k.rd fl (inS s)).2.bad=true→∀ σ' w1 v,σ' 3=.iface te ve→Mod w w1 (blk r)→v.oneCell'=true→Q .ret σ' (w1.setCells b (oo+off) [v])):W P loc N' (zxy N fx k is Tt idx q) Q σ w:=by
 unfold zxy
 refine W_dst (q:=q) ⟨⟨some (q+100),.alloc N.zv,0,none,[]⟩,by simp [opsR],rfl⟩ fun hql=>?_
 have hrl:=hr.lt
 refine zd fun K hK=>zacq B F hU hS hx.rd hr h7q fun w1 bq hb1 hb2 hr1 hi1 hm1=>hK _ _ ?_
 clear hK K
 obtain⟨σ1,hσ1⟩:∃ σ1,σ1=upd σ q (.pointer (some ⟨bq,0,none⟩)):=⟨_,rfl⟩
 have a1:Ag q σ σ1:=by rw[hσ1]; exact(Ag.refl q σ).upd (Nat.le_refl _)
 have q1:σ1 q=.pointer (some ⟨bq,0,none⟩):=by rw[hσ1]; exact upd_same _ _ _
 rw[← hσ1]
 clear hσ1
 refine zd fun K hK=>zao (hK _ _ ?_)
 clear hK K
 have a1':Ag (q+1) σ1 (upd σ1 (q+1) k.zero):=(Ag.refl _ _).upd (Nat.le_refl _)
 have hx1:Cx (upd σ1 (q+1) k.zero) fx u fl ver r:=(hx.ag a1 h7q).ag (a1'.mono (by omega)) h7q
 refine zd fun K hK=>W_txtR B F hlo hk hx1 (r:=r) (n:=q+1) (m:=q+2) hql h7q (by omega) (by omega) (by rw[zg (by omega)]; exact q1) hi1 fun σ2 w2 v a2' v2 hone hrep hi2 hm2=>hK _ _ ?_
 clear hK K
 have a2:Ag (q+1) σ1 σ2:=a1'.trans a2' (Nat.le_refl _)
 have a12:Ag q σ σ2:=a1.trans (a2.mono (by omega)) (Nat.le_refl _)
 have q2:σ2 q=.pointer (some ⟨bq,0,none⟩):=by rw[a2 q (by omega)]; exact q1
 have hs1:=hm1.size
 have hs2':=hm2.size
 have hm02:Mod w w2 (blk r):=hm1.trans hm2 fun k o hk h=>h.elim id fun h=>by have:k=bq:=h; omega
 have hpl2:=hpl.mod hm02
 have hbq:b≠bq:=by have:=hpl.lt; omega
 obtain⟨dd,by',hti⟩:=txt_ti B hp
 have hc:=zds hone
 have hs2:zjs P (.move (V (q+1))) σ2 w2 v:=by rw[← v2]; exact zjs.move
 refine zd fun K hK=>zte hT hti hs2 (by rw[a12 is his]; exact hσ) (cs:=[v]) (by rw[hc]) rfl (by intro c hc'; simp at hc'; subst hc'; exact hone) hpl2.there (hK _ _ ?_)
 clear hK K
 have ms:Mod w2 (w2.setCells b (oo+off) [v]) (blk b):=Mod.setCells _ _ _ fun _ _ _ _=>rfl
 have hi3:RdAt (w2.setCells b (oo+off) [v]) lo hi bq (k.rd fl (inS s)).2:=hi2.mod ms (fun o h=>hbq (by have:bq=b:=h; omega)) fun k o h1 h2 h=>by have:k=b:=h; have:=hpl.bs; omega
 have hr2:RdAt w2 lo hi r (outS s):=hr1.mod hm2 (fun o h=>by have:r=bq:=h; omega) fun k o h1 h2 h=>by have:k=bq:=h; have:=hi1.apart; have:=hr.hi_le; omega
 have he2:w2.cell? ⟨N.zj,0,none⟩=some (.iface te ve):=by rw[hm02.cell _ _ (zde (by rw[he]; rfl)) (fun h=>hgr h)]; exact he
 have he3:(w2.setCells b (oo+off) [v]).cell? ⟨N.zj,0,none⟩=some (.iface te ve):=by
  rw[ms.cell _ _ (zde (by rw[he2]; rfl)) (fun h=>hpl.bg (by have:N.zj=b:=h; omega))]; exact he2
 exact W_endK B F hC hlo (m:=q+2+k.vn fx) hql h7q (by omega) q2 hi3 he3 (fun hb σ' ha=>hgood hb σ' w2 v (a12.trans (ha.mono (by omega)) (Nat.le_refl _)) hm02 hr2 hone (Rep.mono (fun k hk=>hk.imp id fun h=>⟨by omega,h.2⟩) _ hrep)) fun hb σ' h3=>hbad hb σ' w2 v h3 hm02 hone
end
section
variable {P:Program} {N:Nums}
theorem W_dfl (B:Base P N) (F:Fns P N) (hU:N.zq≠0) (hS:N.zu≠0) (hSet:N.zcz≠0) (hTg:N.zcy≠0) {loc:List Nat} {N':Nat} {Q:Exit→Env→World→Prop} {σ:Env} {w:World} {lo hi r is b oo off idx n c0 c:Nat} {Tt:TypeId} {s:RS} {m:Value} {l:List (Nat × List UInt8)}
  (h4:σ 4=.pointer (some ⟨r,0,none⟩)) (hr:RdAt w lo hi r s) (hσ:σ is=.pointer (some ⟨b,oo,none⟩)) (hT:HF P Tt idx off) (hk:σ (n+3)=.int .u32 c) (hc:c < 4294967296) (hcell:w.cell? ⟨b,oo+off,none⟩=some m) (hth:w.there b (oo+off) 1) (hbr:b≠r) (hbs:b < lo∨hi≤b) (hbc:b < c0) (hrc:r < c0) (hic:hi≤c0) (hcw:c0≤w.heap.size)
  (htg:zms w (fun k=>lo≤k∧k < hi) c0 m l)
  (hQ:∀ σ' w' m',(∀ i,σ' i=σ i)→RdAt w' lo hi r (outS s)→w'.cell? ⟨b,oo+off,none⟩=some m'→m'.oneCell'=true→zms w' (fun k=>lo≤k∧k < hi) c0 m' (tput l c (inS s).l)→(∀ j,m'=.map (some j)→m=.map (some j)∨w.heap.size≤j)→Mod w w' (fun i o=>i=r∨(i=b∧o=oo+off)∨m=.map (some i))→Q .normal σ' w'):W P loc N' (.draw (dDfl N is Tt idx n)) Q σ w:=by
 have hhi:=hr.hi_le
 have hrap:=hr.apart
 have hrlt:=hr.lt
 have md:Mod w w.drew zy:=Mod.drew _ _
 refine zve B.mixed [true,true,true,true,false,false,false,false] (by kernel_rfl) (fun _=>True) trivial fun τ=>?_
 unfold dDfl
 refine zar (.pointer (some ⟨b,oo,none⟩)) (fun w' _=>by
  rw[zdb,ev_tmp]
  simp +decide only [bE,hσ]) rfl ?_
 refine zar (.pointer (some ⟨b,oo,none⟩)) (fun w' _=>rfl) rfl ?_
 refine zar (.pointer (some ⟨b,oo+off,none⟩)) (fun w' _=>zdv (by simp +decide only [bE,BEq.rfl,ev_tmp,hT.run])) rfl ?_
 refine zar (.int .u32 c) (fun w' _=>by
  rw[zdb,ev_tmp]
  simp +decide only [bE,Nat.reduceBeqDiff,hk]) rfl ?_
 simp only [zfv,zgv,List.zip_cons_cons,List.zip_nil_right,List.zipWith_cons_cons,List.zipWith_nil_right,List.filter,Bool.not_true,Bool.not_false,List.map,zid]
 have hr0:RdAt w.drew lo hi r s:=hr.mod md (fun _ h=>h) fun _ _ _ _ h=>h
 simp +decide (disch:=omega) only [bK,true_and]
 rw[zan (F.PReader_Uvarint hU).1.has]
 simp +decide (disch:=omega) only [bK,bE,Nat.reduceBeqDiff,BEq.rfl,Nat.reduceAdd,h4]
 refine(zgr B F hU w.drew lo hi r s hr0).mono ?_
 rintro _ w1 ⟨rfl,hr1,hm1⟩
 have hlt:=zlm s
 have e1:IntKind.i64.wrap ((uvN s).1:Int)=((uvN s).1:Int):=wrap_i64 (by omega) (by omega)
 simp +decide (disch:=omega) only [bK,zat B.uint32 B.int ⟨_,rfl⟩,e1]
 rw[zah (F.PReader_Span hS).has]
 simp +decide (disch:=omega) only [bK,bE,Nat.reduceBeqDiff,BEq.rfl,Nat.reduceAdd,h4]
 refine(zly B F hS (n:=((uvN s).1:Int)) hr1).mono ?_
 rintro v w2 ⟨hb2,hr2,hm2⟩
 have hm02:Mod w w2 (blk r):=(md.trans hm1 fun k o _ h=>h.elim False.elim id).trans' hm2
 have s02:=hm02.size
 have hc2:w2.cell? ⟨b,oo+off,none⟩=some m:=by rw[hm02.cell _ _ (by omega) (fun h=>hbr h)]; exact hcell
 have htg2:zms w2 (fun k=>lo≤k∧k < hi) c0 m l:=by
  rcases htg with h | ⟨mm,es,ck,e1,h1,h2,h3,h4,h5,h6,h7,h8⟩
  ·exact .inl h
  ·refine .inr ⟨mm,es,ck,e1,h1,by omega,?_,h4,h5,?_,h7,h8⟩
   ·rw[hm02.block _ h2 (fun o h=>by have:mm=r:=h; omega)]; exact h3
   ·exact h6.mod hm02 fun k hk=>⟨by have:=hk.2; omega,fun o h=>by have:k=r:=h; have:=hk.1; have:=hk.2; omega,hk⟩
 have hv2:tagV w2 (fun k=>lo≤k∧k < hi) v (zeu ((uvN s).1:Int) (uvN s).2):=by
  rcases hb2 with⟨h0,h1,h2⟩ | ⟨b,o,c,h0,h1,h2,h3,h4⟩
  ·exact .inl ⟨h2,_,_,h1⟩
  ·exact .inr ⟨b,o,c,h1,h2,h3,h4⟩
 have hnm:∀ i,i < c0→m≠.map (some i):=fun i hi e=>by
  rcases htg with⟨h,_⟩ | ⟨mm,_,_,h,h1,_⟩
  ·rw[h] at e; cases e
  ·rw[h] at e; cases e; omega
 rw[zit (F.PTags_Set hSet).has]
 simp +decide (disch:=omega) only [bK,bE,Nat.reduceBeqDiff,BEq.rfl]
 refine(zaai B F hSet hTg (c:=c0) hc2 (hm02.there (by omega) hth) htg2 hbc (by omega) (fun i hi=>by have:=hi.1; have:=hi.2; omega) hv2 hc).mono ?_
 rintro _ w3 ⟨m',hc3,hone3,htg3,hj3,hm3⟩
 refine zb (K:=fun σ' w'=>Q .normal σ' w') fun σ' hσ'=>hQ σ' w3 m' (fun i=>?_) (hr2.mod hm3 (fun o h=>h.elim (fun h=>hbr h.1.symm) fun h=>hnm r (by omega) h) (fun k o h1 h2 h=>h.elim (fun h=>by omega) fun h=>hnm k (by omega) h)) hc3 hone3 htg3 (fun j e=>(hj3 j e).imp id fun h=>by omega) (hm02.trans hm3 fun i o _ h=>h.elim .inl .inr)
 rw[hσ' i]
 simp +decide (disch:=omega) only [put_own,envOf_var]
end
theorem RepL.set {w:World} {G:Nat→Prop} {x:Val} {c:List Value} (hx:Rep w G x c):∀ {vs:List Val} {css:List (List Value)} (j:Nat),RepL w G vs css→RepL w G (vs.set j x) (css.set j c)
 | [],css,j,h=>by
  have h:css=[]:=by simpa only [RepL] using h
  rw[h]; simp only [List.set_nil,RepL]
 | v :: vs,css,j,h=>by
  simp only [RepL] at h
  obtain⟨c',r,rfl,h1,h2⟩:=h
  cases j with
  | zero=>simp only [List.set_cons_zero,RepL]; exact⟨c,r,rfl,hx,h2⟩
  | succ j=>simp only [List.set_cons_succ,RepL]; exact⟨c',_,rfl,h1,RepL.set hx j h2⟩
theorem zoq {α:Type} {css:List (List α)} {j:Nat} (hj:j < css.length):css.flatten=(css.take j).flatten++(css[j]++(css.drop (j+1)).flatten):=by
 have e:css=css.take j++(css[j] :: css.drop (j+1)):=by
  rw[← List.drop_eq_getElem_cons hj,List.take_append_drop]
 conv=>lhs; rw[e]
 rw[List.flatten_append,List.flatten_cons]
theorem zacc {α:Type} {css:List (List α)} {j:Nat} (hj:j < css.length) (c:List α):(css.set j c).flatten=(css.take j).flatten++(c++(css.drop (j+1)).flatten):=by
 have hj2:j < (css.set j c).length:=by simpa using hj
 rw[zoq hj2,List.take_set_of_le (by omega),List.drop_set_of_lt (by omega)]
 simp
theorem zabu {w:World} {b o:Nat} {A C D C':List Value} (h:w.rangeAt b o (A++(C++D))) (hl:C'.length=C.length) (hb:b < w.heap.size):(w.setCells b (o+A.length) C').rangeAt b o (A++(C'++D)):=by
 rw[zx] at h
 have m:Mod w (w.setCells b (o+A.length) C') (rng b (o+A.length) C'.length):=Mod.setCells _ _ _ fun _ i h2 h3=>⟨rfl,h2,by omega⟩
 rw[zx]
 refine⟨m.rangeAt hb (fun i h1 h2 h=>by have:=h.2.1; omega) h.1,?_⟩
 have:=zax C' (o+A.length) w _ h.2 (by rw[List.length_append]; omega)
 rwa [List.drop_append_of_le_length (by omega),hl,List.drop_of_length_le (Nat.le_refl _),List.nil_append] at this
def KG (lo hi a b:Nat) (m:Value) (q:Nat):Nat→Prop:=fun k=>(lo≤k∧k < hi)∨(a≤k∧k < b∧m≠.map (some k)∧k≠q)
def KLst (w:World) (G:Nat→Prop) (c q:Nat) (ls:List Val) (lz cz:Nat) (lcs:List (List Value)):Prop:=
 (cz=0∧ls=[])∨(c≤q∧w.there q 0 cz∧(∀ x∈lcs,x.length=lz)∧RepL w G ls lcs∧w.rangeAt q 0 lcs.flatten)
theorem KLst.mod {w w':World} {G G':Nat→Prop} {c q:Nat} {ls:List Val} {lz cz:Nat} {lcs:List (List Value)} {M:Nat→Nat→Prop} (h:KLst w G c q ls lz cz lcs) (m:Mod w w' M) (hq:q < w.heap.size) (hM:c≤q→∀ o,¬ M q o) (hG:∀ k,G k→k < w.heap.size∧(∀ o,¬ M k o)∧G' k):KLst w' G' c q ls lz cz lcs:=
 h.imp id fun ⟨h1,h2,h3,h4,h5⟩=>⟨h1,m.there hq h2,h3,RepL.mod m hG _ h4,m.rangeAt hq (fun i _ _=>hM h1 i) h5⟩
structure KJ (N:Nums) (lo hi r is b oo:Nat) (szs:List Nat) (te:TypeId) (ve:Value) (n:Nat) (fx u fl:Bool) (ver:Int) (w00:World) (σ0:Env) (w0:World) (q:Nat) (ls:List Val) (lz cz:Nat) (x:List Val × List (Nat × List UInt8)) (s:RS) (σ:Env) (w:World):Prop where
 ag:Ag n σ0 σ
 rd:RdAt w lo hi r s
 mod:Mod w0 w (orM (blk r) (rng b oo (szs.sum+1)))
 qb:q < w.heap.size
 ex:∃ css m lcs,css.map List.length=szs∧w.rangeAt b oo (css.flatten++[m])∧RepL w (KG lo hi w00.heap.size w.heap.size m q) x.1 css∧m.oneCell'=true∧zms w (fun k=>lo≤k∧k < hi) w0.heap.size m x.2∧m≠.map (some q)∧KLst w (KG lo hi w00.heap.size w.heap.size m q) w0.heap.size q ls lz cz lcs
structure KF (N:Nums) (lo hi r is b o0 off oo sz:Nat) (te:TypeId) (ve:Value) (n:Nat) (fx u fl:Bool) (ver:Int) (w00:World) (σ0:Env) (w0:World):Prop where
 cx:Cx σ0 fx u fl ver r
 sv:σ0 is=.pointer (some ⟨b,o0,none⟩)
 oe:o0+off=oo
 isn:is < n
 n7:7≤n
 pl:Pl N w0 lo hi r b oo sz
 er:w0.cell? ⟨N.zj,0,none⟩=some (.iface te ve)
 gr:N.zj≠r
 b0:b < w00.heap.size
 h0:hi≤w00.heap.size
 r0:r < w00.heap.size
 le:w00.heap.size≤w0.heap.size
theorem zkv {css:List (List Value)} {szs:List Nat} (h:css.map List.length=szs):css.flatten.length=szs.sum:=by
 rw[← h,List.length_flatten]
theorem take_len {css:List (List Value)} {szs:List Nat} (h:css.map List.length=szs) (j:Nat):(css.take j).flatten.length=(szs.take j).sum:=by
 rw[← h,List.length_flatten,List.map_take]
section
variable {P:Program} {N:Nums} {lo hi r is b o0 off oo n:Nat} {szs:List Nat} {te:TypeId} {ve:Value} {fx u fl:Bool} {ver:Int} {w00 w0:World} {σ0:Env} {q:Nat} {ls:List Val} {lz cz:Nat}
def KN (lo hi a b q:Nat):Nat→Prop:=fun k=>(lo≤k∧k < hi)∨(a≤k∧k < b∧k≠q)
theorem KJ.setL (K:KF N lo hi r is b o0 off oo (szs.sum+1) te ve n fx u fl ver w00 σ0 w0) {x:List Val × List (Nat × List UInt8)} {s s':RS} {σ σ':Env} {w w1:World} {j:Nat} {y:Val} {cs:List Value} (h:KJ N lo hi r is b oo szs te ve n fx u fl ver w00 σ0 w0 q ls lz cz x s σ w) (hj:szs[j]?=some cs.length)
  (ag:Ag n σ σ') {q':Nat} {ls':List Val} {cz':Nat} {lcs':List (List Value)} (m1:Mod w w1 (orM (blk r) fun k _=>w0.heap.size≤k∧k=q)) (hq':q' < w1.heap.size) (hqq:q'=q∨w.heap.size≤q') (hr:RdAt w1 lo hi r s') (hy:Rep w1 (KN lo hi w.heap.size w1.heap.size q') y cs) (hl':KLst w1 (KN lo hi w.heap.size w1.heap.size q') w0.heap.size q' ls' lz cz' lcs') :
  KJ N lo hi r is b oo szs te ve n fx u fl ver w00 σ0 w0 q' ls' lz cz' (x.1.set j y,x.2) s' σ' (w1.setCells b (oo+(szs.take j).sum) cs):=by
 obtain⟨hag,hrd,hmod,hqb,css,m,lcs,hl,hrg,hrep,hone,htg,hmq,hls⟩:=h
 have hplb:=K.pl.lt
 have hbr:=K.pl.br
 have hbs:=K.pl.bs
 have s0:=hmod.size
 have s1:=m1.size
 have hb0:=K.b0
 have hh0:=K.h0
 have hr0:=K.r0
 have hle:=K.le
 have hjl:j < css.length:=by
  have:=(List.getElem?_eq_some_iff.1 hj).1
  rw[← hl] at this
  simpa using this
 have hjs:css[j].length=cs.length:=by
  have e:szs[j]?=some css[j].length:=by rw[← hl,List.getElem?_map,List.getElem?_eq_getElem hjl]; rfl
  rw[e] at hj
  exact Option.some.inj hj
 have ht:=take_len hl j
 have hfl:=zkv hl
 have hrg1:w1.rangeAt b oo (css.flatten++[m]):=m1.rangeAt (by omega) (fun i _ _ e=>e.elim (fun e=>hbr e) fun e=>by have:=e.1; omega) hrg
 rw[zoq hjl,List.append_assoc,List.append_assoc] at hrg1
 have hrg2:=zabu (C':=cs) hrg1 hjs.symm (by omega)
 rw[ht] at hrg2
 have hsum:(szs.take j).sum+cs.length≤szs.sum:=by
  have:=congrArg List.length (zoq hjl)
  rw[List.length_append,List.length_append,hfl,ht,hjs] at this
  omega
 have ms:Mod w1 (w1.setCells b (oo+(szs.take j).sum) cs) (rng b oo (szs.sum+1)):=Mod.setCells _ _ _ fun _ i h2 h3=>⟨rfl,by omega,by omega⟩
 have mt:Mod w (w1.setCells b (oo+(szs.take j).sum) cs) (fun k o=>(k=r∨(w0.heap.size≤k∧k=q))∨rng b oo (szs.sum+1) k o):=m1.trans ms fun k o _ h=>h
 have hmm:∀ k,w.heap.size≤k∨k < w0.heap.size→m≠.map (some k):=fun k hk e=>by
  rcases htg with⟨h,_⟩ | ⟨mm,_,_,h,h1,h2,_⟩
  ·rw[h] at e; cases e
  ·rw[h] at e; cases e; omega
 have hap:=hrd.apart
 have hhi:=hrd.hi_le
 have s3:=mt.size
 have s31:=ms.size
 have hG:∀ k,KG lo hi w00.heap.size w.heap.size m q k→k < w.heap.size∧(∀ o,¬ ((k=r∨(w0.heap.size≤k∧k=q))∨rng b oo (szs.sum+1) k o))∧KG lo hi w00.heap.size (w1.setCells b (oo+(szs.take j).sum) cs).heap.size m q' k:=fun k hk=>by
  rcases hk with hk | hk
  ·exact⟨by omega,fun o h=>h.elim (fun h=>by omega) fun h=>by have:=h.1; omega,.inl hk⟩
  ·exact⟨by omega,fun o h=>h.elim (fun h=>by omega) fun h=>by have:=h.1; omega,.inr ⟨hk.1,by omega,hk.2.2.1,by omega⟩⟩
 have hN:∀ k,KN lo hi w.heap.size w1.heap.size q' k→k < w1.heap.size∧(∀ o,¬ rng b oo (szs.sum+1) k o)∧KG lo hi w00.heap.size (w1.setCells b (oo+(szs.take j).sum) cs).heap.size m q' k:=fun k hk=>by
  rcases hk with hk | hk
  ·exact⟨by omega,fun o h=>by have:=h.1; omega,.inl hk⟩
  ·exact⟨by omega,fun o h=>by have:=h.1; omega,.inr ⟨by omega,by omega,hmm k (.inl hk.1),hk.2.2⟩⟩
 refine⟨hag.trans ag (Nat.le_refl _),hr.mod ms (fun o h=>hbr h.1.symm) (fun k o h1 h2 h=>by have:=h.1; omega),hmod.trans mt fun k o hk h=>h.elim id fun h=>h.elim (fun h=>h.elim .inl fun h=>absurd h.1 (by omega)) .inr,by omega,css.set j cs,m,lcs',?_,?_,RepL.set (Rep.mod ms hN _ hy) j (RepL.mod mt hG _ hrep),hone,?_,?_,hl'.mod ms hq' (fun h o e=>by have:=e.1; omega) hN⟩
 ·rw[List.map_set,hl]
  refine List.ext_getElem? fun i=>?_
  rw[List.getElem?_set]
  split
  ·rename_i e
   subst e
   rw[hj]
   have:=(List.getElem?_eq_some_iff.1 hj).1
   rw[if_pos this]
  ·rfl
 ·rw[zacc hjl,List.append_assoc,List.append_assoc]
  exact hrg2
 ·rcases htg with h | ⟨mm,es,ck,e1,h1,h2,h3,h4,h5,h6,h7,h8⟩
  ·exact .inl h
  ·have hne:mm≠q:=fun e=>hmq (by rw[e1,e])
   refine .inr ⟨mm,es,ck,e1,h1,?_,?_,h4,h5,?_,h7,h8⟩
   ·have:=mt.size; omega
   ·rw[mt.block _ h2 (fun o h=>h.elim (fun h=>by omega) fun h=>by have:=h.1; omega)]; exact h3
   ·exact h6.mod mt fun k hk=>⟨by have:=hk.2; omega,fun o h=>h.elim (fun h=>by have:=hk.1; have:=hk.2; omega) fun h=>by have:=h.1; have:=hk.1; have:=hk.2; omega,hk⟩
 ·rcases hqq with e | e
  ·rw[e]; exact hmq
  ·exact hmm q' (.inl e)
theorem KJ.setV (K:KF N lo hi r is b o0 off oo (szs.sum+1) te ve n fx u fl ver w00 σ0 w0) {x:List Val × List (Nat × List UInt8)} {s s':RS} {σ σ':Env} {w w1:World} {j:Nat} {y:Val} {cs:List Value} (h:KJ N lo hi r is b oo szs te ve n fx u fl ver w00 σ0 w0 q [] lz 0 x s σ w) (hj:szs[j]?=some cs.length)
  (ag:Ag n σ σ') (m1:Mod w w1 (blk r)) (hr:RdAt w1 lo hi r s') (hy:Rep w1 (GG lo hi w.heap.size w1.heap.size) y cs):KJ N lo hi r is b oo szs te ve n fx u fl ver w00 σ0 w0 q [] lz 0 (x.1.set j y,x.2) s' σ' (w1.setCells b (oo+(szs.take j).sum) cs):=by
 have s1:=m1.size
 have hqb:=h.qb
 exact KJ.setL (lcs':=[]) K h hj ag (m1.mono fun _ _ _ h=>.inl h) (by omega) (.inl rfl) hr (Rep.mono (fun k hk=>hk.imp id fun hk=>⟨hk.1,hk.2,by omega⟩) _ hy) (.inl ⟨rfl,rfl⟩)
theorem KJ.agr {x:List Val × List (Nat × List UInt8)} {s:RS} {σ σ':Env} {w:World} (h:KJ N lo hi r is b oo szs te ve n fx u fl ver w00 σ0 w0 q ls lz cz x s σ w) (a:Ag n σ σ'):KJ N lo hi r is b oo szs te ve n fx u fl ver w00 σ0 w0 q ls lz cz x s σ' w:=
 ⟨h.ag.trans a (Nat.le_refl _),h.rd,h.mod,h.qb,h.ex⟩
theorem KJ.setTag (K:KF N lo hi r is b o0 off oo (szs.sum+1) te ve n fx u fl ver w00 σ0 w0) {x:List Val × List (Nat × List UInt8)} {s s':RS} {σ:Env} {w w':World} {m':Value} {l':List (Nat × List UInt8)} (h:KJ N lo hi r is b oo szs te ve n fx u fl ver w00 σ0 w0 q ls lz cz x s σ w) {m:Value} (hcm:w.cell? ⟨b,oo+szs.sum,none⟩=some m) (hmf:∀ k,w.heap.size≤k∨k < w0.heap.size→m≠.map (some k)) (hmn:∀ k,m'=.map (some k)→m=.map (some k)∨w.heap.size≤k)
  (hr:RdAt w' lo hi r s') (hc:w'.cell? ⟨b,oo+szs.sum,none⟩=some m') (hone:m'.oneCell'=true) (htg:zms w' (fun k=>lo≤k∧k < hi) w0.heap.size m' l') (mt:Mod w w' (fun i o=>i=r∨(i=b∧o=oo+szs.sum)∨m=.map (some i))):KJ N lo hi r is b oo szs te ve n fx u fl ver w00 σ0 w0 q ls lz cz (x.1,l') s' σ w':=by
 obtain⟨hag,hrd,hmod,hqb,css,mx,lcs,hl,hrg,hrep,_,_,hmq,hls⟩:=h
 have hplb:=K.pl.lt
 have hbr:=K.pl.br
 have hbs:=K.pl.bs
 have s0:=hmod.size
 have hb0:=K.b0
 have hh0:=K.h0
 have hr0:=K.r0
 have hle:=K.le
 have hfl:=zkv hl
 have hap:=hrd.apart
 rw[zx] at hrg
 have hs:=mt.size
 obtain rfl:mx=m:=by
  have h2:=zfe.1 hrg.2
  rw[hfl,hcm] at h2
  exact(Option.some.inj h2).symm
 have hG:∀ k,KG lo hi w00.heap.size w.heap.size mx q k→k < w.heap.size∧(∀ o,¬ (k=r∨(k=b∧o=oo+szs.sum)∨mx=.map (some k)))∧KG lo hi w00.heap.size w'.heap.size m' q k:=fun k hk=>by
  rcases hk with hk | hk
  ·exact⟨by omega,fun o h=>by
    rcases h with h | h | h
    ·omega
    ·omega
    ·exact hmf k (.inr (by omega)) h,.inl hk⟩
  ·exact⟨by omega,fun o h=>by
    rcases h with h | h | h
    ·omega
    ·omega
    ·exact hk.2.2.1 h,.inr ⟨hk.1,by omega,fun e=>(hmn k e).elim hk.2.2.1 fun h=>by omega,hk.2.2.2⟩⟩
 refine⟨hag,hr,hmod.trans mt fun k o hk h=>h.elim id fun h=>h.elim .inl fun h=>h.elim (fun h=>.inr ⟨h.1,by omega,by omega⟩) fun h=>absurd h (hmf k (.inr hk)),by omega,css,m',lcs,hl,?_,RepL.mod mt hG _ hrep,hone,htg,fun e=>(hmn q e).elim hmq fun h=>by omega,hls.mod mt hqb (fun h o e=>by
  rcases e with e | e | e
  ·omega
  ·omega
  ·exact hmq e) hG⟩
 rw[zx]
 refine⟨mt.rangeAt (by omega) (fun i h1 h2 h=>by
  rcases h with h | h | h
  ·omega
  ·have:=h.2; omega
  ·exact hmf b (.inr (by omega)) h) hrg.1,?_⟩
 rw[hfl]
 exact zfe.2 hc
theorem KJ.tagCell (K:KF N lo hi r is b o0 off oo (szs.sum+1) te ve n fx u fl ver w00 σ0 w0) {x:List Val × List (Nat × List UInt8)} {s:RS} {σ:Env} {w:World} (h:KJ N lo hi r is b oo szs te ve n fx u fl ver w00 σ0 w0 q ls lz cz x s σ w) :
  ∃ m,w.cell? ⟨b,oo+szs.sum,none⟩=some m∧m.oneCell'=true∧w.there b (oo+szs.sum) 1∧zms w (fun k=>lo≤k∧k < hi) w0.heap.size m x.2:=by
 obtain⟨_,_,hmod,_,css,m,_,hl,hrg,_,hone,htg,_,_⟩:=h
 rw[zx,zkv hl] at hrg
 have hth:=hmod.there K.pl.lt K.pl.there
 exact⟨m,zfe.1 hrg.2,hone,fun i hi=>by have:=hth (szs.sum+i) (by omega); rwa [← Nat.add_assoc] at this,htg⟩
theorem KJ.move (K:KF N lo hi r is b o0 off oo (szs.sum+1) te ve n fx u fl ver w00 σ0 w0) {x:List Val × List (Nat × List UInt8)} {s s':RS} {σ:Env} {w w':World} (h:KJ N lo hi r is b oo szs te ve n fx u fl ver w00 σ0 w0 q ls lz cz x s σ w) (hr:RdAt w' lo hi r s') (m1:Mod w w' (blk r)):KJ N lo hi r is b oo szs te ve n fx u fl ver w00 σ0 w0 q ls lz cz x s' σ w':=by
 obtain⟨m,hc,hone,_,htg⟩:=h.tagCell K
 have hb0:=K.b0
 have hle:=K.le
 have hbr:=K.pl.br
 have s0:=h.mod.size
 have hhi:=h.rd.hi_le
 have hap:=h.rd.apart
 have hmf:∀ k,w.heap.size≤k∨k < w0.heap.size→m≠.map (some k):=fun k hk e=>by
  rcases htg with⟨h,_⟩ | ⟨mm,_,_,h,h1,h2,_⟩
  ·rw[h] at e; cases e
  ·rw[h] at e; cases e; omega
 refine KJ.setTag (x:=x) K h hc hmf (fun k e=>.inl e) hr (m':=m) (by rw[m1.cell _ _ (by omega) (fun e=>hbr e)]; exact hc) hone ?_ (m1.mono fun i o _ e=>.inl e)
 rcases htg with h | ⟨mm,es,ck,e1,h1,h2,h3,h4,h5,h6,h7,h8⟩
 ·exact .inl h
 ·have:=m1.size
  have hr0:=K.r0
  refine .inr ⟨mm,es,ck,e1,h1,by omega,?_,h4,h5,?_,h7,h8⟩
  ·rw[m1.block _ h2 (fun o h=>by have:mm=r:=h; omega)]; exact h3
  ·exact h6.mod m1 fun k hk=>⟨by have:=hk.2; omega,fun o h=>by have:k=r:=h; have:=hk.1; have:=hk.2; omega,hk⟩
def kRpr (k:PK) (j:Nat) (x:List Val × List (Nat × List UInt8)) (s:RS):Option ((List Val × List (Nat × List UInt8)) × RS):=
 if (k.rd (inS s)).2.bad then none else some ((x.1.set j (.num (k.rd (inS s)).1),x.2),outS s)
theorem W_ktagsPr (B:Base P N) (F:Fns P N) (hU:N.zq≠0) (hS:N.zu≠0) (hC:N.zaf≠0) (hSet:N.zcz≠0) (hTg:N.zcy≠0) {k:PK} (hk:k.f N≠0) (hu:k.nt N) (hen:k.isEn=false) {loc:List Nat} {N':Nat} (hlo:zei loc N') {Q:Exit→Env→World→Prop}
  (K:KF N lo hi r is b o0 off oo (szs.sum+1) te ve n fx u fl ver w00 σ0 w0) (hfx:fx=true) {Tt:TypeId} {idx idxU j kb:Nat} (hj:szs[j]?=some k.sz) (hT:HF P Tt idx (off+(szs.take j).sum)) (hTU:HF P Tt idxU (off+szs.sum)) {x:List Val × List (Nat × List UInt8)} {s:RS}
  (h0:KJ N lo hi r is b oo szs te ve n fx u fl ver w00 σ0 w0 r [] 0 0 x s σ0 w0)
  (hQ0:fl=false→∀ σ',Ag n σ0 σ'→Q .normal σ' w0)
  (hQ1:fl=true→match kN (kRpr k j) kDfl (uvN s).1 x (uvN s).2 with
   | none=>∀ σ' w',σ' 3=.iface te ve→Mod w0 w' (orM (blk r) (rng b oo (szs.sum+1)))→Q .ret σ' w'
   | some y=>∀ σ' w',KJ N lo hi r is b oo szs te ve n fx u fl ver w00 σ0 w0 r [] 0 0 y.1 y.2 σ' w'→Q .normal σ' w'):W P loc N' (zuw N n kb (cKeyPr N k is Tt idx (n+6)) (.draw (dDfl N is Tt idxU n))) Q σ0 w0:=by
 have hn:=K.n7
 have hisn:=K.isn
 have hplb:=K.pl.lt
 have hbr:=K.pl.br
 have hb0:=K.b0
 have hh0:=K.h0
 have hr0:=K.r0
 have hle:=K.le
 have eo:∀ x,o0+(off+x)=oo+x:=fun x=>by have:=K.oe; omega
 have hsum:(szs.take j).sum+k.sz≤szs.sum:=by
  obtain⟨hjl,hje⟩:=List.getElem?_eq_some_iff.1 hj
  have e:szs.sum=(szs.take j).sum+(szs.drop j).sum:=by rw[← List.sum_append,List.take_append_drop]
  rw[e,List.drop_eq_getElem_cons hjl,List.sum_cons,hje]
  omega
 refine zacs (J:=KJ N lo hi r is b oo szs te ve n fx u fl ver w00 σ0 w0 r [] 0 0) (E:=fun σ' w'=>σ' 3=.iface te ve∧Mod w0 w' (orM (blk r) (rng b oo (szs.sum+1)))) (keyR:=kRpr k j) (dfl:=kDfl) (lo:=lo) (hi:=hi) (r:=r) B F hU hlo hn (K.cx.fle hfx)
  (fun h=>⟨by rw[h.ag 4 (by omega)]; exact K.cx.rd,h.rd⟩) (fun h a=>h.agr a) (fun h hr m=>h.move K hr m) h0 ?_ ?_ hQ0 fun hfl=>?_
 ·intro x1 s1 σ1 w1 Q1 hj1 hg hb
  have he1:w1.cell? ⟨N.zj,0,none⟩=some (.iface te ve):=by
   rw[hj1.mod.cell _ _ (zde (by rw[K.er]; rfl)) (fun h=>h.elim (fun h=>K.gr h) fun h=>K.pl.bg h.1.symm)]; exact K.er
  have hpl1:Pl N w1 lo hi r b (oo+(szs.take j).sum) k.sz:=(K.pl.mod hj1.mod).sub (by omega) (by omega)
  have hlen:k.sz=(k.rd (inS s1)).1.cells.toList.length:=((zpe k _).len).symm
  refine W_keyPr B F hU hS hC hk hu hen hlo (lo:=lo) (hi:=hi) (r:=r) (oo:=o0) (off:=off+(szs.take j).sum) (by rw[hj1.ag 4 (by omega)]; exact K.cx.rd) hj1.rd (by omega) (by omega) (by rw[hj1.ag is hisn]; exact K.sv) hT (by rw[eo]; exact hpl1) he1 K.gr ?_ ?_
  ·intro hbd σ' w2 a2 m2 hr2
   rw[eo]
   refine hg ((x1.1.set j (.num (k.rd (inS s1)).1),x1.2),outS s1) σ' _ (by unfold kRpr; rw[hbd]; rfl) ?_ a2
   exact KJ.setV K hj1 (by rw[hj,hlen]) (a2.mono (by omega)) m2 hr2 (by simp only [Rep])
  ·intro hbd σ' w2 h3 m2
   rw[eo]
   refine hb (by unfold kRpr; rw[hbd]; rfl) σ' _ ⟨h3,?_⟩
   have ms:Mod w2 (w2.setCells b (oo+(szs.take j).sum) (k.rd (inS s1)).1.cells.toList) (rng b oo (szs.sum+1)):=Mod.setCells _ _ _ fun _ i h2 h3=>⟨rfl,by omega,by omega⟩
   exact(hj1.mod.trans m2 fun k o _ h=>h.elim id .inl).trans ms fun k o _ h=>h.elim id .inr
 ·intro c x1 s1 σ1 w1 Q1 hj1 hk1 hc hg
  obtain⟨m,hcell,hone,hth,htg⟩:=hj1.tagCell K
  refine W_dfl B F hU hS hSet hTg (lo:=lo) (hi:=hi) (r:=r) (oo:=o0) (off:=off+szs.sum) (c0:=w0.heap.size) (by rw[hj1.ag 4 (by omega)]; exact K.cx.rd) hj1.rd (by rw[hj1.ag is hisn]; exact K.sv) hTU hk1 hc (by rw[eo]; exact hcell) (by rw[eo]; exact hth) hbr K.pl.bs (by omega) (by omega) (by omega) hj1.mod.size htg ?_
  intro σ' w' m' ha hr' hc' hone' htg' hj' hm'
  rw[eo] at hc'
  simp only [eo] at hm'
  have hmf:∀ k,w1.heap.size≤k∨k < w0.heap.size→m≠.map (some k):=fun k hk e=>by
   rcases htg with⟨h,_⟩ | ⟨mm,_,_,h,h1,h2,_⟩
   ·rw[h] at e; cases e
   ·rw[h] at e; cases e; omega
  have a6:Ag (n+6) σ1 σ':=fun i _=>ha i
  exact hg σ' w' (KJ.setTag K (hj1.agr (a6.mono (by omega))) hcell hmf hj' hr' hc' hone' htg' hm') a6
 ·have:=hQ1 hfl
  cases hkn:kN (kRpr k j) kDfl (uvN s).1 x (uvN s).2 with
  | none=>rw[hkn] at this; exact fun σ' w' hE=>this σ' w' hE.1 hE.2
  | some y=>rw[hkn] at this; exact fun σ' w' hJ _=>this σ' w' hJ
def kRtx (fl:Bool) (k:Txt) (j:Nat) (x:List Val × List (Nat × List UInt8)) (s:RS):Option ((List Val × List (Nat × List UInt8)) × RS):=
 if (k.rd fl (inS s)).2.bad then none else some ((x.1.set j (k.rd fl (inS s)).1,x.2),outS s)
theorem W_ktagsTxt (B:Base P N) (F:Fns P N) (hU:N.zq≠0) (hS:N.zu≠0) (hC:N.zaf≠0) (hSet:N.zcz≠0) (hTg:N.zcy≠0) {k:Txt} (hk:∀ f∈k.fns N fx,f≠0) (hp:k=.nstr→N.zbc≠0) {loc:List Nat} {N':Nat} (hlo:zei loc N') {Q:Exit→Env→World→Prop}
  (K:KF N lo hi r is b o0 off oo (szs.sum+1) te ve n fx u fl ver w00 σ0 w0) (hfx:fx=true) {Tt:TypeId} {idx idxU j kb:Nat} (hj:szs[j]?=some 1) (hT:HF P Tt idx (off+(szs.take j).sum)) (hTU:HF P Tt idxU (off+szs.sum)) {x:List Val × List (Nat × List UInt8)} {s:RS}
  (h0:KJ N lo hi r is b oo szs te ve n fx u fl ver w00 σ0 w0 r [] 0 0 x s σ0 w0)
  (hQ0:fl=false→∀ σ',Ag n σ0 σ'→Q .normal σ' w0)
  (hQ1:fl=true→match kN (kRtx fl k j) kDfl (uvN s).1 x (uvN s).2 with
   | none=>∀ σ' w',σ' 3=.iface te ve→Mod w0 w' (orM (blk r) (rng b oo (szs.sum+1)))→Q .ret σ' w'
   | some y=>∀ σ' w',KJ N lo hi r is b oo szs te ve n fx u fl ver w00 σ0 w0 r [] 0 0 y.1 y.2 σ' w'→Q .normal σ' w'):W P loc N' (zuw N n kb (zxy N fx k is Tt idx (n+6)) (.draw (dDfl N is Tt idxU n))) Q σ0 w0:=by
 have hn:=K.n7
 have hisn:=K.isn
 have hplb:=K.pl.lt
 have hbr:=K.pl.br
 have hb0:=K.b0
 have hh0:=K.h0
 have hr0:=K.r0
 have hle:=K.le
 have eo:∀ x,o0+(off+x)=oo+x:=fun x=>by have:=K.oe; omega
 have hsum:(szs.take j).sum+1≤szs.sum:=by
  obtain⟨hjl,hje⟩:=List.getElem?_eq_some_iff.1 hj
  have e:szs.sum=(szs.take j).sum+(szs.drop j).sum:=by rw[← List.sum_append,List.take_append_drop]
  rw[e,List.drop_eq_getElem_cons hjl,List.sum_cons,hje]
  omega
 refine zacs (J:=KJ N lo hi r is b oo szs te ve n fx u fl ver w00 σ0 w0 r [] 0 0) (E:=fun σ' w'=>σ' 3=.iface te ve∧Mod w0 w' (orM (blk r) (rng b oo (szs.sum+1)))) (keyR:=kRtx fl k j) (dfl:=kDfl) (lo:=lo) (hi:=hi) (r:=r) B F hU hlo hn (K.cx.fle hfx)
  (fun h=>⟨by rw[h.ag 4 (by omega)]; exact K.cx.rd,h.rd⟩) (fun h a=>h.agr a) (fun h hr m=>h.move K hr m) h0 ?_ ?_ hQ0 fun hfl=>?_
 ·intro x1 s1 σ1 w1 Q1 hj1 hg hb
  have he1:w1.cell? ⟨N.zj,0,none⟩=some (.iface te ve):=by
   rw[hj1.mod.cell _ _ (zde (by rw[K.er]; rfl)) (fun h=>h.elim (fun h=>K.gr h) fun h=>K.pl.bg h.1.symm)]; exact K.er
  have hpl1:Pl N w1 lo hi r b (oo+(szs.take j).sum) 1:=(K.pl.mod hj1.mod).sub (by omega) (by omega)
  refine W_keyTxt B F hU hS hC hk hp hlo (lo:=lo) (hi:=hi) (r:=r) (oo:=o0) (off:=off+(szs.take j).sum) (K.cx.ag hj1.ag hn) hj1.rd (by omega) (by omega) (by rw[hj1.ag is hisn]; exact K.sv) hT (by rw[eo]; exact hpl1) he1 K.gr ?_ ?_
  ·intro hbd σ' w2 v a2 m2 hr2 hone hrep
   rw[eo]
   refine hg ((x1.1.set j (k.rd fl (inS s1)).1,x1.2),outS s1) σ' _ (by unfold kRtx; rw[hbd]; rfl) ?_ a2
   exact KJ.setV K hj1 (by rw[hj]; rfl) (a2.mono (by omega)) m2 hr2 hrep
  ·intro hbd σ' w2 v h3 m2 _
   rw[eo]
   refine hb (by unfold kRtx; rw[hbd]; rfl) σ' _ ⟨h3,?_⟩
   have ms:Mod w2 (w2.setCells b (oo+(szs.take j).sum) [v]) (rng b oo (szs.sum+1)):=Mod.setCells _ _ _ fun _ i h2 h3=>⟨rfl,by omega,by simp only [List.length_cons,List.length_nil] at h3; omega⟩
   exact(hj1.mod.trans m2 fun k o _ h=>h.elim id .inl).trans ms fun k o _ h=>h.elim id .inr
 ·intro c x1 s1 σ1 w1 Q1 hj1 hk1 hc hg
  obtain⟨m,hcell,hone,hth,htg⟩:=hj1.tagCell K
  refine W_dfl B F hU hS hSet hTg (lo:=lo) (hi:=hi) (r:=r) (oo:=o0) (off:=off+szs.sum) (c0:=w0.heap.size) (by rw[hj1.ag 4 (by omega)]; exact K.cx.rd) hj1.rd (by rw[hj1.ag is hisn]; exact K.sv) hTU hk1 hc (by rw[eo]; exact hcell) (by rw[eo]; exact hth) hbr K.pl.bs (by omega) (by omega) (by omega) hj1.mod.size htg ?_
  intro σ' w' m' ha hr' hc' hone' htg' hj' hm'
  rw[eo] at hc'
  simp only [eo] at hm'
  have hmf:∀ k,w1.heap.size≤k∨k < w0.heap.size→m≠.map (some k):=fun k hk e=>by
   rcases htg with⟨h,_⟩ | ⟨mm,_,_,h,h1,h2,_⟩
   ·rw[h] at e; cases e
   ·rw[h] at e; cases e; omega
  have a6:Ag (n+6) σ1 σ':=fun i _=>ha i
  exact hg σ' w' (KJ.setTag K (hj1.agr (a6.mono (by omega))) hcell hmf hj' hr' hc' hone' htg' hm') a6
 ·have:=hQ1 hfl
  cases hkn:kN (kRtx fl k j) kDfl (uvN s).1 x (uvN s).2 with
  | none=>rw[hkn] at this; exact fun σ' w' hE=>this σ' w' hE.1 hE.2
  | some y=>rw[hkn] at this; exact fun σ' w' hJ _=>this σ' w' hJ
end
theorem zrk {b:Nat} (l:List Value) (o:Nat) (w:World) (hl:∀ j,j < l.length→(w.cell? ⟨b,o+j,none⟩).isSome=true):(w.setCells b o l).rangeAt b o l:=by
 have hex:∃ old:List Value,old.length=l.length∧w.rangeAt b o old:=by
  refine⟨(List.range l.length).map fun j=>(w.cell? ⟨b,o+j,none⟩).getD undef,by simp,fun j v hj=>?_⟩
  rw[List.getElem?_map] at hj
  cases hr:(List.range l.length)[j]? with
  | none=>rw[hr] at hj; simp at hj
  | some k=>
   rw[hr] at hj
   have hk:k=j:=by
    have:=List.getElem?_eq_some_iff.1 hr
    obtain⟨h1,h2⟩:=this
    simpa using h2.symm
   subst hk
   have hlt:k < l.length:=by have:=(List.getElem?_eq_some_iff.1 hr).1; simpa using this
   have hs:=hl k hlt
   simp only [Option.map_some,Option.some.injEq] at hj
   cases hc:w.cell? ⟨b,o+k,none⟩ with
   | none=>rw[hc] at hs; cases hs
   | some x=>rw[hc] at hj; simp at hj; rw[hj]
 obtain⟨old,ho1,ho2⟩:=hex
 have:=zax l o w old ho2 (by omega)
 rwa [List.drop_of_length_le (by omega),List.append_nil] at this
section
variable {P:Program} {N:Nums}
theorem run_growC (B:Base P N) {ad:Option Addr} {st et ty:TypeId} {a b sz by':Nat} {z z':Value} {d:TypeDesc} (hS:TI P st (.slice et) a b z') (ht:TI P et d sz by' z) {w:World} {L c:Nat} (hc:c < L) (hL2:L < 2147483648) (hsz:0 < sz) (hb:by'≤65536) (hz:z.cells.size=sz) :
  ∃ cap rest,L≤cap∧rest.length=(cap - L) * sz∧(Builtin.append_ #[st,N.zbr] ty #[.slice ad 0 c,.int .i32 L]).run P w=.ok (.slice (some ⟨w.heap.size,0,none⟩) L cap) (w.drew.alloc (.cells (zs z.cells.toList L++rest).toArray et)):=by
 obtain⟨i,hi,h1,h2,h3⟩:=ht.info
 have hmul:L * by'≤2147483648 * 65536:=Nat.mul_le_mul (by omega) hb
 have e47:(2147483648 * 65536:Nat)=140737488355328:=by decide
 rw[e47] at hmul
 have hnx:=nextslicecap_le hc
 have hnb:Builtin.nextslicecap L c * by'≤281474976710656:=by
  have:=Nat.mul_le_mul_right by' hnx
  rw[Nat.mul_assoc] at this
  omega
 have hw:IntKind.i64.wrap (L:Int)=L:=wrap_i64 (by omega) (by omega)
 have n1:¬ ((L:Int) < 0):=by omega
 have n2:¬ (281474976710656 < (L:Int) * (by':Int)):=by
  rw[← Int.natCast_mul]
  have h:=Int.ofNat_le.2 hmul
  omega
 have n3:L * sz≠0:=Nat.mul_ne_zero (by omega) (by omega)
 have n4:¬ (9223372036854775807 < (L:Int)):=by omega
 have n5:¬ (281474976710656 < Builtin.nextslicecap L c * by'):=by omega
 have n6:¬ (L≤c):=by omega
 have n7:sz≠0:=by omega
 have n8:L≠0:=by omega
 refine⟨grownCap w L c et,zs z.cells.toList (grownCap w L c et - L),grownCap_ge w L c et,by rw[zna,Array.length_toList,hz],?_⟩
 have hfc:(Builtin.firstCells sz 0 (.slice ad 0 c)).run P w.drew=.ok #[] w.drew:=by
  cases ad with
  | none=>rfl
  | some a=>simp [Builtin.firstCells]; rfl
 simp [Builtin.append_,run_underlying hS.und,run_underlying B.int32.und,sizeOf,typeInfo,zeroValue,hi,h1,h2,h3,asInt,asIntOf,hw,n1,n2,n3,n4,n5,n6,hfc,Question.forced,newRow,grownCap]
 congr 2
 apply Array.ext'
 simp [zhq]
theorem run_roomC (B:Base P N) {q:Nat} {st et ty:TypeId} {a b sz by':Nat} {z z':Value} {d:TypeDesc} (hS:TI P st (.slice et) a b z') (ht:TI P et d sz by' z) {w:World} {L c:Nat} (hL:0 < L) (hc:L≤c) (hL2:L < 2147483648) (hsz:0 < sz) (hb:by'≤65536) (hz:z.cells.size=sz) (hone:∀ x∈z.cells.toList,x.oneCell'=true) (hth:w.there q 0 (L * sz)) :
  (Builtin.append_ #[st,N.zbr] ty #[.slice (some ⟨q,0,none⟩) 0 c,.int .i32 L]).run P w=.ok (.slice (some ⟨q,0,none⟩) L c) (w.setCells q 0 (zs z.cells.toList L)):=by
 obtain⟨i,hi,h1,h2,h3⟩:=ht.info
 have hmul:L * by'≤2147483648 * 65536:=Nat.mul_le_mul (by omega) hb
 have e47:(2147483648 * 65536:Nat)=140737488355328:=by decide
 rw[e47] at hmul
 have hw:IntKind.i64.wrap (L:Int)=L:=wrap_i64 (by omega) (by omega)
 have n1:¬ ((L:Int) < 0):=by omega
 have n2:¬ (281474976710656 < (L:Int) * (by':Int)):=by
  rw[← Int.natCast_mul]
  have h:=Int.ofNat_le.2 hmul
  omega
 have n3:L * sz≠0:=Nat.mul_ne_zero (by omega) (by omega)
 have n7:sz≠0:=by omega
 have n8:L≠0:=by omega
 have hzl:(zs z.cells.toList L).length=L * sz:=by rw[zna,Array.length_toList,hz]
 have hst:=run_storeCells_cells (P:=P) q 0 (zs z.cells.toList L) 0 w (fun j hj=>by have:=(hth j (by omega)).1; simpa using this) (fun j hj=>by have:=(hth j (by omega)).2; simpa using this) (fun x hx=>by
  unfold zs at hx
  obtain⟨y,hy,hxy⟩:=List.mem_flatten.1 hx
  rw[List.eq_of_mem_replicate hy] at hxy
  have:=hone x hxy
  first | exact this | (cases x<;>first | rfl | simp [Value.oneCell'] at this))
 simp only [Nat.add_zero] at hst
 rw[← zhq] at hst
 simp [Builtin.append_,run_underlying hS.und,run_underlying B.int32.und,sizeOf,typeInfo,zeroValue,hi,h1,h2,h3,asInt,asIntOf,hw,n1,n2,n3,hc,Addr.add_lit,hst]
 rw[zhq]
section
variable {loc:List Nat} {N':Nat} {Q:Exit→Env→World→Prop} {σ:Env} {w:World}
structure RndK (N:Nums) (el:El) (ver:Int) (fl:Bool) (lo hi r n b1 L cap p:Nat) (s1:RS) (σ0:Env) (w1:World) (e:Value) (j:Nat) (σ:Env) (w:World):Prop where
 ag:Ag n σ0 σ
 arr:σ (n+1)=.slice (some ⟨b1,0,none⟩) L cap
 len:σ (n+2)=.int .i32 L
 i:σ p=.int .i32 j
 le:j≤L
 inv:∃ s,Inv N w lo hi r s e∧∃ vs css,rdN (el.rd ver fl) L s1=(match rdN (el.rd ver fl) (L - j) s with | none=>none | some (l,s)=>some (vs++l,s))∧vs.length=j ∧
  (∀ c∈css,c.length=el.sz)∧RepL w (GG lo hi w1.heap.size w.heap.size) vs css∧w.rangeAt b1 0 (css.flatten++zs el.zero (L - j))
 pl:Pl N w lo hi r b1 0 (L * el.sz)
 mod:Mod w1 w (orM (blk r) (blk b1))
theorem roundK {fx:Bool} {el:El} {st:TypeId} (hA:ArrT P N st el) (hel:ElOk P N fx el) (hlo:zei loc N') {u fl:Bool} {ver:Int} {lo hi r n b1 L cap p k j:Nat} {s1:RS} {σ0:Env} {w1:World} {e:Value}
  (hx:Cx σ0 fx u fl ver r) (hn:7≤n) (hp:n+2 < p) (hb1:b1 < w1.heap.size) (hrw:r < w1.heap.size) (hhw:hi≤w1.heap.size) (hR:RndK N el ver fl lo hi r n b1 L cap p s1 σ0 w1 e j σ w) (hj:j < L)
  (hret:rdN (el.rd ver fl) L s1=none→∀ σ' w',σ' 3=e→Mod w1 w' (orM (blk r) (blk b1))→Q .ret σ' w') :
  W P loc N' (seqs (el.gen N fx (n+1) p st (p+2) k)) (fun ex σ' w'=>match ex with
   | .normal=>σ' p=.int .i32 j∧RndK N el ver fl lo hi r n b1 L cap p s1 σ0 w1 e (j+1) (upd σ' p (.int .i32 ((j+1:Nat):Int))) w'
   | .ret=>Q .ret σ' w'
   | _=>False) σ w:=by
 obtain⟨s,hinv,vs,css,hrd,hvl,hcl,hrep,hrg⟩:=hR.inv
 have hfl:=zui hcl
 have hcss:=hrep.length
 have hjs:css.flatten.length=j * el.sz:=by rw[hfl,hcss,hvl]
 have hLj:L - j=(L - (j+1))+1:=by omega
 rw[hLj,zs_succ,← List.append_assoc] at hrg
 have hrg1:=zx.1 hrg
 have hrg2:=zx.1 hrg1.1
 rw[Nat.zero_add,hjs] at hrg2
 have hmul:j * el.sz+el.sz≤L * el.sz:=by
  have:(j+1) * el.sz≤L * el.sz:=Nat.mul_le_mul_right _ (by omega)
  rwa [Nat.succ_mul] at this
 have hne:el.gen N fx (n+1) p st (p+2) k≠[]:=by cases el<;>simp [El.gen]
 have hplj:Pl N w lo hi r b1 (j * el.sz) el.sz:=hR.pl.sub (Nat.zero_le _) (by omega)
 refine zfp hne (hel (s:=s) (e:=e) (fl:=fl) (ver:=ver) (b:=b1) (j:=j) (len:=L) (c:=cap) hlo (hx.ag hR.ag hn) hinv hplj hR.arr hR.i hj hA.st hrg2.2 (by omega) (by omega) (by omega) ?_)
 have hbr:=hR.pl.br
 have hbs:=hR.pl.bs
 have hblt:=hR.pl.lt
 have hmsz:=hR.mod.size
 have toR:∀ {w2:World},Mod w w2 (orM (blk r) (rng b1 (j * el.sz) el.sz))→Mod w1 w2 (orM (blk r) (blk b1)):=fun hm=>hR.mod.trans hm fun k i hk h=>h.elim id fun h=>h.elim .inl fun h=>.inr h.1
 rw[hLj] at hrd
 cases hv:el.rd ver fl s with
 | none=>
  simp only [rdN,hv] at hrd
  exact fun σ' w' h3 hm=>hret hrd σ' w' h3 (toR hm)
 | some x=>
  obtain⟨v,s2⟩:=x
  simp only [rdN,hv] at hrd
  intro σ2 w2 cs ha2 hr2 hm2 hrg3 hcl3 hrep3
  have hs2:=hm2.size
  have ha':∀ i,i < p+2→σ2 i=σ i:=fun i hi=>ha2 i hi
  refine⟨by rw[ha' p (by omega)]; exact hR.i,?_⟩
  refine⟨(hR.ag.trans ha2 (by omega)).upd (by omega),by rw[zg (by omega),ha' _ (by omega)]; exact hR.arr,by rw[zg (by omega),ha' _ (by omega)]; exact hR.len,upd_same _ _ _,by omega,?_,hR.pl.mod hm2,toR hm2⟩
  have hap:=hinv.rd.apart
  have hhi:=hinv.rd.hi_le
  have hrlt:=hinv.rd.lt
  refine⟨s2,hinv.mod hR.pl.bg hm2 hr2,vs++[v],css++[cs],?_,by simp [hvl],?_,?_,?_⟩
  ·rw[hrd]
   cases rdN (el.rd ver fl) (L - (j+1)) s2 with
   | none=>rfl
   | some x=>simp
  ·intro c hc
   rcases List.mem_append.1 hc with hc | hc
   ·exact hcl c hc
   ·simp at hc; subst hc; exact hcl3
  ·refine RepL.append (RepL.mod hm2 (fun k hk=>?_) vs hrep) ?_
   ·have hnot:k≠b1∧k≠r∧k < w.heap.size:=by
     rcases hk with⟨h2,h3⟩ | ⟨h2,h3⟩
     ·omega
     ·omega
    refine⟨hnot.2.2,fun o h=>h.elim hnot.2.1 fun h=>hnot.1 h.1,?_⟩
    rcases hk with hk | ⟨h2,h3⟩
    ·exact .inl hk
    ·exact .inr ⟨h2,by omega⟩
   ·simp only [RepL]
    exact⟨cs,[],rfl,Rep.mono (fun k hk=>hk.imp id fun h=>⟨by omega,h.2⟩) v hrep3,rfl⟩
  ·simp only [List.flatten_append,List.flatten_cons,List.flatten_nil,List.append_nil]
   rw[zx,zx]
   have hz:=hA.zl
   refine⟨⟨hm2.rangeAt hblt (fun i h1 h2 h=>h.elim hbr fun h=>by have:=h.2.1; omega) (by rw[hjs] at *; exact hrg2.1),by rw[Nat.zero_add,hjs]; exact hrg3⟩,?_⟩
   have h5:=hrg1.2
   simp only [List.length_append,hjs,Nat.zero_add,hcl3] at h5 ⊢
   rw[hz] at h5
   exact hm2.rangeAt hblt (fun i h1 h2 h=>h.elim hbr fun h=>by have:=h.2.2; omega) h5
def LV (q lz cz:Nat) (y:Val) (v:Value) (ls:List Val):Prop:=
 (y=.nilA∧v=.slice none 0 0∧ls=[]∧cz=0)∨∃ c,y=.arr lz ls∧v=.slice (some ⟨q,0,none⟩) ls.length c∧ls.length≤c∧0 < c∧cz=c * lz
theorem LV.one {q lz cz:Nat} {y:Val} {v:Value} {ls:List Val} (h:LV q lz cz y v ls):v.oneCell'=true:=by
 rcases h with⟨_,h,_⟩ | ⟨c,_,h,_⟩<;>rw[h]<;>rfl
theorem W_cArrK (B:Base P N) (F:Fns P N) {fx:Bool} {el:El} {st:TypeId} (hA:ArrT P N st el) (hone:∀ x∈el.zero,x.oneCell'=true) (hby:∃ d by' z,TI P (el.ty N) d el.sz by' z∧z.cells.toList=el.zero∧by'≤65536) (hcx:fx=true→N.zba≠0) (hel:ElOk P N fx el) (hlo:zei loc N') {u fl:Bool} {ver:Int} {lo hi r is b oo off n k idx a q cz:Nat} {s:RS} {e v0:Value} {Tt:TypeId} {fin:C} {y:Val} {ls:List Val}
  (hx:Cx σ fx u fl ver r) (hinv:Inv N w lo hi r s e) (his:σ is=.pointer (some ⟨b,oo,none⟩)) (hT:HF P Tt idx off) (hcell:w.cell? ⟨b,oo+off,none⟩=some v0) (hn:7≤n) (hisn:is < n) (hlv:LV q el.sz cz y v0 ls) (hq:q < w.heap.size) (haw:a≤w.heap.size) (hold:cz≠0→a≤q∧Pl N w lo hi r q 0 cz)
  (hbad:Ty.rdK ver fl (.arr st none el) y s=none→∀ σ' w',σ' 3=e→Mod w w' (orM (blk r) fun k _=>a≤k∧k=q)→Q .ret σ' w')
  (hgood:∀ y' s',Ty.rdK ver fl (.arr st none el) y s=some (y',s')→∀ σ' w' v' q' cz' ls' lcs',Ag n σ σ'→σ' n=v'→LV q' el.sz cz' y' v' ls'→Mod w w' (orM (blk r) fun k _=>a≤k∧k=q)→RdAt w' lo hi r s'→q' < w'.heap.size→(q'=q∨w.heap.size≤q')→KLst w' (KN lo hi w.heap.size w'.heap.size q') a q' ls' el.sz cz' lcs'→W P loc N' fin Q σ' w') :
  W P loc N' (cArr N fx is Tt idx st none n k (fun ia ii n k=>el.gen N fx ia ii st n k) fin) Q σ w:=by
 obtain⟨ad,n0,c0,hv0,hn0,hcz⟩:∃ ad n0 c0,v0=.slice ad n0 c0∧(c0≠0→ad=some ⟨q,0,none⟩)∧cz=c0 * el.sz:=by
  rcases hlv with⟨_,h,_,h2⟩ | ⟨c,_,h,_,_,h2⟩
  ·exact⟨none,0,0,h,fun h=>absurd rfl h,by rw[h2]; simp⟩
  ·exact⟨_,_,c,h,fun _=>rfl,h2⟩
 unfold cArr
 simp only [Option.isSome_none,Bool.false_eq_true,if_false,Nat.add_zero]
 obtain⟨p,hpp⟩:∃ m,m=n+3+(if fx=true then 1 else 0):=⟨_,rfl⟩
 have hpn:n+3≤p:=by rw[hpp]; omega
 rw[← hpp]
 clear hpp
 refine zd fun K hK=>zi fun τ=>?_
 simp +decide (disch:=omega) only [bK,bE,BEq.rfl,his]
 rw[zw rfl]
 simp +decide (disch:=omega) only [bK,bE,BEq.rfl,hT.run,hA.st.run_load1 rfl,hcell,zk,zai,locs_envOf]
 refine hK _ _ ?_
 clear hK K
 refine zd fun K hK=>zgp (hK _ _ ?_)
 clear hK K
 rw[upd_same]
 refine zd fun K hK=>zao (hK _ _ ?_)
 clear hK K
 obtain⟨σ1,hσ1⟩:∃ σ1,σ1=upd (upd (upd σ n v0) (n+1) v0) (n+2) (.int .i32 0):=⟨_,rfl⟩
 have ha1:Ag n σ σ1:=by rw[hσ1]; exact(((Ag.refl n σ).upd (by omega)).upd (by omega)).upd (by omega)
 have f1:σ1 (n+1)=v0:=by rw[hσ1,zg (by omega)]; exact upd_same _ _ _
 rw[← hσ1]
 clear hσ1
 refine zd fun K hK=>W_cLen B F hlo hA.len hcx (hx.ag ha1 hn) hinv.rd hn fun σ2 w2 ha2 f2 hr2 hm2=>hK _ _ ?_
 clear hK K
 have ha2':Ag n σ σ2:=ha1.trans ha2 (by omega)
 have g1:σ2 (n+1)=v0:=by rw[ha2 _ (by omega)]; exact f1
 have hinvM:∀ {w':World} {s':RS},Mod w w' (orM (blk r) fun k _=>a≤k∧k=q)→cz≠0∨Mod w w' (blk r)→RdAt w' lo hi r s'→Inv N w' lo hi r s' e:=by
  intro w' s' hm hor hr
  refine⟨hr,?_,hinv.gr,hinv.ei⟩
  rcases hor with h | h
  ·rw[hm.cell _ _ (zde (by rw[hinv.er]; rfl)) (fun h2=>h2.elim (fun h2=>hinv.gr h2) fun h2=>(hold h).2.bg h2.2.symm)]; exact hinv.er
  ·rw[h.cell _ _ (zde (by rw[hinv.er]; rfl)) (fun h2=>hinv.gr h2)]; exact hinv.er
 have toM:∀ {w':World},Mod w w' (blk r)→Mod w w' (orM (blk r) fun k _=>a≤k∧k=q):=fun h=>h.mono fun _ _ _ h=>.inl h
 have hinv2:=hinvM (toM hm2) (.inr hm2) hr2
 have hrd:Ty.rdK ver fl (.arr st none el) y s=(if (lenX fl s).2.bad then none else if 0 < (lenX fl s).1 then (match rdN (el.rd ver fl) (lenX fl s).1.toNat (lenX fl s).2 with | none=>none | some (l,s)=>some (.arr el.sz l,s)) else some ((match y with | .nilA=>.nilA | _=>.arr el.sz []),(lenX fl s).2)):=by
  cases y<;>(simp only [Ty.rdK]; rfl)
 have hbnd:=zon fl s
 obtain⟨X,hX⟩:∃ X,X=lenX fl s:=⟨_,rfl⟩
 rw[← hX] at hrd f2 hr2 hinv2 hbnd
 show W P loc N' (.seq (cOk N p) _) Q σ2 w2
 refine zd fun K hK=>W_cOk B F hlo hA.ok hA.cpl (hx.ag ha2' hn).rd (by omega) hinv2 (fun hbd σ3 w3 h3 hm3=>?_) fun hbd w3 hr3 hm3=>hK _ _ ?_
 ·rw[hrd,if_pos hbd] at hbad
  exact hbad rfl σ3 w3 h3 (toM (hm2.trans' hm3))
 clear hK K
 rw[hrd,hbd] at hbad hgood
 simp only [Bool.false_eq_true,if_false] at hbad hgood
 obtain⟨σ3,hσ3⟩:∃ σ3,σ3=upd σ2 p (.bool false):=⟨_,rfl⟩
 have ha3:Ag n σ σ3:=by rw[hσ3]; exact ha2'.upd (by omega)
 have k1:σ3 (n+1)=v0:=by rw[hσ3,zg (by omega)]; exact g1
 have k2:σ3 (n+2)=.int .i32 X.1:=by rw[hσ3,zg (by omega)]; exact f2
 rw[← hσ3]
 clear hσ3
 have hm03:Mod w w3 (blk r):=hm2.trans' hm3
 obtain⟨d,by',z,hty,hz,hby⟩:=hby
 have hdcut:(Instr.sliceAt st v0 none (some (.int .i64 0)) none).run P w3=.ok (.slice ad 0 c0) w3:=by
  rw[hv0]
  have:=zhj (P:=P) (w:=w3) hA.st hty (ad:=ad) (n:=n0) (c:=c0) (h:=0) (k:=.i64) (Nat.zero_le _)
  simpa using this
 refine zd fun K hK=>zi fun τ=>?_
 simp +decide (disch:=omega) only [bK,bE,BEq.rfl,Option.map_some,Option.map_none,k1,hdcut,zk,zai,locs_envOf]
 refine hK _ _ ?_
 clear hK K
 obtain⟨σ4,hσ4⟩:∃ σ4,σ4=upd σ3 (n+1) (.slice ad 0 c0):=⟨_,rfl⟩
 have ha4:Ag n σ σ4:=by rw[hσ4]; exact ha3.upd (by omega)
 have l1:σ4 (n+1)=.slice ad 0 c0:=by rw[hσ4]; exact upd_same _ _ _
 have l2:σ4 (n+2)=.int .i32 X.1:=by rw[hσ4,zg (by omega)]; exact k2
 rw[← hσ4]
 clear hσ4
 have hm03s:=hm03.size
 have hrlt:=hinv.rd.lt
 have hhi:=hinv.rd.hi_le
 refine zd fun K hK=>zd fun K1 hK1=>zi fun τ=>?_
 simp +decide (disch:=omega) only [bK,bE,BEq.rfl,l2,zk,zai,locs_envOf]
 refine hK1 _ _ (W_if hlo (upd_same _ _ _) ?_)
 clear hK1 K1
 by_cases hpos:0 < X.1
 ·rw[decide_eq_true (show X.1 > 0 from hpos),if_pos rfl]
  rw[if_pos hpos] at hbad hgood
  obtain⟨σ5,hσ5⟩:∃ σ5,σ5=upd σ4 (p+1) (.bool true):=⟨_,rfl⟩
  have ha5:Ag n σ σ5:=by rw[hσ5]; exact ha4.upd (by omega)
  have m1:σ5 (n+1)=.slice ad 0 c0:=by rw[hσ5,zg (by omega)]; exact l1
  have m2:σ5 (n+2)=.int .i32 X.1:=by rw[hσ5,zg (by omega)]; exact l2
  rw[← hσ5]
  clear hσ5
  obtain⟨L,hL⟩:∃ L:Nat,X.1=L:=⟨X.1.toNat,by omega⟩
  have hLt:X.1.toNat=L:=by omega
  rw[hLt] at hbad hgood
  rw[hL] at m2
  have hzs:z.cells.size=el.sz:=by rw[← Array.length_toList,hz]; exact hA.zl
  have go:∀ (b1 cap:Nat) (w4:World),(Builtin.append_ #[st,N.zbr] st #[.slice ad 0 c0,.int .i32 L]).run P w3=.ok (.slice (some ⟨b1,0,none⟩) L cap) w4→L≤cap→w4.rangeAt b1 0 (zs el.zero L)→Pl N w4 lo hi r b1 0 (cap * el.sz)→Mod w3 w4 (fun k _=>k=b1)→a≤b1→((b1=q∧cz≠0)∨w3.heap.size≤b1)→W P loc N' (.ops [⟨some 0,.move (V (n+1)),0,none,[]⟩,⟨some 1,.move (V (n+2)),0,none,[]⟩,⟨some 2,.call ⟨.builtin .append,#[T 0,T 1],#[st,N.zbr]⟩,st,none,[]⟩,⟨some (n+1+100),.assign (T 2),0,none,[]⟩]) (zfd K Q) σ5 w3:=by
   intro b1 cap w4 happ hcap rg4 pl4 mA ha1 hbq
   have s4:=mA.size
   refine zi fun τ=>?_
   simp +decide (disch:=omega) only [bK,bE,Nat.reduceBeqDiff,BEq.rfl,m1,m2,happ,zk,zai,locs_envOf]
   refine hK _ _ ?_
   clear hK K happ
   obtain⟨σ6,hσ6⟩:∃ σ6,σ6=upd σ5 (n+1) (.slice (some ⟨b1,0,none⟩) L cap):=⟨_,rfl⟩
   have ha6:Ag n σ σ6:=by rw[hσ6]; exact ha5.upd (by omega)
   have n1:σ6 (n+1)=.slice (some ⟨b1,0,none⟩) L cap:=by rw[hσ6]; exact upd_same _ _ _
   have n2:σ6 (n+2)=.int .i32 L:=by rw[hσ6,zg (by omega)]; exact m2
   rw[← hσ6]
   clear hσ6
   have hr4:RdAt w4 lo hi r X.2:=hr3.mod mA (fun _ h=>pl4.br h.symm) (fun k _ h1 h2 h=>by have:=pl4.bs; omega)
   have tot:∀ {w5:World},Mod w3 w5 (orM (blk r) (blk b1))→Mod w w5 (orM (blk r) fun k _=>a≤k∧k=q):=fun h=>hm03.trans h fun k o hk h=>h.elim .inl fun h=>h.elim .inl fun h=>by
    have h:k=b1:=h
    rcases hbq with hb | hb
    ·exact .inr ⟨by omega,by omega⟩
    ·omega
   have mA2:Mod w3 w4 (orM (blk r) (blk b1)):=mA.mono fun k o _ h=>.inr h
   have hm04:=tot mA2
   have hgl:=zde (show (w.cell? ⟨N.zj,0,none⟩).isSome=true by rw[hinv.er]; rfl)
   have hinv4:Inv N w4 lo hi r X.2 e:=by
    refine⟨hr4,?_,hinv.gr,hinv.ei⟩
    have h3:w3.cell? ⟨N.zj,0,none⟩=some e:=by rw[hm03.cell _ _ hgl (fun h=>hinv.gr h)]; exact hinv.er
    rw[mA.cell _ _ (by omega) (fun h=>pl4.bg h.symm)]; exact h3
   have hle:L * el.sz≤cap * el.sz:=Nat.mul_le_mul_right _ hcap
   refine zd fun K hK=>zyj (Q:=zfd K Q) (lv:=(L:Int)) hlo (by omega) (RndK N el ver fl lo hi r n b1 L cap (p+2) X.2 σ w4 e) (fun j σ w h=>⟨h.i,h.len,by have:=h.le; omega⟩) (fun j σ w bb h=>?_) ?_ (fun σ' w' h=>hK _ _ ?_) (fun j σ' w' hj h=>?_)
   ·exact⟨h.ag.upd (by omega),by rw[zg (by omega)]; exact h.arr,by rw[zg (by omega)]; exact h.len,by rw[zg (by omega)]; exact h.i,h.le,h.inv,h.pl,h.mod⟩
   ·refine⟨ha6.upd (by omega),by rw[zg (by omega)]; exact n1,by rw[zg (by omega)]; exact n2,upd_same _ _ _,Nat.zero_le _,⟨X.2,hinv4,[],[],?_,rfl,fun c hc=>by simp at hc,by simp only [RepL],by simpa using rg4⟩,pl4.sub (Nat.le_refl _) (by omega),.refl _ _⟩
    rw[Nat.sub_zero]
    cases rdN (el.rd ver fl) L X.2 with
    | none=>rfl
    | some x=>rfl
   ·have e1:(L:Int).toNat=L:=by omega
    rw[e1] at h
    obtain⟨s',hinv',vs,css,hrdN,hvl,hcl,hrep,hrg⟩:=h.inv
    rw[Nat.sub_self] at hrdN hrg
    simp only [rdN,List.append_nil] at hrdN
    rw[hrdN] at hgood
    have hmz:=h.mod.size
    have hblt4:=pl4.lt
    refine zd fun K5 hK5=>zgp (hK5 _ _ ?_)
    rw[h.arr]
    exact hgood _ _ rfl (upd σ' n (.slice (some ⟨b1,0,none⟩) L cap)) w' (.slice (some ⟨b1,0,none⟩) L cap) b1 (cap * el.sz) vs css (h.ag.upd (Nat.le_refl _)) (upd_same _ _ _) (.inr ⟨cap,rfl,by rw[hvl],by omega,by omega,rfl⟩) (tot (mA2.trans' h.mod)) hinv'.rd (by omega) (hbq.imp (fun h=>h.1) fun h=>by omega)
     (.inr ⟨ha1,h.mod.there hblt4 pl4.there,hcl,RepL.mono (fun k hk=>hk.imp id fun hk=>⟨by omega,hk.2,by omega⟩) _ hrep,by simpa [zs] using hrg⟩)
   ·refine zii (roundK (Q:=Q) hA hel hlo hx hn (by omega) pl4.lt (by omega) (by omega) h (by omega) (fun hnone σ'' w'' h3 hm=>?_)) fun ex σ'' w'' hq=>?_
    ·rw[hnone] at hbad
     exact hbad rfl σ'' w'' h3 (tot (mA2.trans' hm))
    ·cases ex<;>first | exact hq | exact hq.elim
  by_cases hroom:L≤c0
  ·have hc0:c0≠0:=by omega
   have hcz0:cz≠0:=by rw[hcz]; exact Nat.mul_ne_zero hc0 (by have:=hA.sz; omega)
   obtain⟨haq,hplq⟩:=hold hcz0
   have hpl3:=hplq.mod hm03
   rw[hcz] at hpl3
   have hle:L * el.sz≤c0 * el.sz:=Nat.mul_le_mul_right _ hroom
   have hap:=run_roomC B (q:=q) (ty:=st) hA.st hty (w:=w3) (L:=L) (c:=c0) (by omega) hroom (by omega) hA.sz hby hzs (by rw[hz]; exact hone) (fun j hj=>hpl3.there j (by omega))
   rw[hz] at hap
   have hzl:(zs el.zero L).length=L * el.sz:=by rw[zna,hA.zl]
   have ms:Mod w3 (w3.setCells q 0 (zs el.zero L)) (fun k _=>k=q):=Mod.setCells _ _ _ fun _ _ _ _=>rfl
   exact go q c0 _ (by rw[hn0 hc0]; exact hap) hroom (zrk _ _ _ fun j hj=>(hpl3.there j (by omega)).1) (hpl3.mod ms) ms haq (.inl ⟨rfl,hcz0⟩)
  ·obtain⟨cap,rest,hcap,hrl,hgrow⟩:=run_growC B (ad:=ad) (ty:=st) hA.st hty (w:=w3) (L:=L) (c:=c0) (by omega) (by omega) hA.sz hby hzs
   obtain⟨w4,hw4⟩:∃ w4,w4=w3.drew.alloc (.cells (zs z.cells.toList L++rest).toArray (el.ty N)):=⟨_,rfl⟩
   rw[← hw4] at hgrow
   have mA:Mod w3 w4 zy:=by rw[hw4]; exact(Mod.drew w3 zy).trans' (Mod.alloc _ _ _)
   have s4:w4.heap.size=w3.heap.size+1:=by rw[hw4]; exact zav w3.drew _
   have rg4:w4.rangeAt w3.heap.size 0 (zs el.zero L):=by
    have:=zr w3.drew (zs z.cells.toList L++rest).toArray (el.ty N) (0,0)
    rw[hw4,← hz]
    exact(zx.1 (by simpa using this)).1
   have th4:w4.there w3.heap.size 0 (cap * el.sz):=by
    have:=zbq w3.drew (zs z.cells.toList L++rest).toArray (el.ty N)
    rw[hw4]
    intro j hj
    refine this j ?_
    simp only [List.size_toArray,List.length_append,zna,hz,hA.zl,hrl,← Nat.add_mul]
    rwa [show L+(cap - L)=cap by omega]
   clear hw4
   have hgl:=zde (show (w.cell? ⟨N.zj,0,none⟩).isSome=true by rw[hinv.er]; rfl)
   have hh3:=hr3.hi_le
   exact go w3.heap.size cap w4 hgrow hcap rg4 ⟨th4,by omega,by omega,.inr hh3,by omega⟩ (mA.mono fun _ _ _ h=>h.elim) (by omega) (.inr (Nat.le_refl _))
 ·rw[decide_eq_false (show ¬ X.1 > 0 from hpos),if_neg (by simp)]
  rw[if_neg hpos] at hbad hgood
  refine zbd (hK _ _ ?_)
  clear hK K
  have hz0:X.1.toNat=0:=by omega
  refine zd fun K hK=>zyj (Q:=zfd K Q) (lv:=X.1) hlo hbnd.2 (fun j σ' w'=>w'=w3∧Ag n σ σ'∧σ' (n+1)=.slice ad 0 c0∧σ' (n+2)=.int .i32 X.1∧σ' (p+2)=.int .i32 j∧j=0) (fun j σ w h=>⟨h.2.2.2.2.1,h.2.2.2.1,by have:=h.2.2.2.2.2; omega⟩) (fun j σ w bb h=>?_) ?_ (fun σ' w' h=>hK _ _ ?_) (fun j σ' w' hj h=>by omega)
  ·obtain⟨h1,h2,h3,h4,h5,h6⟩:=h
   exact⟨h1,h2.upd (by omega),by rw[zg (by omega)]; exact h3,by rw[zg (by omega)]; exact h4,by rw[zg (by omega)]; exact h5,h6⟩
  ·exact⟨rfl,(ha4.upd (by omega)).upd (by omega),by rw[zg (by omega),zg (by omega)]; exact l1,by rw[zg (by omega),zg (by omega)]; exact l2,upd_same _ _ _,rfl⟩
  ·obtain⟨h1,h2,h3,_,_,_⟩:=h
   subst h1
   refine zd fun K5 hK5=>zgp (hK5 _ _ ?_)
   rw[h3]
   rcases hlv with⟨hy,hv,hl,hc⟩ | ⟨c,hy,hv,hl,hc,hcc⟩
   ·rw[hv0] at hv
    cases hv
    subst hy
    exact hgood _ _ rfl _ w' (.slice none 0 0) q 0 [] [] (h2.upd (Nat.le_refl _)) (upd_same _ _ _) (.inl ⟨rfl,rfl,rfl,rfl⟩) (toM hm03) hr3 (by omega) (.inl rfl) (.inl ⟨rfl,rfl⟩)
   ·rw[hv0] at hv
    cases hv
    subst hy
    have hcz0:cz≠0:=by rw[hcc]; exact Nat.mul_ne_zero (by omega) (by have:=hA.sz; omega)
    obtain⟨haq,hplq⟩:=hold hcz0
    exact hgood _ _ rfl _ w' (.slice (some ⟨q,0,none⟩) 0 c0) q cz [] [] (h2.upd (Nat.le_refl _)) (upd_same _ _ _) (.inr ⟨c0,rfl,rfl,Nat.zero_le _,hc,hcc⟩) (toM hm03) hr3 (by omega) (.inl rfl) (.inr ⟨haq,hm03.there hplq.lt hplq.there,fun x hx=>by simp at hx,by simp only [RepL],fun j v hj=>by simp at hj⟩)
end
end
theorem locS_locS {i j:Nat} {loc:List Nat} (hi:i < loc.length) (hj:j < loc.length):locS i j (locS i j loc)=loc:=by
 have hl:(locS i j loc).length=loc.length:=by simp [locS]
 refine List.ext_getElem? fun k=>?_
 rw[zmm (by omega) (by omega),zmm hi hj,zlf]
theorem locS_len {i j:Nat} {loc:List Nat}:(locS i j loc).length=loc.length:=by simp [locS]
section
variable {P:Program} {N:Nums}
theorem W_unsw {loc:List Nat} {N' q:Nat} (hlo:zei loc N') (h4:4 < loc.length) (hq:q < loc.length) {c:C} {Q:Exit→Env→World→Prop} {σ:Env} {w:World} (h:W P loc N' c Q (swE 4 q σ) w):W P (locS 4 q loc) N' (c.sw 4 q) (fun e σ' w'=>Q e (swE 4 q σ') w') σ w:=by
 refine W_sw (loc:=locS 4 q loc) (zom hlo.nd h4 hq) (by rw[locS_len]; exact h4) (by rw[locS_len]; exact hq) ?_
 rw[locS_locS h4 hq]
 exact zii h fun e σ w h=>by rw[swE_swE]; exact h
theorem W_keyArr (B:Base P N) (F:Fns P N) (hU:N.zq≠0) (hS:N.zu≠0) (hC:N.zaf≠0) {fx:Bool} {el:El} {st:TypeId} (hA:ArrT P N st el) (hone:∀ x∈el.zero,x.oneCell'=true) (hby:∃ d by' z,TI P (el.ty N) d el.sz by' z∧z.cells.toList=el.zero∧by'≤65536) (hcx:fx=true→N.zba≠0) (hel:ElOk P N fx el)
  {loc:List Nat} {N':Nat} (hlo:zei loc N') {Q:Exit→Env→World→Prop} {σ:Env} {w:World} {u fl:Bool} {ver:Int} {lo hi r q is b oo off idx k a q0 cz:Nat} {Tt:TypeId} {s:RS} {te:TypeId} {ve:Value} {y:Val} {v0:Value} {ls:List Val}
  (hx:Cx σ fx u fl ver r) (hr:RdAt w lo hi r s) (h7q:7≤q) (his:is < q) (hi4:is≠4) (hσ:σ is=.pointer (some ⟨b,oo,none⟩)) (hT:HF P Tt idx off) (hpl:Pl N w lo hi r b (oo+off) 1) (he:w.cell? ⟨N.zj,0,none⟩=some (.iface te ve)) (hgr:N.zj≠r) (hcell:w.cell? ⟨b,oo+off,none⟩=some v0)
  (hlv:LV q0 el.sz cz y v0 ls) (hq0:q0 < w.heap.size) (hba:b < a) (hga:N.zj < a) (haw:a≤w.heap.size) (hra:r < a) (hia:hi≤a) (hold:cz≠0→a≤q0∧w.there q0 0 cz)
  (hgood:∀ y' s',Ty.rdK ver fl (.arr st none el) y (inS s)=some (y',s')→s'.bad=false→∀ σ' w1 v' q' cz' ls' lcs',Ag q σ σ'→LV q' el.sz cz' y' v' ls'→Mod w w1 (orM (blk r) fun k _=>a≤k∧k=q0)→RdAt w1 lo hi r (outS s)→q' < w1.heap.size→(q'=q0∨w.heap.size≤q')→KLst w1 (KN lo hi w.heap.size w1.heap.size q') a q' ls' el.sz cz' lcs'→Q .normal σ' (w1.setCells b (oo+off) [v']))
  (hbad:(∀ y' s',Ty.rdK ver fl (.arr st none el) y (inS s)=some (y',s')→s'.bad=true)→∀ σ' w',σ' 3=.iface te ve→Mod w w' (orM (blk r) fun k o=>(a≤k∧k=q0)∨rng b (oo+off) 1 k o)→Q .ret σ' w') :
  W P loc N' (Ty.genK N fx is Tt idx (.arr st none el) q k) Q σ w:=by
 rw[Ty.genK]
 simp only [Option.isSome_none,Bool.false_eq_true,if_false,Nat.add_zero]
 obtain⟨m,hm⟩:∃ m,m=q+8+(if fx=true then 1 else 0)+El.vn fx el:=⟨_,rfl⟩
 have hmq:q+1 < m:=by rw[hm]; omega
 rw[← hm]
 clear hm
 refine W_dst (q:=q) ⟨⟨some (q+100),.alloc N.zv,0,none,[]⟩,by simp [opsR],rfl⟩ fun hql=>?_
 have h4l:4 < loc.length:=by omega
 have hrl:=hr.lt
 have hhi:=hr.hi_le
 refine zd fun K hK=>zacq B F hU hS hx.rd hr h7q fun w1 bq hb1 hb2 hr1 hi1 hm1=>hK _ _ ?_
 clear hK K
 obtain⟨σ1,hσ1⟩:∃ σ1,σ1=upd σ q (.pointer (some ⟨bq,0,none⟩)):=⟨_,rfl⟩
 have a1:Ag q σ σ1:=by rw[hσ1]; exact(Ag.refl q σ).upd (Nat.le_refl _)
 have q1:σ1 q=.pointer (some ⟨bq,0,none⟩):=by rw[hσ1]; exact upd_same _ _ _
 rw[← hσ1]
 clear hσ1
 have hs1:=hm1.size
 have hplb:=hpl.lt
 have hbr:=hpl.br
 have hbs:=hpl.bs
 have hx1:Cx σ1 fx u fl ver r:=hx.ag a1 h7q
 have hx':Cx (swE 4 q σ1) fx u fl ver bq:=⟨by rw[znc (by omega) (by omega)]; exact hx1.un,by rw[swE_4]; exact q1,by rw[znc (by omega) (by omega)]; exact hx1.vr,fun e=>by rw[znc (by omega) (by omega)]; exact hx1.fle e,hx1.nofl⟩
 have hlo':zei (locS 4 q loc) N':=by
  refine⟨fun i s hs=>?_,zom hlo.nd h4l hql⟩
  rw[zmm h4l hql] at hs
  exact hlo.lt _ _ hs
 have hgl:=zde (show (w.cell? ⟨N.zj,0,none⟩).isSome=true by rw[he]; rfl)
 have he1:w1.cell? ⟨N.zj,0,none⟩=some (.iface te ve):=by rw[hm1.cell _ _ hgl (fun h=>hgr h)]; exact he
 have hinv1:Inv N w1 lo hi bq (inS s) (.iface te ve):=⟨hi1,he1,by omega,_,_,rfl⟩
 have hcell1:w1.cell? ⟨b,oo+off,none⟩=some v0:=by rw[hm1.cell _ _ hplb (fun h=>hbr h)]; exact hcell
 have totM:∀ {w2:World},Mod w1 w2 (orM (blk bq) fun k _=>a≤k∧k=q0)→Mod w w2 (orM (blk r) fun k _=>a≤k∧k=q0):=fun h=>hm1.trans h fun k o hk h=>h.elim .inl fun h=>h.elim (fun h=>by have:k=bq:=h; omega) .inr
 refine W_sw hlo.nd h4l hql (W_cArrK (σ:=swE 4 q σ1) (a:=a) (q:=q0) (cz:=cz) (y:=y) (ls:=ls) B F hA hone hby hcx hel hlo' hx' hinv1 (b:=b) (oo:=oo) (by rw[znc hi4 (by omega),a1 is his]; exact hσ) hT hcell1 (by omega) (by omega) hlv (by omega) (by omega) (fun hc=>?_) ?_ ?_)
 ·obtain⟨h1,h2⟩:=hold hc
  exact⟨h1,hm1.there hq0 h2,by omega,by omega,.inr (by omega),by omega⟩
 ·intro hnone σ' w' h3 hm2
  exact hbad (fun y' s' h=>by rw[hnone] at h; cases h) _ w' (by rw[znc (by omega) (by omega)]; exact h3) ((totM hm2).mono fun k o _ h=>h.imp id .inl)
 ·intro y' s' hrd σ2 w2 v' q' cz' ls' lcs' a2 hv2 hlv' hm2 hi2 hq' hqq hkl
  refine W_unsw (Q:=Q) hlo h4l hql ?_
  have hm02:=totM hm2
  have hs2:=hm2.size
  have a2':Ag (q+1) σ1 (swE 4 q σ2):=swE_ag (by omega) (by omega) a2
  have a12:Ag q σ (swE 4 q σ2):=a1.trans (a2'.mono (by omega)) (Nat.le_refl _)
  have q2:swE 4 q σ2 q=.pointer (some ⟨bq,0,none⟩):=by rw[a2' q (by omega)]; exact q1
  have v2:swE 4 q σ2 (q+1)=v':=by rw[znc (by omega) (by omega)]; exact hv2
  have hs2':zjs P (.move (V (q+1))) (swE 4 q σ2) w2 v':=by rw[← v2]; exact zjs.move
  have hone':=hlv'.one
  have hc:=zds hone'
  have hpl2:=hpl.mod hm02
  refine zd fun K hK=>zte hT hA.st hs2' (by rw[a12 is his]; exact hσ) (cs:=[v']) (by rw[hc]) rfl (by intro c hc'; simp at hc'; subst hc'; exact hone') hpl2.there (hK _ _ ?_)
  clear hK K
  have hbq:b≠bq:=by omega
  have ms:Mod w2 (w2.setCells b (oo+off) [v']) (rng b (oo+off) 1):=Mod.setCells _ _ _ fun _ i h2 h3=>⟨rfl,h2,by simpa using h3⟩
  have hi3:RdAt (w2.setCells b (oo+off) [v']) lo hi bq s':=hi2.mod ms (fun o h=>hbq h.1.symm) fun k o h1 h2 h=>by have:=h.1; omega
  have hr2:RdAt w2 lo hi r (outS s):=hr1.mod hm2 (fun o h=>h.elim (fun h=>by have:r=bq:=h; omega) fun h=>by omega) fun k o h1 h2 h=>h.elim (fun h=>by have:k=bq:=h; have:=hi1.apart; omega) fun h=>by omega
  have he2:w2.cell? ⟨N.zj,0,none⟩=some (.iface te ve):=by rw[hm02.cell _ _ hgl (fun h=>h.elim (fun h=>hgr h) fun h=>by omega)]; exact he
  have he3:(w2.setCells b (oo+off) [v']).cell? ⟨N.zj,0,none⟩=some (.iface te ve):=by
   rw[ms.cell _ _ (zde (by rw[he2]; rfl)) (fun h=>hpl.bg h.1.symm)]; exact he2
  refine W_endK B F hC hlo (m:=m) hql h7q (by omega) q2 hi3 he3 (fun hb σ' ha=>?_) fun hb σ' h3=>?_
  ·refine hgood y' s' hrd hb σ' w2 v' q' cz' ls' lcs' (a12.trans (ha.mono (by omega)) (Nat.le_refl _)) hlv' hm02 hr2 hq' (by omega) ?_
   refine hkl.imp id fun ⟨h1,h2,h3,h4,h5⟩=>⟨h1,h2,h3,RepL.mono (fun k hk=>hk.imp id fun hk=>⟨by omega,hk.2⟩) _ h4,h5⟩
  ·refine hbad (fun y2 s2 h=>?_) σ' _ h3 (hm02.trans ms fun k o _ h=>h.elim (fun h=>h.imp id .inl) fun h=>.inr (.inr h))
   rw[hrd] at h
   cases h
   exact hb
theorem RepL.getK {w:World} {G:Nat→Prop}:∀ {l:List Val} {css:List (List Value)} {j:Nat} {y:Val},RepL w G l css→l[j]?=some y→∃ c,css[j]?=some c∧Rep w G y c
 | [],_,_,_,_,h=>by simp at h
 | v :: l,_,0,y,⟨c,r,h1,h2,h3⟩,h=>by
  simp only [List.getElem?_cons_zero,Option.some.injEq] at h
  subst h1 h
  exact⟨c,rfl,h2⟩
 | v :: l,_,j+1,y,⟨c,r,h1,h2,h3⟩,h=>by
  simp only [List.getElem?_cons_succ] at h
  subst h1
  obtain⟨c',a,b⟩:=RepL.getK (l:=l) h3 h
  exact⟨c',by simpa using a,b⟩
theorem RepL.put {w:World} {G:Nat→Prop}:∀ {l:List Val} {css:List (List Value)} {j:Nat} {y y':Val},RepL w G l css→l[j]?=some y→(∀ c,css[j]?=some c→Rep w G y c→Rep w G y' c)→RepL w G (l.set j y') css
 | [],_,_,_,_,_,h,_=>by simp at h
 | v :: l,_,0,y,y',⟨c,r,h1,h2,h3⟩,h,hf=>by
  simp only [List.getElem?_cons_zero,Option.some.injEq] at h
  subst h1 h
  exact⟨c,r,rfl,hf c rfl h2,h3⟩
 | v :: l,_,j+1,y,y',⟨c,r,h1,h2,h3⟩,h,hf=>by
  simp only [List.getElem?_cons_succ] at h
  subst h1
  exact⟨c,r,rfl,h2,RepL.put (l:=l) h3 h fun c hc=>hf c (by simpa using hc)⟩
variable {lo hi r is b o0 off oo n:Nat} {szs:List Nat} {te:TypeId} {ve:Value} {fx u fl:Bool} {ver:Int} {w00 w0:World} {σ0:Env} {q:Nat} {ls:List Val} {lz cz:Nat}
structure KEnd (N:Nums) (lo hi r b oo:Nat) (szs:List Nat) (n:Nat) (w00:World) (σ0:Env) (w0:World) (x:List Val × List (Nat × List UInt8)) (s:RS) (σ:Env) (w:World):Prop where
 ag:Ag n σ0 σ
 rd:RdAt w lo hi r s
 mod:Mod w0 w (orM (blk r) (rng b oo (szs.sum+1)))
 ex:∃ css m,css.map List.length=szs∧w.rangeAt b oo (css.flatten++[m])∧RepL w (GG lo hi w00.heap.size w.heap.size) x.1 css∧m.oneCell'=true∧zms w (fun k=>lo≤k∧k < hi) w0.heap.size m x.2
theorem KJ.end' {x:List Val × List (Nat × List UInt8)} {s:RS} {σ:Env} {w:World} (h:KJ N lo hi r is b oo szs te ve n fx u fl ver w00 σ0 w0 q ls lz cz x s σ w):KEnd N lo hi r b oo szs n w00 σ0 w0 x s σ w:=by
 obtain⟨hag,hrd,hmod,_,css,m,_,hl,hrg,hrep,hone,htg,_,_⟩:=h
 exact⟨hag,hrd,hmod,css,m,hl,hrg,RepL.mono (fun k hk=>hk.imp id fun hk=>⟨hk.1,hk.2.1⟩) _ hrep,hone,htg⟩
theorem KJ.cellAt {x:List Val × List (Nat × List UInt8)} {s:RS} {σ:Env} {w:World} (h:KJ N lo hi r is b oo szs te ve n fx u fl ver w00 σ0 w0 q ls lz cz x s σ w) {j:Nat} {v:Value} (hx:x.1[j]?=some (.num v)) (hv:v.oneCell'=true):w.cell? ⟨b,oo+(szs.take j).sum,none⟩=some v:=by
 obtain⟨_,_,_,_,css,m,_,hl,hrg,hrep,_⟩:=h
 obtain⟨c,hc,hr⟩:=hrep.getK hx
 simp only [Rep] at hr
 rw[zds hv] at hr
 obtain⟨hjl,hje⟩:=List.getElem?_eq_some_iff.1 hc
 rw[zoq hjl,hje,hr,List.append_assoc,zx,take_len hl j] at hrg
 exact hrg.2 0 v rfl
def JA (N:Nums) (lo hi r is b oo:Nat) (szs:List Nat) (te:TypeId) (ve:Value) (n:Nat) (fx u fl:Bool) (ver:Int) (w00:World) (σ0:Env) (w0:World) (lz j:Nat) (x:List Val × List (Nat × List UInt8)) (s:RS) (σ:Env) (w:World):Prop:=
 ∃ q ls cz v y,KJ N lo hi r is b oo szs te ve n fx u fl ver w00 σ0 w0 q ls lz cz (x.1.set j (.num v),x.2) s σ w∧x.1[j]?=some y∧LV q lz cz y v ls
theorem JA.end' {x:List Val × List (Nat × List UInt8)} {s:RS} {σ:Env} {w:World} {j:Nat} (hlz:0 < lz) (hle:w00.heap.size≤w0.heap.size) (h:JA N lo hi r is b oo szs te ve n fx u fl ver w00 σ0 w0 lz j x s σ w):KEnd N lo hi r b oo szs n w00 σ0 w0 x s σ w:=by
 obtain⟨q,ls,cz,v,y,hJ,hy,hlv⟩:=h
 obtain⟨hag,hrd,hmod,hqb,css,m,lcs,hl,hrg,hrep,hone,htg,_,hls⟩:=hJ
 have hjl:j < x.1.length:=(List.getElem?_eq_some_iff.1 hy).1
 have hone':=hlv.one
 refine⟨hag,hrd,hmod,css,m,hl,hrg,?_,hone,htg⟩
 have h1:RepL w (GG lo hi w00.heap.size w.heap.size) (x.1.set j (.num v)) css:=RepL.mono (fun k hk=>hk.imp id fun hk=>⟨hk.1,hk.2.1⟩) _ hrep
 have h2:=RepL.put (y':=y) h1 (by rw[List.getElem?_set_self hjl]) fun c _ hr=>by
  simp only [Rep] at hr
  rw[zds hone'] at hr
  have hr:c=[v]:=hr
  subst hr
  rcases hlv with⟨rfl,rfl,_,_⟩ | ⟨c,rfl,rfl,h3,h4,h5⟩
  ·simp only [Rep]
  ·have hcz:cz≠0:=by rw[h5]; exact Nat.mul_ne_zero (by omega) (by omega)
   rcases hls with⟨h,_⟩ | ⟨g1,g2,g3,g4,g5⟩
   ·exact absurd h hcz
   ·simp only [Rep]
    exact⟨q,c,lcs,rfl,h3,fun _=>.inr ⟨by omega,hqb⟩,g3,RepL.mono (fun k hk=>hk.imp id fun hk=>⟨hk.1,hk.2.1⟩) _ g4,g5⟩
 have he:x.1.set j y=x.1:=by
  refine List.ext_getElem? fun i=>?_
  rw[List.getElem?_set]
  split
  ·rename_i e
   subst e
   exact hy.symm
  ·rfl
 rw[List.set_set,he] at h2
 exact h2
theorem W_ktagsArr (B:Base P N) (F:Fns P N) (hU:N.zq≠0) (hS:N.zu≠0) (hC:N.zaf≠0) (hSet:N.zcz≠0) (hTg:N.zcy≠0) {el:El} {st:TypeId} (hA:ArrT P N st el) (hone:∀ x∈el.zero,x.oneCell'=true) (hby:∃ d by' z,TI P (el.ty N) d el.sz by' z∧z.cells.toList=el.zero∧by'≤65536) (hcx:fx=true→N.zba≠0) (hel:ElOk P N fx el)
  {loc:List Nat} {N':Nat} (hlo:zei loc N') {Q:Exit→Env→World→Prop}
  (K:KF N lo hi r is b o0 off oo (szs.sum+1) te ve n fx u fl ver w00 σ0 w0) (hi4:is≠4) (hfx:fx=true) {Tt:TypeId} {idx idxU j kb kb2:Nat} (hj:szs[j]?=some 1) (hT:HF P Tt idx (off+(szs.take j).sum)) (hTU:HF P Tt idxU (off+szs.sum)) {x:List Val × List (Nat × List UInt8)} {s:RS}
  (h0:KJ N lo hi r is b oo szs te ve n fx u fl ver w00 σ0 w0 r [] el.sz 0 x s σ0 w0) (hx0:x.1[j]?=some .nilA)
  (hQ0:fl=false→∀ σ',Ag n σ0 σ'→Q .normal σ' w0)
  (hQ1:fl=true→match kN (kRj (Ty.rdK ver fl (.arr st none el)) j) kDfl (uvN s).1 x (uvN s).2 with
   | none=>∀ σ' w',σ' 3=.iface te ve→Mod w0 w' (orM (blk r) (rng b oo (szs.sum+1)))→Q .ret σ' w'
   | some y=>∀ σ' w',KEnd N lo hi r b oo szs n w00 σ0 w0 y.1 y.2 σ' w'→Q .normal σ' w'):W P loc N' (zuw N n kb (Ty.genK N fx is Tt idx (.arr st none el) (n+6) kb2) (.draw (dDfl N is Tt idxU n))) Q σ0 w0:=by
 have hn:=K.n7
 have hisn:=K.isn
 have hplb:=K.pl.lt
 have hbr:=K.pl.br
 have hb0:=K.b0
 have hh0:=K.h0
 have hr0:=K.r0
 have hle:=K.le
 have eo:∀ x,o0+(off+x)=oo+x:=fun x=>by have:=K.oe; omega
 have hgl:=zde (show (w0.cell? ⟨N.zj,0,none⟩).isSome=true by rw[K.er]; rfl)
 have hsum:(szs.take j).sum+1≤szs.sum:=by
  obtain⟨hjl,hje⟩:=List.getElem?_eq_some_iff.1 hj
  have e:szs.sum=(szs.take j).sum+(szs.drop j).sum:=by rw[← List.sum_append,List.take_append_drop]
  rw[e,List.drop_eq_getElem_cons hjl,List.sum_cons,hje]
  omega
 have hJ0:JA N lo hi r is b oo szs te ve n fx u fl ver w00 σ0 w0 el.sz j x s σ0 w0:=by
  refine⟨r,[],0,.slice none 0 0,.nilA,?_,hx0,.inl ⟨rfl,rfl,rfl,rfl⟩⟩
  obtain⟨a1,a2,a3,a4,css,m,lcs,b1,b2,b3,b4⟩:=h0
  exact⟨a1,a2,a3,a4,css,m,lcs,b1,b2,b3.put hx0 fun c _ hr=>by simp only [Rep] at hr ⊢; exact hr,b4⟩
 refine zacs (J:=JA N lo hi r is b oo szs te ve n fx u fl ver w00 σ0 w0 el.sz j) (E:=fun σ' w'=>σ' 3=.iface te ve∧Mod w0 w' (orM (blk r) (rng b oo (szs.sum+1)))) (keyR:=kRj (Ty.rdK ver fl (.arr st none el)) j) (dfl:=kDfl) (lo:=lo) (hi:=hi) (r:=r) B F hU hlo hn (K.cx.fle hfx)
  (fun ⟨_,_,_,_,_,h,_⟩=>⟨by rw[h.ag 4 (by omega)]; exact K.cx.rd,h.rd⟩) (fun ⟨q,ls,cz,v,y,h,h2⟩ a=>⟨q,ls,cz,v,y,h.agr a,h2⟩) (fun ⟨q,ls,cz,v,y,h,h2⟩ hr m=>⟨q,ls,cz,v,y,h.move K hr m,h2⟩) hJ0 ?_ ?_ hQ0 fun hfl=>?_
 ·rintro x1 s1 σ1 w1 Q1 ⟨q,ls,cz,v,y,hJ,hy,hlv⟩ hg hb
  have hjl:j < x1.1.length:=(List.getElem?_eq_some_iff.1 hy).1
  have hv1:=hlv.one
  have he1:w1.cell? ⟨N.zj,0,none⟩=some (.iface te ve):=by
   rw[hJ.mod.cell _ _ hgl (fun h=>h.elim (fun h=>K.gr h) fun h=>K.pl.bg h.1.symm)]; exact K.er
  have hpl1:Pl N w1 lo hi r b (oo+(szs.take j).sum) 1:=(K.pl.mod hJ.mod).sub (by omega) (by omega)
  have hcell:=hJ.cellAt (j:=j) (v:=v) (by rw[List.getElem?_set_self hjl]) hv1
  have hold:cz≠0→w0.heap.size≤q∧w1.there q 0 cz:=fun hc=>by
   obtain⟨_,_,_,_,_,_,_,_,_,_,_,_,_,hls⟩:=hJ
   rcases hls with⟨h,_⟩ | ⟨h1,h2,_⟩
   ·exact absurd h hc
   ·exact⟨h1,h2⟩
  have hgd:x1.1.getD j .nilP=y:=by rw[List.getD_eq_getElem?_getD,hy]; rfl
  have s01:=hJ.mod.size
  refine W_keyArr B F hU hS hC hA hone hby hcx hel hlo (lo:=lo) (hi:=hi) (r:=r) (oo:=o0) (off:=off+(szs.take j).sum) (a:=w0.heap.size) (q0:=q) (cz:=cz) (y:=y) (ls:=ls) (K.cx.ag hJ.ag hn) hJ.rd (by omega) (by omega) hi4 (by rw[hJ.ag is hisn]; exact K.sv) hT (by rw[eo]; exact hpl1) he1 K.gr (by rw[eo]; exact hcell) hlv hJ.qb (by omega) (by omega) s01 (by omega) (by omega) hold ?_ ?_
  ·intro y' s' hrd hbd σ' w2 v' q' cz' ls' lcs' a2 hlv' m2 hr2 hq' hqq hkl
   rw[eo]
   refine hg ((x1.1.set j y',x1.2),outS s1) σ' _ ?_ ?_ a2
   ·unfold kRj
    rw[hgd,hrd]
    simp only [hbd,Bool.false_eq_true,if_false]
   ·have hv':=hlv'.one
    refine⟨q',ls',cz',v',y',?_,by rw[List.getElem?_set_self hjl],hlv'⟩
    have:=KJ.setL (y:=.num v') (cs:=[v']) K hJ (by rw[hj]; rfl) (a2.mono (by omega)) m2 hq' hqq hr2 (by simp only [Rep]; rw[zds hv']) hkl
    simpa only [List.set_set] using this
  ·intro hbd σ' w2 h3 m2
   refine hb ?_ σ' w2 ⟨h3,hJ.mod.trans m2 fun k o hk h=>h.elim id fun h=>h.elim .inl fun h=>h.elim (fun h=>absurd h.1 (by omega)) fun h=>.inr ⟨h.1,by have:=h.2.1; rw[eo] at this; omega,by have:=h.2.2; rw[eo] at this; omega⟩⟩
   unfold kRj
   rw[hgd]
   cases hrd:Ty.rdK ver fl (.arr st none el) y (inS s1) with
   | none=>rfl
   | some z=>simp only [hbd z.1 z.2 hrd,if_true]
 ·rintro c x1 s1 σ1 w1 Q1 ⟨q,ls,cz,v,y,hJ,hy,hlv⟩ hk1 hc hg
  obtain⟨m,hcell,hone1,hth,htg⟩:=hJ.tagCell K
  have s01:=hJ.mod.size
  refine W_dfl B F hU hS hSet hTg (lo:=lo) (hi:=hi) (r:=r) (oo:=o0) (off:=off+szs.sum) (c0:=w0.heap.size) (by rw[hJ.ag 4 (by omega)]; exact K.cx.rd) hJ.rd (by rw[hJ.ag is hisn]; exact K.sv) hTU hk1 hc (by rw[eo]; exact hcell) (by rw[eo]; exact hth) hbr K.pl.bs (by omega) (by omega) (by omega) s01 htg ?_
  intro σ' w' m' ha hr' hc' hone' htg' hj' hm'
  rw[eo] at hc'
  simp only [eo] at hm'
  have hmf:∀ k,w1.heap.size≤k∨k < w0.heap.size→m≠.map (some k):=fun k hk e=>by
   rcases htg with⟨h,_⟩ | ⟨mm,_,_,h,h1,h2,_⟩
   ·rw[h] at e; cases e
   ·rw[h] at e; cases e; omega
  have a6:Ag (n+6) σ1 σ':=fun i _=>ha i
  exact hg σ' w' ⟨q,ls,cz,v,y,KJ.setTag K (hJ.agr (a6.mono (by omega))) hcell hmf hj' hr' hc' hone' htg' hm',hy,hlv⟩ a6
 ·have:=hQ1 hfl
  cases hkn:kN (kRj (Ty.rdK ver fl (.arr st none el)) j) kDfl (uvN s).1 x (uvN s).2 with
  | none=>rw[hkn] at this; exact fun σ' w' hE=>this σ' w' hE.1 hE.2
  | some y=>rw[hkn] at this; exact fun σ' w' hJ _=>this σ' w' (JA.end' hA.sz hle hJ)
end
theorem Fds.rd_last (ver:Int) (fl:Bool):∀ (fs:Fds) {j:Nat},fs.kt=some j→∀ {s s':RS} {l:List Val},fs.rd ver fl s=some (l,s')→l.dropLast++[.num (.map none)]=l
 | .nil,_,hk,_,_,_,_=>by cases hk
 | .tags none,_,hk,_,_,_,_=>by cases hk
 | .tags (some j),_,_,s,s',l,h=>by
  simp only [Fds.rd,Option.some.injEq,Prod.mk.injEq] at h
  rw[← h.1]; rfl
 | .cons g t r,_,hk,s,s',l,h=>by
  simp only [Fds.rd] at h
  split at h
  ·cases h
  ·split at h
   ·cases h
   ·rename_i l1 s2 h2
    simp only [Option.some.injEq,Prod.mk.injEq] at h
    have:=Fds.rd_last ver fl r hk h2
    rw[← h.1]
    cases l1 with
    | nil=>simp at this
    | cons x l1=>rw[List.dropLast_cons_cons,List.cons_append,this]
def Fds.szF:Fds→List Nat
 | .cons _ ty r=>ty.sz :: r.szF
 | _=>[]
theorem Fds.szs_last:∀ (fs:Fds) {j:Nat},fs.kt=some j→fs.szs=fs.szF++[1]
 | .nil,_,hk=>by cases hk
 | .tags _,_,_=>rfl
 | .cons g t r,_,hk=>by simp only [Fds.szs,Fds.szF,List.cons_append]; rw[Fds.szs_last r hk]
theorem Fds.sz_last {fs:Fds} {j:Nat} (hk:fs.kt=some j):fs.szF.sum+1=fs.sz:=by
 rw[← fs.szs_sum,Fds.szs_last fs hk]; simp
theorem RepL.split {w:World} {G:Nat→Prop}:∀ {l l':List Val} {css:List (List Value)},RepL w G (l++l') css→∃ a b,css=a++b∧RepL w G l a∧RepL w G l' b
 | [],l',css,h=>⟨[],css,rfl,by simp only [RepL],h⟩
 | v :: l,l',css,⟨c,r,h1,h2,h3⟩=>by
  obtain⟨a,b,e,h4,h5⟩:=RepL.split (l:=l) h3
  exact⟨c :: a,b,by rw[h1,e]; rfl,⟨c,a,rfl,h2,h4⟩,h5⟩
section
variable {P:Program} {N:Nums}
def Ty.kOk (P:Program) (N:Nums) (fx:Bool):Ty→Prop
 | .pr k _=>k.f N≠0∧k.nt N∧k.isEn=false
 | .txt k=>(∀ f∈k.fns N fx,f≠0)∧(k=.nstr→N.zbc≠0)
 | .arr st nul e=>nul=none∧ArrT P N st e∧(∀ x∈e.zero,x.oneCell'=true)∧(∃ d by' z,TI P (e.ty N) d e.sz by' z∧z.cells.toList=e.zero∧by'≤65536)∧(fx=true→N.zba≠0)∧ElOk P N fx e
 | _=>False
def Fds.at':Fds→Nat→Option Ty
 | .cons _ ty r,j=>match j with
  | 0=>some ty
  | j+1=>r.at' j
 | _,_=>none
def Fds.gAt:Fds→Nat→Option Gd
 | .cons g _ r,j=>match j with
  | 0=>some g
  | j+1=>r.gAt j
 | _,_=>none
structure KsOk (P:Program) (N:Nums) (fx:Bool) (fs:Fds) (j:Nat):Prop where
 fxt:fx=true
 u:N.zq≠0
 s:N.zu≠0
 c:N.zaf≠0
 st:N.zcz≠0
 tg:N.zcy≠0
 ty:∃ t,fs.at' j=some t∧t.kOk P N fx
 nev:∀ st nul e,fs.at' j=some (.arr st nul e)→fs.gAt j=some .never
theorem Fds.at_szF:∀ {fs:Fds} {j:Nat} {t:Ty},fs.at' j=some t→fs.szF[j]?=some t.sz
 | .nil,_,_,h=>by cases h
 | .tags _,_,_,h=>by cases h
 | .cons g ty r,0,t,h=>by
  have h:some ty=some t:=h
  cases h; rfl
 | .cons g ty r,j+1,t,h=>by
  have h:r.at' j=some t:=h
  simpa only [Fds.szF,List.getElem?_cons_succ] using Fds.at_szF h
theorem Fds.at_hf:∀ {fs:Fds} {j:Nat} {t:Ty} {Tt:TypeId} {idx off:Nat},fs.at' j=some t→fs.hf P Tt idx off→HF P Tt (idx+j) (off+(fs.szF.take j).sum)
 | .nil,_,_,_,_,_,h,_=>by cases h
 | .tags _,_,_,_,_,_,h,_=>by cases h
 | .cons g ty r,0,t,_,_,_,h,hh=>hh.1
 | .cons g ty r,j+1,t,_,idx,off,h,hh=>by
  have h:r.at' j=some t:=h
  have:=Fds.at_hf h hh.2
  simp only [Fds.szF,List.take_succ_cons,List.sum_cons]
  rwa [show idx+1+j=idx+(j+1) by omega,Nat.add_assoc] at this
theorem Fds.tag_hf:∀ {fs:Fds} {j:Nat} {Tt:TypeId} {idx off:Nat},fs.kt=some j→fs.hf P Tt idx off→HF P Tt (idx+fs.len) (off+fs.szF.sum)
 | .nil,_,_,_,_,h,_=>by cases h
 | .tags _,_,_,_,_,_,hh=>hh
 | .cons g ty r,j,_,idx,off,h,hh=>by
  have h:r.kt=some j:=h
  have:=Fds.tag_hf h hh.2
  simp only [Fds.szF,Fds.len,List.sum_cons]
  rwa [show idx+1+r.len=idx+(r.len+1) by omega,Nat.add_assoc] at this
theorem Fds.at_genK {fx:Bool} {is:Nat} {Tt:TypeId} {q k:Nat}:∀ {fs:Fds} {j idx:Nat} {t:Ty},fs.at' j=some t→fs.genK N fx is Tt idx q k j=t.genK N fx is Tt (idx+j) q k
 | .nil,_,_,_,h=>by cases h
 | .tags _,_,_,_,h=>by cases h
 | .cons g ty r,0,idx,t,h=>by
  have h:some ty=some t:=h
  cases h; rfl
 | .cons g ty r,j+1,idx,t,h=>by
  have h:r.at' j=some t:=h
  have:=Fds.at_genK (fx:=fx) (is:=is) (Tt:=Tt) (q:=q) (k:=k) (idx:=idx+1) h
  rw[show idx+1+j=idx+(j+1) by omega] at this
  exact this
theorem Fds.at_rdK {ver:Int} {fl:Bool}:∀ {fs:Fds} {j:Nat} {t:Ty},fs.at' j=some t→fs.rdK ver fl j=t.rdK ver fl
 | .nil,_,_,h=>by cases h
 | .tags _,_,_,h=>by cases h
 | .cons g ty r,0,t,h=>by
  have h:some ty=some t:=h
  cases h; rfl
 | .cons g ty r,j+1,t,h=>by
  have h:r.at' j=some t:=h
  funext v s
  have:=Fds.at_rdK (ver:=ver) (fl:=fl) h
  show r.rdK ver fl j v s=_
  rw[this]
theorem Fds.rd_never (ver:Int) (fl:Bool):∀ (fs:Fds) {j i:Nat} {st:TypeId} {nul:Option Int} {e:El},fs.kt=some i→fs.at' j=some (.arr st nul e)→fs.gAt j=some .never→∀ {s s':RS} {l:List Val},fs.rd ver fl s=some (l,s')→l.dropLast[j]?=some .nilA
 | .nil,_,_,_,_,_,_,h,_,_,_,_,_=>by cases h
 | .tags _,_,_,_,_,_,_,h,_,_,_,_,_=>by cases h
 | .cons g t r,j,i,st,nul,e,hk,h1,h2,s,s',l,h=>by
  have hk:r.kt=some i:=hk
  simp only [Fds.rd] at h
  split at h
  ·cases h
  ·rename_i v s1 h3
   split at h
   ·cases h
   ·rename_i l1 s2 h4
    simp only [Option.some.injEq,Prod.mk.injEq] at h
    have hne:l1≠[]:=fun e=>by
     have:=Fds.rd_last ver fl r hk h4
     rw[e] at this; simp at this
    obtain⟨x,l2,rfl⟩:=List.exists_cons_of_ne_nil hne
    rw[← h.1,List.dropLast_cons_cons]
    cases j with
    | zero=>
     have h1:some t=some (.arr st nul e):=h1
     have h2:some g=some .never:=h2
     cases h1
     cases h2
     simp only [Gd.on,Bool.false_eq_true,if_false,Option.some.injEq,Prod.mk.injEq] at h3
     rw[← h3.1]; rfl
    | succ j=>
     have h1:r.at' j=some (.arr st nul e):=h1
     have h2:r.gAt j=some .never:=h2
     simpa using Fds.rd_never ver fl r hk h1 h2 h4
theorem zms.tagsG' {w:World} {G G':Nat→Prop} {c:Nat} {v:Value} {l:List (Nat × List UInt8)} (h:zms w G c v l) (hG:∀ k,G k→G' k) (hn:∀ k,c≤k→k < w.heap.size→G' k):zpx w G' v l:=by
 rcases h with h | ⟨m,es,ck,h1,h2,h3,h4,h5,h6,h7,h8,h9⟩
 ·exact .inl h
 ·exact .inr ⟨m,es,ck,h1,hn m h2 h3,h4,h5,h6,h7.mono hG,h8,h9⟩
theorem fdsOkR (B:Base P N) (F:Fns P N) {fx:Bool} {fs:Fds} (h:zvs P N fx fs) (hk:∀ j,fs.kt=some j→KsOk P N fx fs j):FdsOkR P N fx fs:=by
 intro loc N' Q σ w lo hi r s e u fl ver is b oo Tt idx off n k hlo hx hinv hpl his hT hini hn hisn hQ
 unfold Fds.genR
 unfold Fds.rdR at hQ
 cases hkt:fs.kt with
 | none=>
  rw[hkt] at hQ
  simp only [List.append_nil]
  refine h hlo hx hinv hpl his hT hini hn hisn (s:=s) (e:=e) ?_
  cases hrd:fs.rd ver fl s with
  | none=>rw[hrd] at hQ; exact hQ
  | some x=>rw[hrd] at hQ; exact hQ
 | some j=>
  have K:=hk j hkt
  obtain⟨t,hat,htk⟩:=K.ty
  rw[hkt] at hQ
  simp only
  refine zvf (h hlo hx hinv hpl his hT hini hn hisn (s:=s) (e:=e) ?_)
  cases hrd:fs.rd ver fl s with
  | none=>rw[hrd] at hQ; exact hQ
  | some x=>
   obtain⟨l,s1⟩:=x
   rw[hrd] at hQ
   simp only at hQ
   intro σ1 w1 css ha1 hr1 hm1 hrg hcl hls hrep
   obtain⟨te,ve,rfl⟩:=hinv.ei
   have hlast:=Fds.rd_last ver fl fs hkt hrd
   rw[← hlast] at hrep
   obtain⟨cv,ct,rfl,hrv,hrt⟩:=RepL.split hrep
   obtain⟨c,rr,rfl,h1,h2⟩:=hrt
   simp only [RepL] at h2
   subst h2
   simp only [Rep] at h1
   have h1:c=[.map none]:=h1
   subst h1
   have hszl:=Fds.szs_last fs hkt
   have hsz:=Fds.sz_last hkt
   rw[hszl,List.map_append] at hls
   have hlv:cv.map List.length=fs.szF:=by simpa using hls
   have hbr:=hpl.br
   have hbs:=hpl.bs
   have hblt:=hpl.lt
   have hs1:=hm1.size
   have hap:=hr1.apart
   have hhi:=hinv.rd.hi_le
   have hrl:=hinv.rd.lt
   have hi4:is≠4:=fun e=>by
    rw[e,hx.rd] at his
    cases his
    exact hbr rfl
   have hinv1:=hinv.mod hpl.bg hm1 hr1
   have hpl1:=hpl.mod hm1
   have hx1:=hx.ag ha1 hn
   obtain⟨n',hn'⟩:∃ n',n'=n+fs.vn fx:=⟨_,rfl⟩
   rw[← hn']
   have K2:KF N lo hi r is b oo off (oo+off) (fs.szF.sum+1) te ve n' fx u fl ver w σ1 w1:=
    ⟨hx1,by rw[ha1 is hisn]; exact his,rfl,by omega,by omega,by rw[hsz]; exact hpl1,hinv1.er,hinv.gr,hblt,hhi,hrl,hs1⟩
   have h0:∀ lz,KJ N lo hi r is b (oo+off) fs.szF te ve n' fx u fl ver w σ1 w1 r [] lz 0 (l.dropLast,[]) s1 σ1 w1:=by
    intro lz
    refine⟨Ag.refl _ _,hr1,.refl _ _,hr1.lt,cv,.map none,[],hlv,by simpa using hrg,RepL.mono (fun k hk=>hk.imp id fun hk=>⟨hk.1,hk.2,(fun e=>by cases e),by omega⟩) _ hrv,rfl,.inl ⟨rfl,rfl⟩,(fun e=>by cases e),.inl ⟨rfl,rfl⟩⟩
   have hj:=Fds.at_szF hat
   have hHF:=Fds.at_hf hat hT
   have hHT:=Fds.tag_hf hkt hT
   have tot:∀ {w2:World},Mod w1 w2 (orM (blk r) (rng b (oo+off) (fs.szF.sum+1)))→Mod w w2 (orM (blk r) (rng b (oo+off) fs.sz)):=fun hm=>by
    rw[hsz] at hm; exact hm1.trans' hm
   have hQ0:fl=false→∀ σ',Ag n' σ1 σ'→Q .normal σ' w1:=by
    intro hfl σ' ha
    rw[hfl] at hQ
    simp only [ktR,Bool.false_eq_true,if_false] at hQ
    refine hQ σ' w1 (cv++[[.map none]]) (ha1.trans ha (by omega)) hr1 hm1 hrg hcl (by rw[hszl,List.map_append,hlv]; rfl) (RepL.append hrv ?_)
    simp only [RepL,Rep]
    exact⟨_,_,rfl,⟨_,rfl,.inl ⟨rfl,rfl⟩⟩,rfl⟩
   have hQ1:fl=true→match kN (kRj (t.rdK ver fl) j) kDfl (uvN s1).1 (l.dropLast,[]) (uvN s1).2 with
     | none=>∀ σ' w',σ' 3=.iface te ve→Mod w1 w' (orM (blk r) (rng b (oo+off) (fs.szF.sum+1)))→Q .ret σ' w'
     | some y=>∀ σ' w',KEnd N lo hi r b (oo+off) fs.szF n' w σ1 w1 y.1 y.2 σ' w'→Q .normal σ' w':=by
    intro hfl
    simp only [ktR,hfl,if_true] at hQ
    rw[← hfl,Fds.at_rdK hat] at hQ
    cases hkn:kN (kRj (t.rdK ver fl) j) kDfl (uvN s1).1 (l.dropLast,[]) (uvN s1).2 with
    | none=>
     rw[hkn] at hQ
     exact fun σ' w' h3 hm=>hQ σ' w' h3 (tot hm)
    | some y=>
     rw[hkn] at hQ
     intro σ' w' hJ
     obtain⟨hag,hrd2,hmod,css2,m,hl2,hrg2,hrep2,hone,htg⟩:=hJ
     have s2:=hmod.size
     refine hQ σ' w' (css2++[[m]]) (ha1.trans hag (by omega)) hrd2 (tot hmod) (by simpa using hrg2) (by rw[List.flatten_append,List.length_append,zkv hl2]; simpa using hsz) (by rw[hszl,List.map_append,hl2]; rfl) (RepL.append hrep2 ?_)
     simp only [RepL,Rep]
     exact⟨_,_,rfl,⟨m,rfl,htg.tagsG' (fun k hk=>.inl hk) fun k h1 h2=>.inr ⟨by omega,h2⟩⟩,rfl⟩
   refine zaa fun K3 hK3=>?_
   rw[Fds.at_genK hat]
   refine zii (Q:=Q) ?_ fun e σ w h=>by
    cases e with
    | normal=>exact hK3 _ _ h
    | _=>exact h
   have hQ2:∀ {X:Option ((List Val × List (Nat × List UInt8)) × RS)},(match X with
     | none=>∀ σ' w',σ' 3=.iface te ve→Mod w1 w' (orM (blk r) (rng b (oo+off) (fs.szF.sum+1)))→Q .ret σ' w'
     | some y=>∀ σ' w',KEnd N lo hi r b (oo+off) fs.szF n' w σ1 w1 y.1 y.2 σ' w'→Q .normal σ' w')→match X with
     | none=>∀ σ' w',σ' 3=.iface te ve→Mod w1 w' (orM (blk r) (rng b (oo+off) (fs.szF.sum+1)))→Q .ret σ' w'
     | some y=>∀ σ' w',KJ N lo hi r is b (oo+off) fs.szF te ve n' fx u fl ver w σ1 w1 r [] 0 0 y.1 y.2 σ' w'→Q .normal σ' w':=by
    intro X h
    cases X with
    | none=>exact h
    | some y=>exact fun σ' w' hJ=>h σ' w' hJ.end'
   cases t with
   | pr pk d=>
    obtain⟨t1,t2,t3⟩:=htk
    exact W_ktagsPr B F K.u K.s K.c K.st K.tg t1 t2 t3 hlo K2 K.fxt hj hHF hHT (h0 0) hQ0 fun hfl=>hQ2 (hQ1 hfl)
   | txt tk=>
    obtain⟨t1,t2⟩:=htk
    exact W_ktagsTxt B F K.u K.s K.c K.st K.tg t1 t2 hlo K2 K.fxt hj hHF hHT (h0 0) hQ0 fun hfl=>hQ2 (hQ1 hfl)
   | arr st nul e=>
    obtain⟨rfl,t1,t2,t3,t4,t5⟩:=htk
    exact W_ktagsArr B F K.u K.s K.c K.st K.tg t1 t2 t3 t4 t5 hlo K2 hi4 K.fxt hj hHF hHT (h0 e.sz) (Fds.rd_never ver fl fs hkt hat (K.nev _ _ _ hat) hrd) hQ0 hQ1
   | row T pT d fs=>exact htk.elim
   | tv m=>exact htk.elim
   | ptr T pT d fs=>exact htk.elim
end
def dEq:TypeDesc→TypeDesc→Bool
 | .int a,.int b=>decide (a=b)
 | .bool,.bool=>true
 | .string,.string=>true
 | .slice a,.slice b=>Nat.beq a b
 | .pointer a,.pointer b=>Nat.beq a b
 | .map a b,.map c d=>Nat.beq a c && Nat.beq b d
 | .array a b,.array c d=>Nat.beq a c && Nat.beq b d
 | _,_=>false
theorem dEq_ok {a b:TypeDesc} (h:dEq a b=true):a=b:=by
 cases a<;>cases b<;>simp_all [dEq]
def vEq1:Value→Value→Bool
 | .int a n,.int b m=>decide (a=b) && decide (n=m)
 | .bool a,.bool b=>a == b
 | .string a,.string b=>decide (a.data=#[]) && decide (b.data=#[])
 | .slice none 0 0,.slice none 0 0=>true
 | .pointer none,.pointer none=>true
 | .map none,.map none=>true
 | .nilIface,.nilIface=>true
 | _,_=>false
theorem vEq1_ok {a b:Value} (h:vEq1 a b=true):a=b:=by
 unfold vEq1 at h
 split at h
 ·simp at h; rw[h.1,h.2]
 ·simp at h; rw[h]
 ·rename_i a b
  simp at h
  obtain⟨a⟩:=a
  obtain⟨b⟩:=b
  simp at h
  rw[h.1,h.2]
 ·rfl
 ·rfl
 ·rfl
 ·rfl
 ·cases h
def vEqL:List Value→List Value→Bool
 | [],[]=>true
 | a :: l,b :: m=>vEq1 a b && vEqL l m
 | _,_=>false
theorem vEqL_ok:∀ {l m:List Value},vEqL l m=true→l=m
 | [],[],_=>rfl
 | a :: l,b :: m,h=>by
  simp only [vEqL,Bool.and_eq_true] at h
  rw[vEq1_ok h.1,vEqL_ok h.2]
 | [],_ :: _,h=>by simp [vEqL] at h
 | _ :: _,[],h=>by simp [vEqL] at h
def vEq:Value→Value→Bool
 | .agg a,.agg b=>vEqL a.toList b.toList
 | a,b=>vEq1 a b
theorem vEq_ok {a b:Value} (h:vEq a b=true):a=b:=by
 unfold vEq at h
 split at h
 ·have:=vEqL_ok h
  rw[Array.toList_inj] at this
  rw[this]
 ·exact vEq1_ok h
def infoB (P:Program) (t:TypeId) (sz by':Nat) (z:Value):Bool:=
 match P.info? t with
 | some i=>Nat.beq i.size sz && Nat.beq i.bytes by' && (match i.zero with | some z'=>vEq z' z | none=>false)
 | none=>false
theorem ztd {P:Program} {t:TypeId} {sz by':Nat} {z:Value} (h:infoB P t sz by' z=true):∃ i,P.info? t=some i∧i.size=sz∧i.bytes=by'∧i.zero=some z:=by
 unfold infoB at h
 split at h
 ·rename_i i hi
  simp only [Bool.and_eq_true] at h
  obtain⟨⟨h1,h2⟩,h3⟩:=h
  refine⟨i,hi,by simpa using h1,by simpa using h2,?_⟩
  split at h3
  ·rename_i z' hz; rw[hz,vEq_ok h3]
  ·cases h3
 ·cases h
def tiB (P:Program) (t:TypeId) (d:TypeDesc) (sz by':Nat) (z:Value):Bool:=
 (match P.underlying t with | some d'=>dEq d' d | none=>false) && infoB P t sz by' z
theorem zhr {P:Program} {t:TypeId} {d:TypeDesc} {sz by':Nat} {z:Value} (h:tiB P t d sz by' z=true):TI P t d sz by' z:=by
 unfold tiB at h
 rw[Bool.and_eq_true] at h
 refine⟨?_,ztd h.2⟩
 have h1:=h.1
 split at h1
 ·rename_i d' hd; rw[hd,dEq_ok h1]
 ·cases h1
def tsB (P:Program) (t:TypeId) (sz by':Nat) (z:Value):Bool:=
 (match P.underlying t with | some (.struct _)=>true | _=>false) && infoB P t sz by' z
theorem zys {P:Program} {t:TypeId} {sz by':Nat} {z:Value} (h:tsB P t sz by' z=true):∃ fs,TI P t (.struct fs) sz by' z:=by
 unfold tsB at h
 rw[Bool.and_eq_true] at h
 have h1:=h.1
 split at h1
 ·rename_i fs hfs; exact⟨fs,hfs,ztd h.2⟩
 ·cases h1
def hfB (P:Program) (t:TypeId) (k off:Nat):Bool:=
 match P.underlying t with
 | some (.struct fs)=>(match fs[k]? with
  | some f=>Nat.beq f.offset off && (match P.info? f.type with | some i=>!Nat.beq i.size 0 | none=>false)
  | none=>false)
 | _=>false
theorem zuf {P:Program} {t:TypeId} {k off:Nat} (h:hfB P t k off=true):HF P t k off:=by
 unfold hfB at h
 split at h
 ·rename_i fs hfs
  split at h
  ·rename_i f hf
   rw[Bool.and_eq_true] at h
   have h2:=h.2
   split at h2
   ·rename_i i hi
    exact⟨fs,f,i,hfs,hf,by simpa using h.1,hi,fun e=>by rw[e] at h2; cases h2⟩
   ·cases h2
  ·cases h
 ·cases h
def zxl (P:Program) (t:TypeId) (l:List (Nat × Nat)):Bool:=
 match P.underlying t with
 | some (.struct fs)=>(match fs.toList.mapM (fun f=>(P.info? f.type).map fun i=>(f.offset,i.size)) with
  | some l'=>decide (l'=l)
  | none=>false)
 | _=>false
def sfB (P:Program) (t:TypeId) (places:List (Nat × Nat)) (by':Nat) (z:List Value):Bool:=tsB P t z.length by' (.agg z.toArray) && zxl P t places
theorem sfB_ok {P:Program} {t:TypeId} {places:List (Nat × Nat)} {by':Nat} {z:List Value} (h:sfB P t places by' z=true):SF P t places by' z:=by
 unfold sfB at h
 rw[Bool.and_eq_true] at h
 obtain⟨fs,ht⟩:=zys h.1
 refine⟨fs,ht,?_⟩
 have h2:=h.2
 unfold zxl at h2
 rw[ht.und] at h2
 simp only at h2
 split at h2
 ·rename_i l' hl; rw[hl]; simpa using h2
 ·cases h2
def ifB (n:Nat) (b:Bool):Bool:=Nat.beq n 0 || b
theorem zwi {n:Nat} {b:Bool} (h:ifB n b=true) (hn:n≠0):b=true:=by
 unfold ifB at h
 rw[Bool.or_eq_true] at h
 rcases h with h | h
 ·exact absurd (by simpa using h) hn
 ·exact h
def errB (P:Program) (t:TypeId):Bool:=(match P.underlying t with | some (.interface _)=>true | _=>false) && infoB P t 1 16 .nilIface
theorem errB_ok {P:Program} {t:TypeId} (h:errB P t=true):∃ ms,TI P t (.interface ms) 1 16 .nilIface:=by
 unfold errB at h
 rw[Bool.and_eq_true] at h
 have h1:=h.1
 split at h1
 ·rename_i fs hfs; exact⟨fs,hfs,ztd h.2⟩
 ·cases h1
def bigB (P:Program) (t:TypeId):Bool:=(match P.underlying t with | some (.struct fs)=>decide (fs.size=0) | _=>false) && infoB P t 0 0 (.agg #[])
theorem bigB_ok {P:Program} {t:TypeId} (h:bigB P t=true):TI P t (.struct #[]) 0 0 (.agg #[]):=by
 unfold bigB at h
 rw[Bool.and_eq_true] at h
 have h1:=h.1
 split at h1
 ·rename_i fs hfs
  have:fs=#[]:=Array.eq_empty_of_size_eq_zero (by simpa using h1)
  subst this
  exact⟨hfs,ztd h.2⟩
 ·cases h1
def base1B (P:Program) (N:Nums):Bool:=
 ifB N.zjd (tiB P N.zjd (.int .i8) 1 1 (.int .i8 0)) && (tiB P N.zbf (.int .i16) 1 2 (.int .i16 0) && (tiB P N.zbr (.int .i32) 1 4 (.int .i32 0) && (tiB P N.zcv (.int .i64) 1 8 (.int .i64 0) && (tiB P N.ze (.int .i64) 1 8 (.int .i64 0) &&
 (tiB P N.zh (.int .u8) 1 1 (.int .u8 0) && (tiB P N.zfj (.int .u16) 1 2 (.int .u16 0) && (tiB P N.zc (.int .u32) 1 4 (.int .u32 0) && (tiB P N.zaj (.int .u64) 1 8 (.int .u64 0) && tiB P N.zay .bool 1 1 (.bool false)))))))))
def base2B (P:Program) (N:Nums):Bool:=
 tiB P N.zac .string 1 16 (.string ⟨#[]⟩) && (tiB P N.za (.slice N.zh) 1 24 (.slice none 0 0) && (bigB P N.zbt && (errB P N.zgc && (sfB P N.zv [(0,1),(1,1)] 32 [.slice none 0 0,.bool false] && (hfB P N.zv 0 0 && (hfB P N.zv 1 1 &&
 (ifB N.zaq (tiB P N.zaq (.array 16 N.zh) 16 16 (.agg (Array.replicate 16 (.int .u8 0)))) && (ifB N.zbc (tiB P N.zbc (.pointer N.zac) 1 8 (.pointer none)) &&
 (ifB N.zcy (tsB P N.zcy 1 8 (.agg #[.map none])) && (ifB N.zcy (hfB P N.zcy 0 0) && ifB N.zcy (tiB P N.zab (.map N.zc N.za) 1 8 (.map none))))))))))))
theorem base_ok {P:Program} {N:Nums} (hm:P.follows .mixedOrders=true) (h1:base1B P N=true) (h2:base2B P N=true):Base P N:=by
 unfold base1B at h1
 unfold base2B at h2
 simp only [Bool.and_eq_true] at h1 h2
 obtain⟨a1,a2,a3,a4,a5,a6,a7,a8,a9,a10⟩:=h1
 obtain⟨b1,b2,b3,b4,b5,b6,b7,b8,b9,b10,b11,b12⟩:=h2
 exact { mixed:=hm,int8:=fun h=>zhr (zwi a1 h),int16:=zhr a2,int32:=zhr a3,int64:=zhr a4,int:=zhr a5,uint8:=zhr a6,uint16:=zhr a7,uint32:=zhr a8,uint64:=zhr a9,bool:=zhr a10,string:=zhr b1,Lu8:=zhr b2,big:=bigB_ok b3,error:=.inr (errB_ok b4),reader:=sfB_ok b5,reader0:=zuf b6,reader1:=zuf b7,uuid:=fun h=>zhr (zwi b8 h),pstring:=fun h=>zhr (zwi b9 h),tags:=fun h=>⟨zys (zwi b10 h),zuf (zwi b11 h),zhr (zwi b12 h)⟩ }
def dB (k:PK):Option Value→Bool
 | none=>true
 | some d=>k.isSg && d.oneCell'
def lenB (N:Nums) (fx:Bool):Bool:=!Nat.beq N.zda 0 && !Nat.beq N.zeg 0 && !Nat.beq N.zaf 0 && (!fx || !Nat.beq N.zba 0)
def PK.enB (P:Program):PK→Bool
 | .en t=>tiB P t (.int .i8) 1 1 (.int .i8 0)
 | _=>true
def prB (P:Program) (N:Nums) (k:PK):Bool:=(!Nat.beq (k.f N) 0 && (k != .uuid || !Nat.beq N.zaq 0)) && (k.enB P && (!k.is8 || !Nat.beq N.zjd 0))
def txB (N:Nums) (fx:Bool) (k:Txt):Bool:=(k.fns N fx).all (fun f=>!Nat.beq f 0) && (k != .nstr || !Nat.beq N.zbc 0)
def zya (P:Program) (t:TypeId):Nat:=match P.info? t with | some i=>i.bytes | none=>0
mutual
def Ty.noD:Ty→Bool
 | .pr _ d=>d.isNone
 | .row _ _ _ fs=>fs.noD
 | _=>true
def Fds.noD:Fds→Bool
 | .cons _ t r=>t.noD && r.noD
 | _=>true
end
def Ty.kB (P:Program) (N:Nums) (fx:Bool):Ty→Bool
 | .pr k _=>prB P N k && !k.isEn
 | .txt k=>txB N fx k
 | _=>false
def Fds.kB (P:Program) (N:Nums) (fx:Bool) (fs:Fds):Bool:=match fs.kt with
 | none=>true
 | some j=>(fx && (!Nat.beq N.zq 0 && (!Nat.beq N.zu 0 && (!Nat.beq N.zaf 0 && (!Nat.beq N.zcz 0 && !Nat.beq N.zcy 0))))) && (match fs.at' j with
  | some t=>t.kB P N fx
  | none=>false)
section
variable (P:Program) (N:Nums) (fx:Bool)
mutual
def Ty.okB:Ty→Bool
 | .pr k d=>prB P N k && dB k d
 | .txt k=>txB N fx k
 | .arr st _ e=>tiB P st (.slice (e.ty N)) 1 24 (.slice none 0 0) && (lenB N fx && e.okB)
 | .row T _ _ fs=>Nat.blt 0 fs.sz && (fs.noD && fs.okB T 0 0)
 | .tv _=>txB N fx .str && txB N fx .nstr
 | .ptr T pT _ fs=>(prB P N .i8 && !Nat.beq N.zeg 0) && (tiB P pT (.pointer T) 1 8 (.pointer none) && (tsB P T fs.sz (zya P T) (.agg fs.zero.toArray) && (Nat.blt 0 fs.sz && fs.okB T 0 0)))
def El.okB:El→Bool
 | .pr k=>prB P N k && !k.isEn
 | .txt k=>txB N fx k
 | .row T _ _ fs=>tsB P T fs.sz (zya P T) (.agg fs.zero.toArray) && (Nat.ble (zya P T) 131072 && (Nat.blt 0 fs.sz && (fs.kB P N fx && fs.okB T 0 0)))
def Fds.okB (Tt:TypeId):Fds→Nat→Nat→Bool
 | .nil,_,_=>true
 | .tags kt,idx,off=>(fx || kt.isSome) && (hfB P Tt idx off && (kt.isSome || (!Nat.beq N.zcy 0 && !Nat.beq N.zdu 0)))
 | .cons _ t r,idx,off=>hfB P Tt idx off && (t.okB && r.okB Tt (idx+1) (off+t.sz))
end
end
def Fds.kA (P:Program) (N:Nums) (fx:Bool) (fs:Fds) (j:Nat):Bool:=match fs.at' j with
 | some (.arr st none (.row T pT f fs2))=>(match fs.gAt j with | some .never=>true | _=>false) && (tiB P st (.slice T) 1 24 (.slice none 0 0) && (lenB N fx && ((El.row T pT f fs2).okB P N fx && (Nat.ble (zya P T) 65536 && fs2.zero.all fun c=>c.oneCell'))))
 | _=>false
def Fds.kM (P:Program) (N:Nums) (fx:Bool) (fs:Fds):Bool:=fs.kB P N fx || (match fs.kt with
 | none=>false
 | some j=>(fx && (!Nat.beq N.zq 0 && (!Nat.beq N.zu 0 && (!Nat.beq N.zaf 0 && (!Nat.beq N.zcz 0 && !Nat.beq N.zcy 0))))) && fs.kA P N fx j)
section
variable (P:Program) (N:Nums)
mutual
def Ty.dfs:Ty→Prop
 | .arr _ _ e=>e.dfs
 | .row T _ f fs=>FOk P f 1 (seqs (fs.dfl N T 0)) []∧fs.dfs
 | .ptr T _ f fs=>FOk P f 1 (seqs (fs.dfl N T 0)) []∧fs.dfs
 | _=>True
def El.dfs:El→Prop
 | .row T _ f fs=>FOk P f 1 (seqs (fs.dfl N T 0)) []∧fs.dfs
 | _=>True
def Fds.dfs:Fds→Prop
 | .cons _ t r=>t.dfs∧r.dfs
 | _=>True
end
end
theorem nbeq {n:Nat} (h:(!Nat.beq n 0)=true):n≠0:=fun e=>by rw[e] at h; cases h
section
variable {P:Program} {N:Nums} {fx:Bool}
theorem zzl {k:PK} (h:prB P N k=true):k.f N≠0∧k.nt N∧∀ t,k=.en t→TI P t (.int .i8) 1 1 (.int .i8 0):=by
 unfold prB at h
 simp only [Bool.and_eq_true,Bool.or_eq_true] at h
 obtain⟨⟨h1,h2⟩,hen,h8⟩:=h
 refine⟨nbeq h1,⟨fun e=>?_,fun e=>?_⟩,fun t e=>by subst e; exact zhr hen⟩
 ·rcases h2 with h2 | h2
  ·subst e; simp at h2
  ·exact nbeq h2
 ·rcases h8 with h8 | h8
  ·rw[e] at h8; cases h8
  ·exact nbeq h8
theorem zyr {k:Txt} (h:txB N fx k=true):(∀ f∈k.fns N fx,f≠0)∧(k=.nstr→N.zbc≠0):=by
 unfold txB at h
 rw[Bool.and_eq_true,Bool.or_eq_true,List.all_eq_true] at h
 refine⟨fun f hf=>nbeq (h.1 f hf),fun e=>?_⟩
 rcases h.2 with h2 | h2
 ·subst e; simp at h2
 ·exact nbeq h2
theorem dB_ok {k:PK} {d:Option Value} (h:dB k d=true):(d.getD k.zero).cells.toList.length=k.sz∧∀ x,d=some x→k.isSg=true∧x.oneCell'=true:=by
 cases d with
 | none=>exact⟨ziu k,fun x hx=>by cases hx⟩
 | some d=>
  simp only [dB,Bool.and_eq_true] at h
  refine⟨?_,fun x hx=>by cases hx; exact h⟩
  simp only [Option.getD_some]
  rw[zds h.2,pk_sz h.1]; rfl
theorem pk_bytes (B:Base P N) {k:PK} (hu:k.nt N) (he:∀ t,k=.en t→TI P t (.int .i8) 1 1 (.int .i8 0)):∃ d by',TI P (k.t N) d k.sz by' k.zero∧by'≤131072:=by
 cases k with
 | bool=>exact⟨_,_,B.bool,by decide⟩
 | i8=>exact⟨_,_,B.int8 (hu.2 rfl),by decide⟩
 | i16=>exact⟨_,_,B.int16,by decide⟩
 | u16=>exact⟨_,_,B.uint16,by decide⟩
 | i32=>exact⟨_,_,B.int32,by decide⟩
 | i64=>exact⟨_,_,B.int64,by decide⟩
 | uuid=>exact⟨_,_,B.uuid (hu.1 rfl),by decide⟩
 | en t=>exact⟨_,_,he t rfl,by decide⟩
theorem tx_bytes (B:Base P N) {k:Txt} (hp:k=.nstr→N.zbc≠0):∃ d by',TI P (k.t N) d 1 by' k.zero∧by'≤131072:=by
 cases k with
 | str=>exact⟨_,_,B.string,by decide⟩
 | nstr=>exact⟨_,_,B.pstring (hp rfl),by decide⟩
 | byt=>exact⟨_,_,B.Lu8,by decide⟩
 | nbyt=>exact⟨_,_,B.Lu8,by decide⟩
def ElT (P:Program) (N:Nums) (e:El):Prop:=(∃ d by' z,TI P (e.ty N) d e.sz by' z∧z.cells.toList=e.zero∧by'≤131072)∧0 < e.sz∧e.zero.length=e.sz
mutual
theorem Ty.noD_zero:∀ (t:Ty),t.noD=true→t.zero=t.ini
 | .pr k none,_=>rfl
 | .pr k (some d),h=>by simp [Ty.noD] at h
 | .txt _,_=>rfl
 | .arr ..,_=>rfl
 | .row _ _ _ fs,h=>Fds.noD_zero fs h
 | .tv _,_=>rfl
 | .ptr ..,_=>rfl
theorem Fds.noD_zero:∀ (fs:Fds),fs.noD=true→fs.zero=fs.ini
 | .nil,_=>rfl
 | .tags _,_=>rfl
 | .cons _ t r,h=>by
  simp only [Fds.noD,Bool.and_eq_true] at h
  simp only [Fds.zero,Fds.ini]
  rw[Ty.noD_zero t h.1,Fds.noD_zero r h.2]
end
theorem ksOk_of {fs:Fds} (h:fs.kB P N fx=true):∀ j,fs.kt=some j→KsOk P N fx fs j:=by
 intro j hj
 unfold Fds.kB at h
 rw[hj] at h
 simp only [Bool.and_eq_true] at h
 obtain⟨⟨h1,h2,h3,h4,h5,h6⟩,h7⟩:=h
 cases ht:fs.at' j with
 | none=>rw[ht] at h7; cases h7
 | some t=>
  rw[ht] at h7
  have h7:t.kB P N fx=true:=h7
  refine⟨h1,nbeq h2,nbeq h3,nbeq h4,nbeq h5,nbeq h6,⟨t,ht,?_⟩,fun st nul e he=>?_⟩
  ·cases t with
   | pr k d=>
    simp only [Ty.kB,Bool.and_eq_true,Bool.not_eq_true'] at h7
    obtain⟨a,b,_⟩:=zzl h7.1
    exact⟨a,b,h7.2⟩
   | txt k=>exact zyr h7
   | arr st nul e=>cases h7
   | row T pT d fs=>cases h7
   | tv m=>cases h7
   | ptr T pT d fs=>cases h7
  ·rw[ht] at he
   cases he
   cases h7
mutual
theorem Ty.ok_of (B:Base P N) (F:Fns P N):∀ (t:Ty),t.okB P N fx=true→t.dfs P N→TyOk P N fx t∧t.dok
 | .pr k d,h,_=>by
  simp only [Ty.okB,Bool.and_eq_true] at h
  obtain⟨h1,h2,h3⟩:=zzl h.1
  exact⟨tyOk_pr B F h1 h2 h3 (dB_ok h.2).1,(dB_ok h.2).1⟩
 | .txt k,h,_=>by
  simp only [Ty.okB] at h
  obtain⟨h1,h2⟩:=zyr h
  exact⟨tyOk_txt B F h1 h2,trivial⟩
 | .arr st nul e,h,hd=>by
  simp only [Ty.okB,Bool.and_eq_true,lenB,Bool.or_eq_true] at h
  obtain⟨h1,⟨⟨⟨⟨l1,l2⟩,l3⟩,l4⟩,h3⟩⟩:=h
  obtain⟨he,ht,hs,hz⟩:=El.ok_of B F e h3 hd
  refine⟨tyOk_arr B F nul ⟨zhr h1,ht,hs,hz,nbeq l1,nbeq l2,nbeq l3⟩ (fun e=>?_) he,trivial⟩
  rcases l4 with l4 | l4
  ·rw[e] at l4; cases l4
  ·exact nbeq l4
 | .tv k,h,_=>by
  simp only [Ty.okB,Bool.and_eq_true] at h
  obtain⟨h1,h2⟩:=zyr h.1
  obtain⟨h3,h4⟩:=zyr h.2
  exact⟨tyOk_tv B F h1 h3 (h4 rfl),trivial⟩
 | .ptr T pT f fs,h,hd=>by
  simp only [Ty.okB,Bool.and_eq_true] at h
  obtain⟨⟨h1,h2⟩,h3,h4,h5,h6⟩:=h
  obtain⟨i1,i2,_⟩:=zzl h1
  obtain⟨fs',ht⟩:=zys h4
  obtain⟨g1,g2,g3,g4⟩:=Fds.ok_of B F fs h6 hd.2
  exact⟨tyOk_ptr B F i1 (i2.2 rfl) (nbeq h2) (zhr h3) ht (by simp [Value.cells]) (dfOk B hd.1 g4 g2) g1 g2,trivial⟩
 | .row T pT f fs,h,hd=>by
  simp only [Ty.okB,Bool.and_eq_true] at h
  obtain⟨h1,h2,h3⟩:=h
  obtain⟨g1,g2,g3,g4⟩:=Fds.ok_of B F fs h3 hd.2
  exact⟨tyOk_row (dfOk B hd.1 g4 g2) g1 g2 (Fds.noD_zero fs h2),g3⟩
theorem El.ok_of (B:Base P N) (F:Fns P N):∀ (e:El),e.okB P N fx=true→e.dfs P N→ElOk P N fx e∧ElT P N e
 | .pr k,h,_=>by
  simp only [El.okB,Bool.and_eq_true,Bool.not_eq_true'] at h
  obtain⟨h1,h2,h3⟩:=zzl h.1
  obtain⟨d,by',ht,hb⟩:=pk_bytes B h2 h3
  exact⟨elOk_pr B F h1 h2 h.2 (ziu k),⟨d,by',_,ht,rfl,hb⟩,by cases k<;>exact Nat.succ_pos _,ziu k⟩
 | .txt k,h,_=>by
  simp only [El.okB] at h
  obtain⟨h1,h2⟩:=zyr h
  obtain⟨d,by',ht,hb⟩:=tx_bytes B h2
  exact⟨elOk_txt B F h1 h2,⟨d,by',_,ht,by cases k<;>rfl,hb⟩,Nat.one_pos,rfl⟩
 | .row T pT f fs,h,hd=>by
  simp only [El.okB,Bool.and_eq_true] at h
  obtain⟨h1,h2,h3,h5,h4⟩:=h
  obtain⟨fs',ht⟩:=zys h1
  obtain⟨g1,g2,g3,g4⟩:=Fds.ok_of B F fs h4 hd.2
  have hdf:=dfOk B hd.1 g4 g2
  exact⟨elOk_row ht hdf (fdsOkR B F g1 (ksOk_of h5)) g2,⟨_,_,_,ht,by simp [Value.cells,El.zero],by simpa using h2⟩,by simpa [El.sz] using h3,Fds.zero_length fs⟩
theorem Fds.ok_of (B:Base P N) (F:Fns P N):∀ (fs:Fds) {Tt:TypeId} {idx off:Nat},fs.okB P N fx Tt idx off=true→fs.dfs P N→zvs P N fx fs∧fs.hf P Tt idx off∧fs.dok∧fs.plain N
 | .nil,_,_,_,_,_=>⟨fdsOk_nil,trivial,trivial,trivial⟩
 | .tags none,Tt,idx,off,h,_=>by
  simp only [Fds.okB,Option.isSome_none,Bool.or_false,Bool.false_or,Bool.and_eq_true] at h
  obtain⟨h1,h2,h3,h4⟩:=h
  subst h1
  exact⟨fdsOk_tags B (nbeq h3) (tagsOk B F (nbeq h4) (nbeq h3)),zuf h2,trivial,trivial⟩
 | .tags (some j),Tt,idx,off,h,_=>by
  simp only [Fds.okB,Bool.and_eq_true] at h
  exact⟨zace j,zuf h.2.1,trivial,trivial⟩
 | .cons g t r,Tt,idx,off,h,hd=>by
  simp only [Fds.okB,Bool.and_eq_true] at h
  obtain⟨h1,h2,h3⟩:=h
  obtain⟨g1,g2⟩:=Ty.ok_of B F t h2 hd.1
  obtain⟨k1,k2,k3,k4⟩:=Fds.ok_of B F r h3 hd.2
  refine⟨fdsOk_cons g1 g2 k1,⟨zuf h1,k2⟩,⟨g2,k3⟩,?_⟩
  cases t with
  | pr k d=>
   cases d with
   | none=>exact k4
   | some d=>
    simp only [Ty.okB,Bool.and_eq_true] at h2
    obtain⟨a,b⟩:=(dB_ok h2.2).2 d rfl
    exact⟨⟨a,(zzl h2.1).2.1⟩,b,k4⟩
  | txt k=>exact k4
  | arr st nul e=>exact k4
  | tv k=>exact k4
  | ptr T' pT f fs=>exact k4
  | row T' pT f fs=>
   simp only [Ty.okB,Bool.and_eq_true] at h2
   exact⟨Fds.noD_zero fs h2.2.1,k4⟩
end
theorem Fds.at_dfs:∀ {fs:Fds} {j:Nat} {t:Ty},fs.at' j=some t→fs.dfs P N→t.dfs P N
 | .nil,_,_,h,_=>by cases h
 | .tags _,_,_,h,_=>by cases h
 | .cons g ty r,0,t,h,hd=>by
  have h:some ty=some t:=h
  cases h; exact hd.1
 | .cons g ty r,j+1,t,h,hd=>by
  have h:r.at' j=some t:=h
  exact Fds.at_dfs h hd.2
theorem ksOk_ofM (B:Base P N) (F:Fns P N) {fs:Fds} (h:fs.kM P N fx=true) (hd:fs.dfs P N):∀ j,fs.kt=some j→KsOk P N fx fs j:=by
 unfold Fds.kM at h
 rw[Bool.or_eq_true] at h
 rcases h with h | h
 ·exact ksOk_of h
 ·intro j hj
  rw[hj] at h
  simp only [Bool.and_eq_true] at h
  obtain⟨⟨h1,h2,h3,h4,h5,h6⟩,h7⟩:=h
  unfold Fds.kA at h7
  split at h7
  ·rename_i st T pT f fs2 ht
   simp only [Bool.and_eq_true] at h7
   obtain⟨g0,g1,g2,g3,g4,g5⟩:=h7
   simp only [lenB,Bool.and_eq_true,Bool.or_eq_true] at g2
   obtain⟨⟨⟨l1,l2⟩,l3⟩,l4⟩:=g2
   have hde:=Fds.at_dfs ht hd
   obtain⟨e1,e2,e3,e4⟩:=El.ok_of B F (.row T pT f fs2) g3 hde
   simp only [El.okB,Bool.and_eq_true] at g3
   obtain⟨fs',htT⟩:=zys g3.1
   refine⟨h1,nbeq h2,nbeq h3,nbeq h4,nbeq h5,nbeq h6,⟨_,ht,rfl,⟨zhr g1,e2,e3,e4,nbeq l1,nbeq l2,nbeq l3⟩,fun x hx=>?_,⟨_,_,_,htT,by simp [Value.cells,El.zero],by simpa using g4⟩,fun e=>?_,e1⟩,fun st nul e he=>?_⟩
   ·rw[List.all_eq_true] at g5
    exact g5 x hx
   ·rcases l4 with l4 | l4
    ·rw[e] at l4; cases l4
    ·exact nbeq l4
   ·split at g0
    ·rename_i hg; exact hg
    ·cases g0
  ·cases h7
theorem msgT_of (B:Base P N) (F:Fns P N) {m:Msg} (h:m.fs.okB P N fx m.tT 1 1=true) (hkB:m.fs.kM P N fx=true) (h0:hfB P m.tT 0 0=true) (hc:(!Nat.beq N.zaf 0)=true) (hd:m.fs.dfs P N) (hD:FOk P m.dflt 1 (seqs (m.fs.dfl N m.tT 1)) []):MsgT P N m fx:=by
 obtain⟨k1,k2,k3,k4⟩:=Fds.ok_of B F m.fs h hd
 exact⟨k2,zuf h0,k4,hD,fdsOkR B F k1 (ksOk_ofM B F hkB hd),nbeq hc⟩
end
section
variable {P:Program} {N:Nums} {loc:List Nat} {N':Nat} {Q:Exit→Env→World→Prop} {σ:Env} {w:World}
def zqs (N:Nums) (i l c k:Nat) (body:C):C:=
 .block k (.loop (.seq (.ops [⟨some (c+100),.binOp .lss N.ze (V i) (V l) N.ze,0,none,[]⟩]) (.seq (.cond c .skip (.exit k)) (.seq (.block (k+1) body)
  (.ops [⟨some 0,.binOp .add N.ze (V i) (.const (.int .i64 1)) N.ze,0,none,[]⟩,⟨some (i+100),.move (T 0),0,none,[]⟩])))))
theorem ztg (hlo:zei loc N') {i l c k L:Nat} {body:C} (hL:L < 4611686018427387904) (I:Nat→Env→World→Prop)
  (hI:∀ j σ w,I j σ w→σ i=.int .i64 j∧σ l=.int .i64 L∧j≤L) (hc:∀ j σ w b,I j σ w→I j (upd σ c (.bool b)) w)
  (h0:I 0 σ w) (hend:∀ σ w,I L σ w→Q .normal σ w)
  (hb:∀ j σ w,j < L→I j σ w→W P loc N' body (fun e σ' w'=>match e with
   | .normal=>σ' i=.int .i64 j∧I (j+1) (upd σ' i (.int .i64 ((j+1:Nat):Int))) w'
   | .ret=>Q .ret σ' w'
   | _=>False) σ w):W P loc N' (zqs N i l c k body) Q σ w:=by
 unfold zqs
 refine zem (zpk (fun m σ w=>∃ j,m=L - j∧I j σ w) (n:=L) ⟨0,by omega,h0⟩ ?_)
 rintro m σ1 w1 ⟨j,rfl,hj⟩
 obtain⟨f1,f2,f3⟩:=hI j σ1 w1 hj
 refine zd fun K hK=>zi fun τ=>?_
 simp +decide (disch:=omega) only [bK,bE,f1,f2,zk,locs_envOf]
 refine hK _ _ ?_
 clear hK K
 refine zd fun K hK=>W_if hlo (upd_same _ _ _) ?_
 by_cases hlt:(j:Int) < L
 ·rw[decide_eq_true hlt,if_pos rfl]
  refine zbd (hK _ _ ?_)
  clear hK K
  have hj2:=hc j σ1 w1 true hj
  refine zd fun K hK=>zem (zii (hb j _ w1 (by omega) hj2) ?_)
  rintro e σ2 w2 hq
  cases e with
  | normal=>
   obtain⟨g1,g2⟩:=hq
   refine hK _ _ (zi fun τ=>?_)
   have hw:IntKind.i64.wrap ((j:Int)+1)=(((j+1:Nat):Int)):=by
    rw[show ((j:Int)+1)=((j+1:Nat):Int) by omega]
    exact wrap_i64 (by omega) (by omega)
   simp +decide (disch:=omega) only [bK,bE,BEq.rfl,g1,hw,zk,zai,locs_envOf]
   exact⟨L - (j+1),by omega,j+1,rfl,g2⟩
  | ret=>exact hq
  | _=>exact hq.elim
 ·rw[decide_eq_false hlt,if_neg (by simp)]
  refine zof ?_
  simp only [zfd,inB,if_true]
  have hjL:j=L:=by omega
  subst hjL
  exact hend _ _ (hc _ _ _ _ hj)
end
theorem zng {P:Program} {w:World} {K:Env→Prop}:∀ (r:List ROp) (ρ:Env),(∀ o∈r,zql o.op=true)→zjt P w K r ρ→zfv P (·=w) K (r.map fun o=>(o,true)) ρ
 | [],_,_,h=>h
 | o :: r,ρ,hp,h=>by
  obtain⟨v,w',hor,hw',hs⟩:=zwb (hp o (by simp)) h
  refine⟨v,fun w1 e=>?_,zng r _ (fun o ho=>hp o (by simp [ho])) hs⟩
  subst e
  rcases hor with⟨ha,hb⟩ | ⟨ha,hb,_⟩
  ·left; refine⟨ha,?_⟩; rw[hb,hw']
  ·right; exact⟨ha,hb⟩
def stillB (l:List ROp):Bool:=planM l (l.map fun _=>true) && l.all fun o=>zql o.op
theorem zaae (l:List ROp):zgv l (l.map fun _=>true)=[]:=by
 unfold zgv
 have:(l.zip (l.map fun _=>true)).filter (fun p=>!p.2)=[]:=by
  rw[List.filter_eq_nil_iff]
  intro p hp
  have:=(List.of_mem_zip hp).2
  rw[List.mem_map] at this
  obtain⟨_,_,e⟩:=this
  simp [← e]
 rw[this]; rfl
theorem zip_true (l:List ROp):l.zip (l.map fun _=>true)=l.map fun o=>(o,true):=by
 induction l with
 | nil=>rfl
 | cons o l ih=>simp only [List.map_cons,List.zip_cons_cons,ih]
theorem zyi {P:Program} {loc:List Nat} {N:Nat} {Q:Exit→Env→World→Prop} {σ:Env} {w:World} {l:List ROp} (hm:P.follows .mixedOrders=true) (hB:stillB l=true)
  (h:∀ τ,zjt P w.drew (fun ρ=>Q .normal (locs ρ) w.drew) l (zli σ τ)):W P loc N (.draw l) Q σ w:=by
 unfold stillB at hB
 rw[Bool.and_eq_true,List.all_eq_true] at hB
 refine zve hm (l.map fun _=>true) hB.1 (·=w.drew) rfl fun τ=>?_
 rw[zip_true,zaae]
 exact zng l _ hB.2 (h τ)
section
variable {P:Program} {N:Nums}
theorem zad {w w':World} (h:Mod w w' zy) {b o:Nat} {cs:List Value} (hr:w.rangeAt b o cs):w'.rangeAt b o cs:=fun j v hj=>by
 have h1:=hr j v hj
 rw[h.cell b (o+j) (zde (by rw[h1]; rfl)) (fun h=>h)]
 exact h1
end
inductive Tr where
 | mk (n:Int) (s:List UInt8) (nl:Bool) (l:List Tr) (u:List (Nat × List UInt8))
def UsG (w:World) (G:Nat→Prop):List (Nat × List UInt8)→List Value→Prop
 | [],cs=>cs=[]
 | (k,l) :: r,cs=>∃ v rest,cs=.int .u32 k :: v :: rest∧tagV w G v l∧UsG w G r rest
def RepU (w:World) (G:Nat→Prop) (v:Value) (u:List (Nat × List UInt8)):Prop:=
 (v=.slice none 0 0∧u=[])∨∃ b c cs,v=.slice (some ⟨b,0,none⟩) u.length c∧u.length≤c∧(u≠[]→G b)∧UsG w G u cs∧w.rangeAt b 0 cs
mutual
def RepT (w:World) (G:Nat→Prop):Tr→List Value→Prop
 | .mk n s nl l u,cs=>∃ vs vl vu,cs=[.int .i64 n,vs,.bool nl,vl,vu]∧tagV w G vs s ∧
   ((vl=.slice none 0 0∧l=[])∨∃ b c css,vl=.slice (some ⟨b,0,none⟩) l.length c∧l.length≤c∧(l≠[]→G b)∧zacw w G l css∧w.rangeAt b 0 css.flatten)∧RepU w G vu u
def zacw (w:World) (G:Nat→Prop):List Tr→List (List Value)→Prop
 | [],css=>css=[]
 | t :: l,css=>∃ c r,css=c :: r∧RepT w G t c∧zacw w G l r
end
theorem zmn {w:World} {b n:Nat}:∀ {css:List (List Value)} {o j:Nat} {c:List Value},w.rangeAt b o css.flatten→(∀ x∈css,x.length=n)→css[j]?=some c→w.rangeAt b (o+j * n) c
 | [],o,j,c,_,_,hj=>by simp at hj
 | x :: css,o,0,c,h,hn,hj=>by
  simp at hj; subst hj
  rw[List.flatten_cons,zx] at h
  simpa using h.1
 | x :: css,o,j+1,c,h,hn,hj=>by
  rw[List.flatten_cons,zx] at h
  have:=zmn (j:=j) h.2 (fun y hy=>hn y (by simp [hy])) (by simpa using hj)
  rw[hn x (by simp)] at this
  rwa [show o+n+j * n=o+(j+1) * n by rw[Nat.succ_mul]; omega] at this
structure zsr (P:Program) (N:Nums) (tt tg lt lg:TypeId):Prop where
 tree:SF P tt [(0,1),(1,1),(2,1),(3,1),(4,1)] 88 [.int .i64 0,.slice none 0 0,.bool false,.slice none 0 0,.slice none 0 0]
 tag:SF P tg [(0,1),(1,1)] 32 [.int .u32 0,.slice none 0 0]
 h0:HF P tt 0 0
 h1:HF P tt 1 1
 h2:HF P tt 2 2
 h3:HF P tt 3 3
 h4:HF P tt 4 4
 g0:HF P tg 0 0
 g1:HF P tg 1 1
 lt:TI P lt (.slice tt) 1 24 (.slice none 0 0)
 lg:TI P lg (.slice tg) 1 24 (.slice none 0 0)
section
variable {P:Program} {N:Nums}
theorem ztw {P:Program} {K:Env→World→Prop}:∀ (a b:List ROp) (ρ:Env) (w:World),runR P a ρ w (fun ρ w=>runR P b ρ w K)→runR P (a++b) ρ w K
 | [],_,_,_,h=>h
 | o :: a,b,ρ,w,h=>by
  show zcn P o ρ w fun ρ w=>runR P (a++b) ρ w K
  exact zhi (fun ρ w hk=>ztw a b ρ w hk) h
end
section
variable {P:Program} {N:Nums}
end
section
variable {P:Program} {N:Nums}
end
section
variable {P:Program} {N:Nums}
end
def Own (w:World) (lo sz:Nat) (v:Value) (n:Nat) (cs:List Value):Prop:=
 (v=.slice none 0 0∧n=0∧cs=[])∨∃ b c,v=.slice (some ⟨b,0,none⟩) n c∧lo≤b∧b < w.heap.size∧n≤c∧w.there b 0 (c * sz)∧w.rangeAt b 0 cs∧cs.length=n * sz
def zcl (v:Value) (k:Nat):Prop:=∀ b o s n c,v=.slice (some ⟨b,o,s⟩) n c→k≠b
section
variable {P:Program} {N:Nums}
theorem ztu {st et ty:TypeId} {a b sz by':Nat} {z z':Value} {d:TypeDesc} (hS:TI P st (.slice et) a b z') (ht:TI P et d sz by' z) {w:World} {lo n bs cb m:Nat} {v:Value} {cs new:List Value} (ho:Own w lo sz v n cs)
  (hn:w.rangeAt bs 0 new) (hnl:new.length=m * sz) (h1:∀ c∈new,c.oneCell'=true) (hlo:lo≤w.heap.size) (hz:z.cells.size=sz) (hold:∀ c∈cs,c.oneCell'=true)
  (hbig:n+m < 1099511627776) (hby:by'≤128) (hm:0 < m) :
  ∃ v' w',(Builtin.append_ #[st,st] ty #[v,.slice (some ⟨bs,0,none⟩) m cb]).run P w=.ok v' w'∧Own w' lo sz v' (n+m) (cs++new)∧Mod w w' (fun i _=>¬ zcl v i)∧v'.oneCell'=true∧(∀ k,k < w.heap.size→zcl v k→zcl v' k):=by
 obtain⟨i,hi,hsz,hbytes,hzero⟩:=ht.info
 subst hsz
 have hsrc:Src P i.size st (.slice (some ⟨bs,0,none⟩) m cb) m new w:=Src.ofSlice w hS.und ⟨bs,0,none⟩ m cb new hnl (fun j u hj=>by rw[Addr.add_mid]; exact hn j u hj) h1
 have fits:∀ c,c < n+m→Builtin.nextslicecap (n+m) c * i.bytes≤281474976710656:=by
  intro c hc
  have h1:=nextslicecap_le hc
  have h2:Builtin.nextslicecap (n+m) c * i.bytes≤(2 * (n+m)) * 128:=Nat.mul_le_mul h1 (by omega)
  omega
 have grown:∀ (base:Option Addr) (c:Nat),v=.slice base n c→c < n+m→(Builtin.firstCells i.size n (.slice base n c)).run P w.drew=.ok cs.toArray w.drew→cs.length=n * i.size→
   ∃ v' w',(Builtin.append_ #[st,st] ty #[v,.slice (some ⟨bs,0,none⟩) m cb]).run P w=.ok v' w'∧Own w' lo i.size v' (n+m) (cs++new)∧Mod w w' (fun i _=>¬ zcl v i)∧v'.oneCell'=true∧(∀ k,k < w.heap.size→zcl v k→zcl v' k):=by
  intro base c hv hc hold' hcl
  have hrun:=run_append_grow_src (P:=P) w st st ty et i z hS.und hi hzero base n c cs hold' (.slice (some ⟨bs,0,none⟩) m cb) m new hsrc hc (by omega) (fits c hc)
  refine⟨_,_,by rw[hv]; exact hrun,.inr ⟨w.heap.size,_,rfl,hlo,by rw[zav]; exact Nat.lt_succ_self _,grownCap_ge w (n+m) c et,?_,?_,by rw[List.length_append,hcl,hnl,Nat.add_mul]⟩,(Mod.drew w _).trans' (Mod.alloc _ _ _),rfl,fun k hk _ b o s n c e=>by injection e with e1 _ _; injection e1 with e2; injection e2 with e3; omega⟩
  ·have ht2:=zbq w.drew ((cs++new).toArray++Builtin.zeroCells z.cells (grownCap w (n+m) c et - (n+m))) et
   intro j hj
   refine ht2 j ?_
   have hzc:(Builtin.zeroCells z.cells (grownCap w (n+m) c et - (n+m))).size=(grownCap w (n+m) c et - (n+m)) * i.size:=by simp [Builtin.zeroCells,hz]
   rw[Array.size_append,hzc,List.size_toArray,List.length_append,hcl,hnl,← Nat.add_mul,← Nat.add_mul]
   have hge:=grownCap_ge w (n+m) c et
   rwa [show n+m+(grownCap w (n+m) c et - (n+m))=grownCap w (n+m) c et by omega]
  ·have hr:=zr w.drew ((cs++new).toArray++Builtin.zeroCells z.cells (grownCap w (n+m) c et - (n+m))) et (0,0)
   exact(zx.1 (by simpa using hr)).1
 rcases ho with⟨hv,hn0,hcs⟩ | ⟨b,c,hv,hb1,hb2,hnc,hth,hrg,hcl⟩
 ·subst hcs
  exact grown none 0 (by rw[hv,hn0]) (by omega) (by rw[hn0]; rfl) (by rw[hn0]; simp)
 ·by_cases hroom:n+m≤c
  ·have hle:n * i.size+new.length≤c * i.size:=by
    rw[hnl,← Nat.add_mul]; exact Nat.mul_le_mul_right _ hroom
   have hrun:=run_append_room_src (P:=P) w st st ty et i hS.und hi b 0 n c (.slice (some ⟨bs,0,none⟩) m cb) m new hsrc hroom (fun j hj=>by
    have:=(hth (n * i.size+j) (by omega)).1; simpa [Nat.add_assoc] using this) (fun j hj=>by
    have:=(hth (n * i.size+j) (by omega)).2; simpa [Nat.add_assoc] using this)
   have ms:Mod w (w.setCells b (0+n * i.size) new) (rng b (0+n * i.size) new.length):=Mod.setCells _ _ _ fun _ k h1 h2=>⟨rfl,h1,h2⟩
   refine⟨_,_,by rw[hv]; exact hrun,.inr ⟨b,c,rfl,hb1,Nat.lt_of_lt_of_le hb2 ms.size,hroom,ms.there hb2 hth,?_,by rw[List.length_append,hcl,hnl,Nat.add_mul]⟩,ms.mono (fun k o _ h hn=>hn b 0 none n c hv h.1),rfl,fun k hk hn b' o' s' n' c' e=>by
    injection e with e1 _ _; injection e1 with e2; injection e2 with e3; subst e3; exact hn b 0 none n c hv⟩
   rw[zx]
   refine⟨ms.rangeAt hb2 (fun k h1 h2 h=>by have:=h.2.1; omega) hrg,?_⟩
   rw[hcl]
   have hset:∀ (l:List Value) (o:Nat) (w:World),(∀ j,j < l.length→(w.cell? ⟨b,o+j,none⟩).isSome=true)→(w.setCells b o l).rangeAt b o l:=by
    intro l o w hl
    have hex:∃ old:List Value,old.length=l.length∧w.rangeAt b o old:=by
     refine⟨(List.range l.length).map fun j=>(w.cell? ⟨b,o+j,none⟩).getD undef,by simp,fun j v hj=>?_⟩
     rw[List.getElem?_map] at hj
     cases hr:(List.range l.length)[j]? with
     | none=>rw[hr] at hj; simp at hj
     | some k=>
      rw[hr] at hj
      have hk:k=j:=by
       have:=List.getElem?_eq_some_iff.1 hr
       obtain⟨h1,h2⟩:=this
       simpa using h2.symm
      subst hk
      have hlt:k < l.length:=by have:=(List.getElem?_eq_some_iff.1 hr).1; simpa using this
      have hs:=hl k hlt
      simp only [Option.map_some,Option.some.injEq] at hj
      cases hc:w.cell? ⟨b,o+k,none⟩ with
      | none=>rw[hc] at hs; cases hs
      | some x=>rw[hc] at hj; simp at hj; rw[hj]
    obtain⟨old,ho1,ho2⟩:=hex
    have:=zax l o w old ho2 (by omega)
    rwa [List.drop_of_length_le (by omega),List.append_nil] at this
   exact hset new _ w (fun j hj=>by have:=(hth (n * i.size+j) (by omega)).1; simpa [Nat.add_assoc] using this)
  ·have hfc:(Builtin.firstCells i.size n (.slice (some ⟨b,0,none⟩) n c)).run P w.drew=.ok cs.toArray w.drew:=
    run_firstCells_some w.drew i.size n ⟨b,0,none⟩ n c cs hcl (fun j u hj=>by rw[Addr.add_mid]; exact hrg j u hj)
   exact grown (some ⟨b,0,none⟩) c hv (by omega) hfc hcl
end
theorem zrq:∀ (l:List Value) (k:Nat) (arr:Array Value),k+l.length≤arr.size→
  ((l.zipIdx k).foldl (fun cs (x:Value × Nat)=>cs.setIfInBounds x.2 x.1) arr).toList=arr.toList.take k++l++arr.toList.drop (k+l.length)
 | [],k,arr,_=>by simp
 | v :: l,k,arr,h=>by
  simp only [List.length_cons] at h
  rw[List.zipIdx_cons,List.foldl_cons,zrq l (k+1) _ (by simp; omega)]
  simp only [Array.toList_setIfInBounds,List.length_cons]
  have hk:k < arr.toList.length:=by simp; omega
  rw[List.set_eq_take_append_cons_drop,if_pos hk]
  have e1:(arr.toList.take k++v :: arr.toList.drop (k+1)).take (k+1)=arr.toList.take k++[v]:=by
   rw[List.take_append,List.length_take,Nat.min_eq_left (by omega)]
   rw[List.take_of_length_le (by simp; omega)]
   simp
  have e2:(arr.toList.take k++v :: arr.toList.drop (k+1)).drop (k+1+l.length)=arr.toList.drop (k+(l.length+1)):=by
   rw[List.drop_append,List.length_take,Nat.min_eq_left (by omega)]
   rw[List.drop_of_length_le (by simp; omega)]
   simp only [List.nil_append]
   rw[show k+1+l.length - k=l.length+1 by omega,List.drop_succ_cons,List.drop_drop]
   congr 1; omega
  rw[e1,e2]
  simp
section
variable {P:Program}
theorem zrh {st et:TypeId} {a b sz by':Nat} {z z':Value} {d:TypeDesc} (hS:TI P st (.slice et) a b z') (ht:TI P et d sz by' z) {w:World} {v:Value} {cs:List Value} (hv:v.cells=cs.toArray) (hl:cs.length=sz) (h0:0 < sz) (hsz:sz≤16777216) :
  (Instr.buildSlice st 1 #[(0,v)]).run P w=.ok (.slice (some ⟨w.heap.size,0,none⟩) 1 1) (w.alloc (.cells cs.toArray et)):=by
 obtain⟨i,hi,h1,h2,h3⟩:=ht.info
 refine run_buildSlice w st et 1 _ cs.toArray i z hS.und hi h3 (by omega) (by omega) ?_
 have hsz2:((Array.range (1 * i.size)).map (z.cells[· % z.cells.size]!)).size=sz:=by simp [h1]
 have hv2:v.cells.size=sz:=by rw[hv]; simpa using hl
 simp only [Instr.fill,h1,hv2,Nat.zero_mul,Nat.zero_add]
 rw[if_neg (by simp [h1] at hsz2 ⊢)]
 congr 1
 apply Array.ext'
 have:=zrq cs 0 ((Array.range (1 * i.size)).map (z.cells[· % z.cells.size]!)) (by rw[hsz2]; omega)
 rw[h1] at this
 rw[hv]
 have e:cs.toArray.zipIdx=(cs.zipIdx 0).toArray:=by simp
 rw[e,List.foldl_toArray]
 rw[this]
 simp
 omega
end
theorem zfq {b:Nat}:∀ (vs:List Value) (o:Nat) (w:World),(w.setCells b o vs).heap.size=w.heap.size
 | [],_,_=>rfl
 | v :: vs,o,w=>by
  show ((w.setCell ⟨b,o,none⟩ v).setCells b (o+1) vs).heap.size=_
  rw[zfq vs (o+1)]
  simp [World.setCell]
section
variable {P:Program} {N:Nums}
def zT:List Value:=[.int .i64 0,.slice none 0 0,.bool false,.slice none 0 0,.slice none 0 0]
def zU:List Value:=[.int .u32 0,.slice none 0 0]
theorem zsr.ti {tt tg lt lg:TypeId} (h:zsr P N tt tg lt lg):∃ fs,TI P tt (.struct fs) 5 88 (.agg zT.toArray):=by
 obtain⟨fs,h,_⟩:=h.tree.out
 exact⟨fs,h⟩
theorem zsr.tu {tt tg lt lg:TypeId} (h:zsr P N tt tg lt lg):∃ fs,TI P tg (.struct fs) 2 32 (.agg zU.toArray):=by
 obtain⟨fs,h,_⟩:=h.tag.out
 exact⟨fs,h⟩
theorem Own.stay {w w':World} {M:Nat→Nat→Prop} (h:Mod w w' M) {lo sz n:Nat} {v:Value} {cs:List Value} (hM:∀ k o,¬ zcl v k→¬ M k o) (ho:Own w lo sz v n cs):Own w' lo sz v n cs:=by
 rcases ho with ho | ⟨b,c,e,h1,h2,h3,h4,h5,h6⟩
 ·exact .inl ho
 ·have hb:¬ zcl v b:=fun hn=>hn b 0 none n c e rfl
  exact .inr ⟨b,c,e,h1,Nat.lt_of_lt_of_le h2 h.size,h3,h.there h2 h4,h.rangeAt h2 (fun i _ _=>hM b i hb) h5,h6⟩
theorem Own.blk {w:World} {lo sz n:Nat} {v:Value} {cs:List Value} (ho:Own w lo sz v n cs) {k:Nat} (hk:¬ zcl v k):lo≤k∧k < w.heap.size:=by
 rcases ho with⟨e,_,_⟩ | ⟨b,c,e,h1,h2,_⟩
 ·exact absurd (fun b o s n c e'=>by rw[e] at e'; cases e') hk
 ·by_cases hkb:k=b
  ·subst hkb; exact⟨h1,h2⟩
  ·refine absurd (fun b' o' s' n' c' e'=>?_) hk
   rw[e] at e'
   injection e' with e1 _ _; injection e1 with e2; injection e2 with e3
   intro hh; exact hkb (hh.trans e3.symm)
end
section
variable {P:Program} {N:Nums}
end
section
variable {P:Program} {N:Nums}
end
section
variable {P:Program} {N:Nums}
theorem UsG.mono {w:World} {G G':Nat→Prop} (hG:∀ k,G k→G' k):∀ {u:List (Nat × List UInt8)} {cs:List Value},UsG w G u cs→UsG w G' u cs
 | [],_,hu=>hu
 | (k,l) :: r,_,⟨v,rest,h1,h2,h3⟩=>⟨v,rest,h1,h2.imp (fun x=>⟨x.1,x.2⟩) (fun x=>x.mono hG),UsG.mono hG h3⟩
theorem RepU.mono {w:World} {G G':Nat→Prop} (hG:∀ k,G k→G' k) {v:Value} {u:List (Nat × List UInt8)} (hu:RepU w G v u):RepU w G' v u:=
 hu.imp id fun ⟨b,c,cs,h1,h2,h3,h4,h5⟩=>⟨b,c,cs,h1,h2,fun h=>hG b (h3 h),h4.mono hG,h5⟩
mutual
theorem RepT.mono {w:World} {G G':Nat→Prop} (hG:∀ k,G k→G' k):∀ (t:Tr) {cs:List Value},RepT w G t cs→RepT w G' t cs
 | .mk n s nl l u,_,⟨vs,vl,vu,h1,h2,h3,h4⟩=>⟨vs,vl,vu,h1,h2.imp (fun x=>⟨x.1,x.2⟩) (fun x=>x.mono hG),h3.imp id fun ⟨b,c,css,g1,g2,g3,g4,g5⟩=>⟨b,c,css,g1,g2,fun h=>hG b (g3 h),zacw.mono hG l g4,g5⟩,h4.mono hG⟩
theorem zacw.mono {w:World} {G G':Nat→Prop} (hG:∀ k,G k→G' k):∀ (l:List Tr) {css:List (List Value)},zacw w G l css→zacw w G' l css
 | [],_,hr=>hr
 | t :: l,_,⟨c,r,h1,h2,h3⟩=>⟨c,r,h1,RepT.mono hG t h2,zacw.mono hG l h3⟩
end
end
def NB (a b:Nat):Nat→Prop:=fun k=>a≤k∧k < b
section
variable {P:Program} {N:Nums}
theorem ztv {st ty et:TypeId} {a b sz by':Nat} {z z':Value} {d:TypeDesc} (hS:TI P st (.slice et) a b z') (ht:TI P et d sz by' z) {w:World} {ad:Option Addr} {c:Nat} :
  (Builtin.append_ #[st,st] ty #[.slice none 0 0,.slice ad 0 c]).run P w=.ok (.slice none 0 0) w:=by
 obtain⟨i,hi,_,_,_⟩:=ht.info
 cases ad with
 | none=>simp [Builtin.append_,run_underlying hS.und,sizeOf,typeInfo,hi,Builtin.lenOf,Builtin.firstCells]
 | some a=>
  have:(loadCells a 0).run P w=.ok #[] w:=by
   have:=run_loadCells_list (P:=P) w a [] (fun j v hj=>by simp at hj)
   simpa using this
  simp [Builtin.append_,run_underlying hS.und,sizeOf,typeInfo,hi,Builtin.lenOf,Builtin.firstCells,this]
theorem byteV_ones (l:List UInt8):∀ c∈l.map zz,c.oneCell'=true:=fun c hc=>by
 obtain⟨x,_,rfl⟩:=List.mem_map.1 hc
 rfl
theorem zwd (B:Base P N) (w:World) (l:List UInt8):∃ v' w',(convert N.zac N.za (strV l)).run P w=.ok v' w'∧tagV w' (NB w.heap.size w'.heap.size) v' l∧Mod w w' zy:=by
 have h:=run_bytes_of_string (P:=P) w N.zac N.za N.zh ⟨l.toArray⟩ B.string.und B.Lu8.und B.uint8.und
 have hs:(⟨l.toArray⟩:ByteArray).size=l.length:=by simp [ByteArray.size]
 refine⟨_,_,h,.inr ⟨w.heap.size,0,_,by rw[hs],?_,fun _=>⟨Nat.le_refl _,by rw[zav]; exact Nat.lt_succ_self _⟩,?_⟩,(Mod.drew w _).trans' (Mod.alloc _ _ _)⟩
 ·rw[← hs]; exact grownCap_ge _ _ _ _
 ·have hr:=zr w.drew (bytesRow ⟨l.toArray⟩ (grownCap w (⟨l.toArray⟩:ByteArray).size 0 N.zh)) N.zh ((bytesRow ⟨l.toArray⟩ (grownCap w (⟨l.toArray⟩:ByteArray).size 0 N.zh)).size,(bytesRow ⟨l.toArray⟩ (grownCap w (⟨l.toArray⟩:ByteArray).size 0 N.zh)).size+1)
  have e:(bytesRow ⟨l.toArray⟩ (grownCap w (⟨l.toArray⟩:ByteArray).size 0 N.zh)).toList=l.map zz++List.replicate (grownCap w (⟨l.toArray⟩:ByteArray).size 0 N.zh - (⟨l.toArray⟩:ByteArray).size) (.int .u8 0):=by
   simp [bytesRow,zz]
  rw[e] at hr
  exact(zx.1 hr).1
def zro (n:Int) (s:List UInt8) (nl:Bool):Tr:=.mk n s nl [] []
def Told (w:World) (t:Tr) (v:Value) (w':World):Prop:=∃ cs,v=.agg cs.toArray∧RepT w' (NB w.heap.size w'.heap.size) t cs∧Mod w w' zy
theorem ret_tree {tt tg lt lg:TypeId} (hT:zsr P N tt tg lt lg) {w1:World} {b:Nat} {cs:List Value} (hr:w1.rangeAt b 0 cs) (hl:cs.length=5):(loadVar tt ⟨b,0,none⟩).run P w1=.ok (.agg cs.toArray) w1:=by
 obtain⟨fs,h⟩:=hT.ti
 have hlv:∀ (f:Array Field) (x:List Value),ldv (.struct f) x=.agg x.toArray:=fun _ _=>rfl
 have hl2:=h.run_load (w:=w1) (b:=b) (o:=0) hr hl (fun h=>by cases h)
 simpa [Instr.loadAt,Instr.sureAddr,Sem.run_bind,hlv] using hl2
theorem put_tree {tt tg lt lg:TypeId} (hT:zsr P N tt tg lt lg) {w:World} {b:Nat} {old cs:List Value} (hr:w.rangeAt b 0 old) (ho:old.length=5) (ht:w.there b 0 5) (hl:cs.length=5) (h1:∀ c∈cs,c.oneCell'=true) :
  ∃ w',(Instr.storeAt tt (.pointer (some ⟨b,0,none⟩)) (.agg cs.toArray)).run P w=.ok () w'∧Mod w w' (blk b)∧w'.heap.size=w.heap.size∧w'.rangeAt b 0 cs∧w'.there b 0 5:=by
 obtain⟨fs,h⟩:=hT.ti
 have m:Mod w (w.setCells b 0 cs) (blk b):=Mod.setCells cs 0 w fun _ _ _ _=>rfl
 refine⟨_,h.run_store (w:=w) (b:=b) (o:=0) (v:=.agg cs.toArray) (cs:=cs) rfl hl ht h1,m,zfq _ _ _,?_,m.there (zwz ht (by decide)) ht⟩
 have:=zax cs 0 w _ hr (by omega)
 rwa [List.drop_of_length_le (by omega),List.append_nil] at this
theorem build0 {tt tg lt lg:TypeId} (hT:zsr P N tt tg lt lg) (w:World):(Instr.build tt #[]).run P w=.ok (.agg zT.toArray) w:=
 hT.tree.run_build (by simp [Instr.fill,zT])
end
section
variable {P:Program} {N:Nums}
theorem zxi {t a:TypeId} (h:P.underlying t=some (.pointer a)) {x y:Operand} {m:Option Addr} {w:World} :
  (do eqGuard .eql t x y (.pointer m) (.pointer none); binOp .eql t (.pointer m) (.pointer none):Sem Value).run P w=.ok (.bool m.isNone) w:=by
 have e:(Op.equal t (.pointer m) (.pointer none)).run P w=.ok m.isNone w:=by
  unfold Op.equal Op.maxDepth
  rw[show (10000:Nat)=9999+1 from rfl]
  unfold Op.equalIn
  rw[Sem.run_bind,run_underlying h,Result.andThen_ok]
  cases m<;>rfl
 have e1:(eqGuard .eql t x y (.pointer m) (.pointer none)).run P w=.ok () w:=rfl
 rw[Sem.run_bind,e1,Result.andThen_ok]
 show ((do pure (.bool (← Op.equal t (.pointer m) (.pointer none))):Sem Value)).run P w=_
 rw[Sem.run_bind,e,Result.andThen_ok]
 rfl
theorem run_eqlS {t a:TypeId} (h:P.underlying t=some (.slice a)) {x y:Operand} {m:Option Addr} {n c:Nat} {w:World} :
  (do eqGuard .eql t x y (.slice m n c) (.slice none 0 0); binOp .eql t (.slice m n c) (.slice none 0 0):Sem Value).run P w=.ok (.bool m.isNone) w:=by
 have e:(Op.equal t (.slice m n c) (.slice none 0 0)).run P w=.ok m.isNone w:=by
  unfold Op.equal Op.maxDepth
  rw[show (10000:Nat)=9999+1 from rfl]
  unfold Op.equalIn
  rw[Sem.run_bind,run_underlying h,Result.andThen_ok]
  cases m<;>rfl
 have e1:(eqGuard .eql t x y (.slice m n c) (.slice none 0 0)).run P w=.ok () w:=rfl
 rw[Sem.run_bind,e1,Result.andThen_ok]
 show ((do pure (.bool (← Op.equal t (.slice m n c) (.slice none 0 0))):Sem Value)).run P w=_
 rw[Sem.run_bind,e,Result.andThen_ok]
 rfl
end
section
variable {P:Program} {N:Nums}
end
section
variable {P:Program} {N:Nums}
theorem call_less (B:Base P N) (F:Fns P N) (hN:N.zdp≠0) {st:TI P N.zbo (.slice N.zc) 1 24 (.slice none 0 0)} {w:World} {bv blk n c:Nat} (hv:w.cell? ⟨bv,0,none⟩=some (.slice (some ⟨blk,0,none⟩) n c)) {g:Nat→Int}
  (hc:∀ t,t < n→w.cell? ⟨blk,t,none⟩=some (.int .u32 (g t))) {i j:Nat} (hi:i < n) (hj:j < n) :
  Call P N.zdp #[.int .i64 i,.int .i64 j,.pointer (some ⟨bv,0,none⟩)] w fun v w'=>v=.bool (decide (g i < g j))∧w'=w.drew:=by
 refine(F.PTags_Each_1 hN).call rfl fun loc N' hlo=>?_
 unfold zph
 refine zd fun K hK=>zao (hK _ _ ?_)
 clear hK K
 obtain⟨σ,hσ⟩:∃ σ,σ=upd (zdf #[.int .i64 i,.int .i64 j,.pointer (some ⟨bv,0,none⟩)]) 3 (.bool false):=⟨_,rfl⟩
 have f0:σ 0=.int .i64 i:=by rw[hσ,zg (by decide)]; rfl
 have f1:σ 1=.int .i64 j:=by rw[hσ,zg (by decide)]; rfl
 have f2:σ 2=.pointer (some ⟨bv,0,none⟩):=by rw[hσ,zg (by decide)]; rfl
 rw[← hσ]
 clear hσ
 have hv':w.drew.cell? ⟨bv,0,none⟩=some (.slice (some ⟨blk,0,none⟩) n c):=hv
 have ci:w.drew.cell? ⟨blk,i,none⟩=some (.int .u32 (g i)):=hc i hi
 have cj:w.drew.cell? ⟨blk,j,none⟩=some (.int .u32 (g j)):=hc j hj
 refine zd fun K hK=>zyi B.mixed (by kernel_rfl) fun τ=>?_
 simp +decide only [bK,bE,zjt,Nat.reduceBeqDiff,BEq.rfl,Nat.reduceAdd,Nat.zero_add,Nat.mul_one,true_and,f0,f1,f2,st.run_load1 rfl,hv',zcb st B.uint32 hi,zcb st B.uint32 hj,B.uint32.run_load1 rfl,ci,cj]
 refine hK _ _ (zb fun σ4 hσ=>zbb ⟨.inr rfl,_,rfl,?_,rfl⟩)
 have:=hσ 3
 simp +decide only [bE,BEq.rfl,Nat.reduceAdd] at this
 exact this
end
open Go.ChangeMaps (setBlock)
theorem nodup_le:∀ (l m:List Nat),l.Nodup→(∀ x∈l,x∈m)→l.length≤m.length
 | [],_,_,_=>Nat.zero_le _
 | x :: l,m,hn,hs=>by
  have hx:=hs x (by simp)
  have hn2:=List.nodup_cons.1 hn
  have h1:=nodup_le l (m.erase x) hn2.2 fun y hy=>(List.mem_erase_of_ne fun e=>by subst e; exact hn2.1 hy).2 (hs y (by simp [hy]))
  rw[List.length_erase_of_mem hx] at h1
  have:=List.length_pos_of_mem hx
  simp only [List.length_cons]
  omega
theorem zwq {l:List MapEntry} (h:(l.map MapEntry.born).Nodup):l.Nodup:=List.Pairwise.of_map MapEntry.born (fun _ _ h e=>h (by rw[e])) h
section
variable {P:Program} {N:Nums}
theorem ztt {t a b:TypeId} (h:P.underlying t=some (.map a b)) {ty:TypeId} {w:World}:(Builtin.len_ #[t] ty #[.map none]).run P w=.ok (.int .i64 0) w:=by
 simp [Builtin.len_,run_underlying h,goInt]
theorem zrf {t a b:TypeId} (h:P.underlying t=some (.map a b)) {ty:TypeId} {w:World} {m:Nat} {es:Array MapEntry} {ck:Nat} (hm:w.heap[m]?=some (.map es ck)):(Builtin.len_ #[t] ty #[.map (some m)]).run P w=.ok (.int .i64 es.size) w:=by
 simp [Builtin.len_,run_underlying h,MapKept.run_getObj_map hm,goInt]
theorem Mod.setIter {w:World} {r:Nat} {m m':Option Nat} {a a' c c':Nat} {s s':Array Nat} (h:w.heap[r]?=some (.mapIter m a s c)):Mod w (setBlock w r (.mapIter m' a' s' c')) (blk r)∧(setBlock w r (.mapIter m' a' s' c')).heap[r]?=some (.mapIter m' a' s' c')∧(setBlock w r (.mapIter m' a' s' c')).heap.size=w.heap.size:=by
 have hlt:r < w.heap.size:=(Array.getElem?_eq_some_iff.1 h).1
 have h1:(setBlock w r (.mapIter m' a' s' c')).heap[r]?=some (.mapIter m' a' s' c'):=by simp [setBlock,hlt]
 have h2:∀ k,k≠r→(setBlock w r (.mapIter m' a' s' c')).heap[k]?=w.heap[k]?:=fun k hk=>by
  simp only [setBlock]
  rw[Array.getElem?_setIfInBounds_ne (fun e=>hk e.symm)]
 refine⟨⟨rfl,rfl,rfl,by simp [setBlock],fun k hk hn=>h2 k fun e=>hn 0 e,fun k o hk hn=>?_,fun k o hk=>?_,fun k o hk=>?_,fun k hk=>?_⟩,h1,by simp [setBlock]⟩
 ·exact World.cell?_of_block (h2 k fun e=>hn e)
 ·by_cases e:k=r
  ·subst e; simp only [World.cell?,h1,h]
  ·rw[World.cell?_of_block (h2 k e)]
 ·by_cases e:k=r
  ·subst e; simp only [World.frozen?,h1,h]
  ·rw[World.frozen?_of_block (h2 k e)]
 ·by_cases e:k=r
  ·subst e; simp only [World.shape?,h1,h]
  ·simp only [World.shape?,h2 k e]
theorem zze {st et:TypeId} {a b sz by':Nat} {z z':Value} {d:TypeDesc} (hS:TI P st (.slice et) a b z') (ht:TI P et d sz by' z) (hz:z.cells.size=sz) {w:World} {n:Nat} (hn:by' * n≤281474976710656) (hn2:n < 4611686018427387904) :
  ∃ w',(Instr.makeSlice st (.int .i64 0) (.int .i64 n)).run P w=.ok (.slice (some ⟨w.heap.size,0,none⟩) 0 n) w'∧Own w' w.heap.size sz (.slice (some ⟨w.heap.size,0,none⟩) 0 n) 0 []∧Mod w w' zy∧w'.heap.size=w.heap.size+1:=by
 obtain⟨i,hi,hsz,hbytes,hzero⟩:=ht.info
 have hb:(i.bytes:Int) * (n:Int)≤281474976710656:=by
  have:((i.bytes * n:Nat):Int)≤281474976710656:=by rw[hbytes]; omega
  rwa [Int.natCast_mul] at this
 have hr:=run_make (P:=P) w st et i z hS.und hi hzero .i64 .i64 0 n (Int.le_refl _) (by omega) hb (by omega)
 simp only [Int.toNat_zero,Int.toNat_natCast] at hr
 refine⟨_,hr,.inr ⟨w.heap.size,n,rfl,Nat.le_refl _,by rw[zav]; exact Nat.lt_succ_self _,Nat.zero_le _,?_,fun j v hj=>by simp at hj,by simp⟩,Mod.alloc _ _ _,zav _ _⟩
 have:=zbq w (madeCells z.cells (n * i.size)) et
 rw[size_madeCells,hsz] at this
 rw[hsz]
 exact this
structure LU (P:Program) (N:Nums):Prop where
 lu:TI P N.zbo (.slice N.zc) 1 24 (.slice none 0 0)
structure EC (es:List MapEntry) (ck mr:Nat) (w0:World) (lo b3 rI:Nat) (v0 v1:Value) (picked:List MapEntry) (σ:Env) (w:World):Prop where
 f0:σ 0=v0
 f1:σ 1=v1
 f3:σ 3=.pointer (some ⟨b3,0,none⟩)
 f4:σ 4=.pointer (some ⟨rI,0,none⟩)
 mod:Mod w0 w zy
 map:w.heap[mr]?=some (.map es.toArray ck)
 iter:∃ seen,w.heap[rI]?=some (.mapIter (some mr) ck seen ck)∧seen.toList=picked.map MapEntry.born
 mem:∀ e∈picked,e∈es
 nd:(picked.map MapEntry.born).Nodup
 row:∃ v,w.cell? ⟨b3,0,none⟩=some v∧w.there b3 0 1∧Own w lo 1 v picked.length (picked.map MapEntry.key)∧zcl v b3∧zcl v rI
 lt:b3 < w.heap.size∧rI < w.heap.size∧w0.heap.size≤b3∧w0.heap.size≤rI∧mr < w0.heap.size∧w0.heap.size≤lo∧lo≤w.heap.size∧b3≠rI
def cCollect (N:Nums):C:=
 .seq (.ops [⟨some 0,.next (V 4) false,N.t_,none,[]⟩,⟨some (5+100),.extract (T 0) 0,0,none,[]⟩])
  (.seq (.cond 5 .skip (.exit 0))
   (.block 1 (.seq (.ops [⟨some 0,.entry (V 4),0,none,[]⟩,⟨some 1,.extract (T 0) 0,0,none,[]⟩,⟨some (6+100),.assign (T 1),0,none,[]⟩])
    (.ops [⟨some 0,.load N.zbo (V 3),0,none,[]⟩,⟨some 1,.move (V 6),0,none,[]⟩,⟨some 2,.buildSlice N.zbo 1 #[(0,(T 1))],0,none,[]⟩,
     ⟨some 3,.call ⟨.builtin .append,#[T 0,T 2],#[N.zbo,N.zbo]⟩,N.zbo,none,[]⟩,⟨none,.store N.zbo (V 3) (T 3),0,none,[]⟩]))))
theorem zxh {a b c:Value} {w:World}:(Instr.extract (.tuple #[a,b,c]) 0).run P w=.ok a w:=rfl
theorem zvk {a:Value} {w:World}:(Instr.extract (.tuple #[a]) 0).run P w=.ok a w:=rfl
theorem zxs (B:Base P N) (hL:LU P N) {loc:List Nat} {N':Nat} (hlo:zei loc N') {Q:Exit→Env→World→Prop} {es:List MapEntry} {ck mr:Nat} {w0 w:World} {lo b3 rI:Nat} {v0 v1:Value} {picked:List MapEntry} {σ:Env}
  (hes:∀ e∈es,e.born < ck) (hnd:(es.map MapEntry.born).Nodup) (hkey:∀ e∈es,e.key.oneCell'=true) (hsz:es.length < 1099511627776)
  (h:EC es ck mr w0 lo b3 rI v0 v1 picked σ w)
  (hend:∀ σ' w',EC es ck mr w0 lo b3 rI v0 v1 picked σ' w'→picked.Perm es→Q (.exit 0) σ' w')
  (hstep:∀ σ' w' e,picked.length < es.length→EC es ck mr w0 lo b3 rI v0 v1 (picked++[e]) σ' w'→Q .normal σ' w'):W P loc N' (cCollect N) Q σ w:=by
 obtain⟨f0,f1,f3,f4,mod,map,⟨seen,iter,hseen⟩,mem,nd,⟨v,hc,ht,ho,nb3,nbI⟩,l1,l2,l3,l4,l5,l6,l7,l8⟩:=h
 have hnx:=run_next_at (P:=P) w N.t_ rI mr ck ck seen es.toArray ck iter map (by simpa using hes) (Nat.le_refl _)
 unfold cCollect
 rcases hnx with⟨h0,hrun⟩ | ⟨e,he,w1,hw1,hrun⟩
 ·
  refine zd fun K hK=>zi fun τ=>?_
  simp +decide only [bK,bE,BEq.rfl,Nat.reduceAdd,f4,zyy,hrun,zvk]
  refine hK _ _ (zb fun σ' hσ=>?_)
  have g0:=hσ 0
  have g1:=hσ 1
  have g3:=hσ 3
  have g4:=hσ 4
  have g5:=hσ 5
  simp +decide only [bE,Nat.reduceBeqDiff,BEq.rfl,Nat.reduceAdd,Nat.zero_add,f0,f1,f3,f4] at g0 g1 g3 g4 g5
  clear hσ hK K
  refine zd fun K hK=>W_if hlo g5 ?_
  rw[if_neg (by simp)]
  refine zof ?_
  refine hend _ _ ⟨g0,g1,g3,g4,mod,map,⟨seen,iter,hseen⟩,mem,nd,⟨v,hc,ht,ho,nb3,nbI⟩,l1,l2,l3,l4,l5,l6,l7,l8⟩ ?_
  have hall:=all_seen es.toArray seen h0
  have ndp:picked.Nodup:=zwq nd
  have nde:es.Nodup:=zwq hnd
  rw[List.perm_ext_iff_of_nodup ndp nde]
  intro x
  refine⟨mem x,fun hx=>?_⟩
  have hb:=hall x (by simpa using hx)
  have hb2:x.born∈picked.map MapEntry.born:=by
   rw[← hseen]; simpa using hb
  obtain⟨y,hy,hyb⟩:=List.mem_map.1 hb2
  have:=born_inj hnd (mem y hy) hx hyb
  rw[← this]; exact hy
 ·
  obtain⟨hem,hns⟩:=mem_left he
  have hem':e∈es:=by simpa using hem
  have iter1:w1.heap[rI]?=some (.mapIter (some mr) ck seen ck):=by rcases hw1 with rfl | rfl<;>exact iter
  have m1:Mod w w1 zy:=by
   rcases hw1 with rfl | rfl
   ·exact .refl _ _
   ·exact Mod.drew _ _
  have s1:w1.heap.size=w.heap.size:=by rcases hw1 with rfl | rfl<;>rfl
  obtain⟨m2,it2,s2⟩:=Mod.setIter (m':=some mr) (a':=ck) (s':=seen.push e.born) (c':=ck) iter1
  obtain⟨w2,hw2⟩:∃ w2,w2=setBlock w1 rI (.mapIter (some mr) ck (seen.push e.born) ck):=⟨_,rfl⟩
  rw[← hw2] at hrun m2 it2 s2
  clear hw2
  have m02:Mod w w2 (blk rI):=(m1.mono fun _ _ _ h=>h.elim).trans' m2
  have map2:w2.heap[mr]?=some (.map es.toArray ck):=by rw[m02.block _ (by omega) (fun o h=>by have:mr=rI:=h; omega)]; exact map
  have hent:=run_entry_at (P:=P) w2 rI mr ck seen es.toArray ck e it2 map2 hem (by simpa using hnd)
  refine zd fun K hK=>zi fun τ=>?_
  simp +decide only [bK,bE,BEq.rfl,Nat.reduceAdd,f4,zyy,hrun,zxh]
  refine hK _ _ (zb fun σ2 hσ=>?_)
  have g0:=hσ 0
  have g1:=hσ 1
  have g3:=hσ 3
  have g4:=hσ 4
  have g5:=hσ 5
  simp +decide only [bE,Nat.reduceBeqDiff,BEq.rfl,Nat.reduceAdd,Nat.zero_add,f0,f1,f3,f4] at g0 g1 g3 g4 g5
  clear hσ hK K
  refine zd fun K hK=>W_if hlo g5 ?_
  rw[if_pos rfl]
  refine zbd (hK _ _ (zem ?_))
  clear hK K
  refine zd fun K hK=>zi fun τ=>?_
  simp +decide only [bK,bE,BEq.rfl,Nat.reduceAdd,g4,step_entry,hent]
  refine hK _ _ (zb fun σ3 hσ=>?_)
  have p0:=hσ 0
  have p1:=hσ 1
  have p3:=hσ 3
  have p4:=hσ 4
  have p6:=hσ 6
  simp +decide only [bE,Nat.reduceBeqDiff,BEq.rfl,Nat.reduceAdd,Nat.zero_add,g0,g1,g3,g4] at p0 p1 p3 p4 p6
  clear hσ hK K
  have hcw2:w2.cell? ⟨b3,0,none⟩=some v:=by rw[m02.cell _ _ (by omega) (fun h=>by have:b3=rI:=h; omega)]; exact hc
  have hbs:=zrh (w:=w2) (v:=e.key) (cs:=[e.key]) hL.lu B.uint32 (zds (hkey e hem')) rfl (by decide) (by decide)
  have e9:∀ ρ:Env,(#[(0,T 1)]:Array (Nat × Operand)).map (fun p=>(p.1,ev ρ p.2))=#[(0,ρ 1)]:=fun ρ=>by simp
  refine zi fun τ=>?_
  simp +decide only [bK,bE,Nat.reduceBeqDiff,BEq.rfl,Nat.reduceAdd,p3,p6,hL.lu.run_load1 rfl,hcw2,e9,hbs]
  obtain⟨w7,hw7⟩:∃ w7,w7=w2.alloc (.cells [e.key].toArray N.zc):=⟨_,rfl⟩
  have m7:Mod w2 w7 zy:=by rw[hw7]; exact Mod.alloc _ _ _
  have s7:w7.heap.size=w2.heap.size+1:=by rw[hw7]; exact zav _ _
  have r7:w7.rangeAt w2.heap.size 0 [e.key]:=by rw[hw7]; exact zr w2 _ _ _
  rw[← hw7]
  clear hw7 hbs
  have m07:Mod w w7 (blk rI):=m02.trans' (m7.mono fun _ _ _ h=>h.elim)
  have ho7:Own w7 lo 1 v picked.length (picked.map MapEntry.key):=ho.stay m07 fun k o hk e=>hk (by have e:k=rI:=e; rw[e]; exact nbI)
  have ndE:((picked++[e]).map MapEntry.born).Nodup:=by
   rw[List.map_append,List.nodup_append]
   refine⟨nd,by simp,fun a ha b hb=>?_⟩
   simp at hb
   subst hb
   intro hab
   subst hab
   rw[← hseen] at ha
   have:seen.contains e.born=true:=by simpa using ha
   rw[this] at hns; cases hns
  have hple:picked.length < es.length:=by
   have:=nodup_le ((picked++[e]).map MapEntry.born) (es.map MapEntry.born) ndE fun x hx=>by
    obtain⟨y,hy,rfl⟩:=List.mem_map.1 hx
    refine List.mem_map.2 ⟨y,?_,rfl⟩
    rcases List.mem_append.1 hy with hy | hy
    ·exact mem y hy
    ·simp at hy; subst hy; exact hem'
   simp at this
   omega
  obtain⟨v',w8,happ,ho8,m8,hone',hnb⟩:=ztu (P:=P) (ty:=N.zbo) (m:=1) (cb:=1) hL.lu B.uint32 ho7 r7 rfl (fun c hc=>by simp at hc; subst hc; exact hkey e hem') (by omega) rfl (fun c hc=>by
   obtain⟨x,hx,rfl⟩:=List.mem_map.1 hc; exact hkey x (mem x hx)) (by omega) (by decide) (by decide)
  have s8:=m8.size
  have t8:w8.there b3 0 1:=m8.there (by omega) (m07.there (by omega) ht)
  have hsto:=hL.lu.run_store1 (w:=w8) (b:=b3) (o:=0) (v:=v') hone' t8
  simp +decide only [bK,happ,hsto]
  clear happ
  obtain⟨w9,hw9⟩:∃ w9,w9=w8.setCell ⟨b3,0,none⟩ v':=⟨_,rfl⟩
  have m9:Mod w8 w9 (blk b3):=by rw[hw9]; exact Mod.setCell fun _=>rfl
  have s9:w9.heap.size=w8.heap.size:=by rw[hw9]; simp [World.setCell]
  have c8:w8.cell? ⟨b3,0,none⟩=some v:=by
   rw[m8.cell _ _ (by omega) (fun h=>h nb3),m7.cell _ _ (by omega) (fun h=>h)]; exact hcw2
  have c9:w9.cell? ⟨b3,0,none⟩=some v':=by rw[hw9]; exact World.cell?_setCell_same _ _ _ c8
  rw[← hw9]
  clear hw9 hsto
  have hb3':zcl v' b3:=hnb b3 (by omega) nb3
  have hI':zcl v' rI:=hnb rI (by omega) nbI
  have nbm:zcl v mr:=Classical.byContradiction fun h=>by have:=(ho.blk h).1; omega
  have m09:Mod w w9 (fun k _=>k=rI∨¬ zcl v k∨k=b3):=((m07.mono fun _ _ _ h=>.inl h).trans' (m8.mono fun _ _ _ h=>.inr (.inl h))).trans' (m9.mono fun _ _ _ h=>.inr (.inr h))
  refine zb (K:=fun σ' w'=>inB 1 Q .normal σ' w') fun σ9 hσ=>hstep _ _ e hple ?_
  have q0:=hσ 0
  have q1:=hσ 1
  have q3:=hσ 3
  have q4:=hσ 4
  simp +decide only [bE,Nat.reduceBeqDiff,Nat.reduceAdd,Nat.zero_add,p0,p1,p3,p4] at q0 q1 q3 q4
  refine⟨q0,q1,q3,q4,mod.trans m09 fun k o hk h=>?_,?_,⟨seen.push e.born,?_,by simp [hseen]⟩,fun x hx=>?_,?_,⟨v',c9,m9.there (by omega) t8,?_,hb3',hI'⟩,by omega,by omega,l3,l4,l5,l6,by omega,l8⟩
  ·rcases h with h | h | h | h
   ·exact h
   ·omega
   ·have:=(ho.blk h).1; omega
   ·omega
  ·rw[m09.block mr (by omega) (fun o h=>by
    rcases h with h | h | h
    ·omega
    ·exact h nbm
    ·omega)]
   exact map
  ·rw[m9.block rI (by omega) (fun o h=>by have:rI=b3:=h; omega),m8.block rI (by omega) (fun o h=>h nbI),m7.block rI (by omega) (fun o h=>h)]; exact it2
  ·rcases List.mem_append.1 hx with hx | hx
   ·exact mem x hx
   ·simp at hx; subst hx; exact hem'
  ·exact ndE
  ·have:=ho8.stay m9 (fun k o h e=>h (by have e:k=b3:=e; rw[e]; exact hb3'))
   simpa using this
end
end Go.Kf
