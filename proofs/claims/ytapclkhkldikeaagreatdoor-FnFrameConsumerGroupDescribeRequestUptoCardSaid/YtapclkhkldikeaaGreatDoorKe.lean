/- A part of the calculus by which the claim's proof goes: over any program and any numbering of its functions; no condition beyond those that each theorem names. -/
import Derived.ChangeArms
import Derived.Test.YtapclkhkldikeaaGreatDoorKd
set_option linter.unusedSimpArgs false
set_option linter.unusedVariables false
namespace Go.Kf
open Go Go.RowKit
theorem zki {flex:Bool} {v:Int} {f:Fld} {t:Tr} (h:f.kind=11):zeo flex v f t=zae flex (f.nullB v t) (if f.nullB v t then [] else zef t.l).length 4++(if f.nullB v t then [] else zef t.l).flatMap (valB flex f.of (zci flex v f.sub) false):=by
 cases f with
 | mk k a b c d e o sub=>
  have h:k=11:=h
  subst h
  rw[zeo,if_pos rfl]
  rfl
theorem zrr {flex:Bool} {v:Int} {f:Fld} {t:Tr} (h:f.kind≠11) (h2:¬ (f.kind=10∧0≤f.null)):zeo flex v f t=valB flex f.kind (zci flex v f.sub) (f.nullB v t) t:=by
 cases f with
 | mk k a b c d e o sub=>
  have h:k≠11:=h
  have h2:¬ (k=10∧0≤c):=h2
  rw[zeo,if_neg h,if_neg h2]
  rfl
theorem zlv {flex:Bool} {v:Int} {f:Fld} {t:Tr} (h:f.kind=10∧0≤f.null):zeo flex v f t=if f.nullB v t then fixB (-1) 1 else fixB 1 1++zci flex v f.sub t:=by
 cases f with
 | mk k a b c d e o sub=>
  have h:k=10∧0≤c:=h
  rw[zeo,if_neg (by omega),if_pos h]
  rfl
theorem zsh (flex null:Bool) (n size:Nat) (hn:n≤32767) (hs:size≤8):(zae flex null n size).length≤10:=by
 unfold zae
 split
 ·simp
 ·split
  ·exact zkb (by omega)
  ·split<;>(rw[zaw]; omega)
section
variable {P:Program} {N:Nums} {M:zdd}
theorem sp_field (B:Base P N) (S:SpT P N M) (hW:SW P N M) {w:World} {v:Int} {flex:Bool} {f:Fld} {t:Tr} {cf ct:List Value} (hp:f.kind=11→f.of=10→zsn P M flex v f.sub) (hk:f.kind=10→zsn P M flex v f.sub) (hf:RepF w f cf) (ht:RepA w t ct) (hwf:wfT t) (hl:(zeo flex v f t).length < 549755813888) :
  Call P M.zjh #[.agg cf.toArray,.int .i64 v,.bool flex,.agg ct.toArray] w (Gave w (zeo flex v f t)):=by
 refine hW.field.call rfl fun loc N' hlo=>?_
 unfold zsj
 obtain⟨fv,rfl,hfv⟩:=hf.out
 obtain⟨vs,vl,vu,rfl,h1,h2,h3⟩:=ht.out
 refine zd fun K hK=>zi fun τ=>?_
 simp +decide only [bK,bE,Nat.reduceBeqDiff,Nat.reduceAdd,Nat.zero_add]
 obtain⟨w1,hw1⟩:∃ w1,w1=w.alloc (.cells (Value.cells (.agg [.int .i64 f.kind,.int .i64 f.frm,.int .i64 f.to,.int .i64 f.null,.int .i64 f.tag,.int .i64 f.dflt,.int .i64 f.of,fv].toArray)) M.zn):=⟨_,rfl⟩
 have m1:Mod w w1 zy:=by rw[hw1]; exact Mod.alloc _ _ _
 have r1:w1.rangeAt w.heap.size 0 [.int .i64 f.kind,.int .i64 f.frm,.int .i64 f.to,.int .i64 f.null,.int .i64 f.tag,.int .i64 f.dflt,.int .i64 f.of,fv]:=by rw[hw1]; exact zr w _ _ _
 rw[← hw1]
 clear hw1
 obtain⟨w2,hw2⟩:∃ w2,w2=w1.alloc (.cells (Value.cells (.agg [.int .i64 t.n,vs,.bool t.nl,vl,vu].toArray)) N.zf):=⟨_,rfl⟩
 have m2:Mod w1 w2 zy:=by rw[hw2]; exact Mod.alloc _ _ _
 have r2:w2.rangeAt w1.heap.size 0 [.int .i64 t.n,vs,.bool t.nl,vl,vu]:=by rw[hw2]; exact zr w1 _ _ _
 rw[← hw2]
 clear hw2
 have m02:=m1.trans' m2
 have r1':=zad m2 r1
 clear r1
 refine hK _ _ (zb fun σ hσ=>?_)
 have f1:=hσ 1
 have f2:=hσ 2
 have f4:=hσ 4
 have f5:=hσ 5
 simp +decide only [bE,Nat.reduceBeqDiff,BEq.rfl,Nat.reduceAdd,zoc,zmb] at f1 f2 f4 f5
 clear hσ hK K
 have hF2:=RepF.stay m02 _ hf
 have hT2:=RepA.stay m02 _ ht
 obtain⟨bF,hbF⟩:∃ b,b=w.heap.size:=⟨_,rfl⟩
 obtain⟨bT,hbT⟩:∃ b,b=w1.heap.size:=⟨_,rfl⟩
 rw[← hbF] at r1' f4
 rw[← hbT] at r2 f5
 obtain⟨fs,hfd⟩:=S.fld.out
 have hfl:∀ {w':World},Mod w2 w' zy→(Instr.loadAt M.zn (.pointer (some ⟨bF,0,none⟩))).run P w'=.ok (.agg [.int .i64 f.kind,.int .i64 f.frm,.int .i64 f.to,.int .i64 f.null,.int .i64 f.tag,.int .i64 f.dflt,.int .i64 f.of,fv].toArray) w':=by
  intro w' hm
  have:=hfd.1.run_load (w:=w') (b:=bF) (o:=0) (zad hm r1') rfl (fun h=>by cases h)
  rw[this]; rfl
 have hlz:(zef t.l).length≤32767:=by simp [zef,most]; omega
 refine zd fun K hK=>zi fun τ=>?_
 simp +decide only [bK,bE,Nat.reduceBeqDiff,Nat.reduceAdd,f1,f4,f5,hfl (.refl _ _),zga S.tr r2 rfl]
 rw[zit hW.Field_null.has]
 simp +decide only [bK,bE,Nat.reduceBeqDiff,BEq.rfl]
 refine(call_null B S hW.Field_null hF2 hT2 v).mono ?_
 rintro _ w3 ⟨rfl,m3⟩
 refine hK _ _ (zb fun σ1 hσ=>?_)
 have a1:=hσ 1
 have a2:=hσ 2
 have a4:=hσ 4
 have a5:=hσ 5
 have a7:=hσ 7
 simp +decide only [bE,Nat.reduceBeqDiff,BEq.rfl,Nat.reduceAdd,f1,f2,f4,f5] at a1 a2 a4 a5 a7
 clear hσ hK K f1 f2 f4 f5
 have r3:=zad m3 r1'
 have q3:=zad m3 r2
 have m03:=m02.trans' m3
 have k0:=r3 0 _ rfl
 refine zd fun K hK=>zd fun K1 hK1=>zi fun τ=>?_
 simp +decide only [bK,bE,BEq.rfl,Nat.reduceAdd,Nat.add_zero,a4,S.f0.run,B.int.run_load1 rfl,k0]
 refine hK1 _ _ (zb fun σ2 hσ=>?_)
 have b1:=hσ 1
 have b2:=hσ 2
 have b4:=hσ 4
 have b5:=hσ 5
 have b7:=hσ 7
 have b8:=hσ 8
 simp +decide only [bE,Nat.reduceBeqDiff,BEq.rfl,Nat.reduceAdd,a1,a2,a4,a5,a7] at b1 b2 b4 b5 b7 b8
 clear hσ hK1 K1 a1 a2 a4 a5 a7
 refine W_if hlo b8 ?_
 by_cases e11:f.kind=11
 ·rw[if_pos (by simpa using e11)]
  have hfB:=zki (flex:=flex) (v:=v) (t:=t) e11
  obtain⟨l,hl'⟩:∃ l,l=(if f.nullB v t then [] else zef t.l):=⟨_,rfl⟩
  rw[← hl'] at hfB
  have hll:l.length≤32767:=by
   rw[hl']
   cases f.nullB v t
   ·simpa using hlz
   ·simp
  have hwl:∀ x∈l,wfT x:=by
   rw[hl']
   cases f.nullB v t
   ·intro x hx; exact hwf.l x (List.mem_of_mem_take (by simpa [zef] using hx))
   ·intro x hx; cases hx
  refine zd fun K2 hK2=>zi fun τ=>?_
  simp +decide only [bK,bE,BEq.rfl,Nat.reduceAdd,Nat.zero_add,b5,S.tr.h3.run,S.tr.lt.run_load1 rfl,q3 3 _ rfl]
  rw[zan hW.things.has]
  simp +decide only [bK,bE,BEq.rfl]
  refine(zach S hW.things (h2.stay m03)).mono ?_
  rintro x w3' ⟨hww,hx⟩
  obtain rfl:=hww
  refine hK2 _ _ (zb fun σ3 hσ=>?_)
  have c1:=hσ 1
  have c2:=hσ 2
  have c4:=hσ 4
  have c5:=hσ 5
  have c7:=hσ 7
  have c9:=hσ 9
  simp +decide only [bE,Nat.reduceBeqDiff,BEq.rfl,Nat.reduceAdd,b1,b2,b4,b5,b7] at c1 c2 c4 c5 c7 c9
  clear hσ hK2 K2 b1 b2 b4 b5 b7 b8
  have tail:∀ {σ4:Env} {y:Value},σ4 1=.int .i64 v→σ4 2=.bool flex→σ4 4=.pointer (some ⟨bF,0,none⟩)→σ4 7=.bool (f.nullB v t)→σ4 9=y→zij w3 y l→∀ {Q:Exit→Env→World→Prop},(∀ (σ':Env) (w':World) (r:Value),σ' 6=r→Gave w (zeo flex v f t) r w'→Q .ret σ' w')→
    W P loc N' (.seq (.ops [⟨some 0,.move (V 2),0,none,[]⟩,⟨some 1,.move (V 7),0,none,[]⟩,⟨some 2,.move (V 9),0,none,[]⟩,⟨some 3,.call ⟨.builtin .len,#[T 2],#[N.zak]⟩,N.ze,none,[]⟩,⟨some 4,.call ⟨.value (.func M.zec),#[T 0,T 1,T 3,.const (.int .i64 4)],#[N.zay,N.zay,N.ze,N.ze]⟩,N.za,none,[]⟩,⟨some 111,.assign (T 4),0,none,[]⟩])
     (.seq (.seq (.ops [⟨some 0,.move (V 9),0,none,[]⟩,⟨some 112,.call ⟨.builtin .len,#[T 0],#[N.zak]⟩,N.ze,none,[]⟩,⟨some 113,.move (.const (.int .i64 0)),0,none,[]⟩]) (zqs N 13 12 14 0 (bodyF N M)))
     (.seq (.ops [⟨some 0,.move (V 11),0,none,[]⟩,⟨some 106,.assign (T 0),0,none,[]⟩]) .ret))) Q σ4 w3:=by
   rintro σ4 y d1 d2 d4 d7 d9 hy Q hQ
   refine zd fun K2 hK2=>zi fun τ=>?_
   simp +decide only [bK,bE,Nat.reduceBeqDiff,BEq.rfl,Nat.reduceAdd,d2,d7,d9,hy.run_len S]
   rw[zgq hW.counted.has]
   simp +decide only [bK,bE,Nat.reduceBeqDiff,BEq.rfl]
   refine(zwc B hW.Uvarint hW.Fixed hW.counted w3 flex (f.nullB v t) l.length 4 hll (by omega)).mono ?_
   rintro r w4 ⟨ho4,m4⟩
   refine hK2 _ _ (zb fun σ5 hσ=>?_)
   have e1:=hσ 1
   have e2:=hσ 2
   have e4:=hσ 4
   have e9:=hσ 9
   have e11:=hσ 11
   simp +decide only [bE,Nat.reduceBeqDiff,BEq.rfl,Nat.reduceAdd,d1,d2,d4,d9] at e1 e2 e4 e9 e11
   clear hσ hK2 K2 d1 d2 d4 d7 d9
   refine zd fun K2 hK2=>zd fun K3 hK3=>zi fun τ=>?_
   simp +decide only [bK,bE,BEq.rfl,Nat.reduceAdd,e9,hy.run_len S]
   refine hK3 _ _ (zb fun σ6 hσ=>?_)
   have g1:=hσ 1
   have g2:=hσ 2
   have g4:=hσ 4
   have g9:=hσ 9
   have g11:=hσ 11
   have g12:=hσ 12
   have g13:=hσ 13
   simp +decide only [bE,Nat.reduceBeqDiff,BEq.rfl,Nat.reduceAdd,e1,e2,e4,e9,e11] at g1 g2 g4 g9 g11 g12 g13
   clear hσ hK3 K3 e1 e2 e4 e9 e11
   have hbl:=zsh flex (f.nullB v t) l.length 4 hll (by omega)
   refine zko (i:=13) (l:=12) (c:=14) (k:=0) hlo (L:=l.length) (by omega) (fun j σ w'=>LSt w3 σ w' v flex bF l.length j y (zae flex (f.nullB v t) l.length 4++(l.take j).flatMap (valB flex f.of (zci flex v f.sub) false))) (fun j σ w h=>⟨h.h13,h.h12,h.le⟩) (fun j σ w b h=>?_) ⟨g1,g2,g4,g9,by rw[g11]; simpa using ho4,g12,g13,Nat.zero_le _,m4⟩ (fun σ' w' h=>hK2 _ _ ?_) (fun j σ' w' hj h=>?_)
   ·obtain⟨x1,x2,x4,x9,x11,x12,x13,xl,xm⟩:=h
    exact⟨by rw[zg (by decide)]; exact x1,by rw[zg (by decide)]; exact x2,by rw[zg (by decide)]; exact x4,by rw[zg (by decide)]; exact x9,by rw[zg (by decide)]; exact x11,by rw[zg (by decide)]; exact x12,by rw[zg (by decide)]; exact x13,xl,xm⟩
   ·have h11:=h.h11
    rw[List.take_length,← hfB] at h11
    refine zd fun K3 hK3=>zi fun τ=>?_
    simp +decide only [bK,bE,BEq.rfl,Nat.reduceAdd]
    refine hK3 _ _ (zb fun σ7 hσ=>zbb (hQ σ7 _ _ rfl ?_))
    have q:=hσ 6
    simp +decide only [bE,BEq.rfl,Nat.reduceAdd] at q
    rw[q]
    exact⟨h11.mono_lo m03.size,m03.trans' h.mod⟩
   ·have hm:=zvn (valB flex f.of (zci flex v f.sub) false) hj
    have htot:(zae flex (f.nullB v t) l.length 4).length+(l.flatMap (valB flex f.of (zci flex v f.sub) false)).length < 549755813888:=by
     rw[hfB,List.length_append] at hl; exact hl
    refine W_bodyF B S hW hlo (f:=f) h r3 (hfv.stay m03) hy (hp e11) hj hwl (by rw[List.length_append]; omega) fun σ8 w8 h8=>?_
    refine⟨h8.h13,?_⟩
    obtain⟨x1,x2,x4,x9,x11,x12,x13,xl,xm⟩:=h8
    refine⟨by rw[zg (by decide)]; exact x1,by rw[zg (by decide)]; exact x2,by rw[zg (by decide)]; exact x4,by rw[zg (by decide)]; exact x9,?_,by rw[zg (by decide)]; exact x12,upd_same _ _ _,by omega,xm⟩
    rw[zg (by decide),ziv _ hj,← List.append_assoc]; exact x11
  have fin:∀ (σ':Env) (w':World) (r:Value),σ' 6=r→Gave w (zeo flex v f t) r w'→zfd K (retQ P [.var 6] (Gave w (zeo flex v f t))) .ret σ' w':=fun σ' w' r h g=>⟨.inr rfl,_,rfl,by rw[h]; exact g⟩
  refine zd fun K2 hK2=>zd fun K3 hK3=>zi fun τ=>?_
  simp +decide only [bK,bE,Nat.reduceAdd,c7]
  refine hK3 _ _ (zb fun σ4 hσ=>?_)
  have d1:=hσ 1
  have d2:=hσ 2
  have d4:=hσ 4
  have d7:=hσ 7
  have d9:=hσ 9
  have d10:=hσ 10
  simp +decide only [bE,Nat.reduceBeqDiff,BEq.rfl,Nat.reduceAdd,c1,c2,c4,c7,c9] at d1 d2 d4 d7 d9 d10
  clear hσ hK3 K3 c1 c2 c4 c5 c7 c9
  refine W_if hlo d10 ?_
  cases hn:f.nullB v t with
  | true=>
   simp only [if_true]
   refine zao (hK2 _ _ ?_)
   exact tail (y:=.slice none 0 0) (by rw[zg (by decide)]; exact d1) (by rw[zg (by decide)]; exact d2) (by rw[zg (by decide)]; exact d4) (by rw[zg (by decide)]; exact d7) (upd_same _ _ _) (.inl ⟨none,0,rfl,by rw[hl',hn]; rfl⟩) fin
  | false=>
   simp only [Bool.false_eq_true,if_false]
   refine zbd (hK2 _ _ ?_)
   exact tail d1 d2 d4 d7 d9 (by rw[hl',hn]; exact hx) fin
 ·rw[if_neg (by simpa using e11)]
  refine zbd (hK _ _ ?_)
  clear hK K
  have eargs:∀ ρ:Env,(#[T 1,T 3,T 4,T 5,T 6,T 7]:Array Operand).map (ev ρ)=#[ρ 1,ρ 3,ρ 4,ρ 5,ρ 6,ρ 7]:=fun ρ=>by simp
  refine zd fun K hK=>zd fun K1 hK1=>zi fun τ=>?_
  have tail:¬ (f.kind=10∧0≤f.null)→∀ σ3:Env,σ3 1=.int .i64 v→σ3 2=.bool flex→σ3 4=.pointer (some ⟨bF,0,none⟩)→σ3 5=.pointer (some ⟨bT,0,none⟩)→σ3 7=.bool (f.nullB v t)→K σ3 w3:=by
   intro hno σ3 c1 c2 c4 c5 c7
   have hfB:=zrr (flex:=flex) (v:=v) (t:=t) e11 hno
   rw[hfB] at hl
   refine hK _ _ ?_
   clear hK K1 hK1 K
   refine zd fun K hK=>zi fun τ=>?_
   simp +decide only [bK,bE,Nat.reduceBeqDiff,BEq.rfl,Nat.reduceAdd,Nat.add_zero,Nat.zero_add,c1,c2,c4,c5,c7,S.f0.run,S.f7.run,B.int.run_load1 rfl,S.lf.run_load1 rfl,k0,r3 7 _ rfl,zga S.tr q3 rfl]
   rw[zvz hW.value.has]
   rw[eargs]
   simp +decide only [bE,Nat.reduceBeqDiff,BEq.rfl]
   refine(sp_value B S hW (sub:=f.sub) (null:=f.nullB v t) hk (hfv.stay m03) (RepA.stay m03 _ ht) hwf hl).mono ?_
   rintro r w4 ⟨ho4,m4⟩
   refine hK _ _ (zb fun σ4 hσ=>zbb ⟨.inr rfl,_,rfl,?_⟩)
   have q:=hσ 6
   simp +decide only [bE,BEq.rfl,Nat.reduceAdd] at q
   rw[q,hfB]
   exact⟨ho4.mono_lo m03.size,m03.trans' m4⟩
  simp +decide only [bK,bE,BEq.rfl,Nat.reduceAdd,Nat.add_zero,b4,S.f0.run,B.int.run_load1 rfl,k0]
  by_cases e10:f.kind=10
  ·have hk':(f.kind == 10)=true:=by simpa using e10
   have k3:=r3 3 _ rfl
   simp +decide only [bK,bE,Nat.reduceBeqDiff,BEq.rfl,Nat.reduceAdd,Nat.zero_add,if_true,hk',zap,zca,b4,S.f3.run,B.int.run_load1 rfl,k3]
   refine hK1 _ _ (zb fun σ3 hσ=>?_)
   have c1:=hσ 1
   have c2:=hσ 2
   have c4:=hσ 4
   have c5:=hσ 5
   have c7:=hσ 7
   have c16:=hσ 16
   simp +decide only [bE,Nat.reduceBeqDiff,BEq.rfl,Nat.reduceAdd,b1,b2,b4,b5,b7] at c1 c2 c4 c5 c7 c16
   clear hσ hK1 K1 b1 b2 b4 b5 b7 b8
   refine W_if hlo c16 ?_
   by_cases hn:0≤f.null
   ·have hfB:=zlv (flex:=flex) (v:=v) (t:=t) ⟨e10,hn⟩
    rw[if_pos (by simpa using hn)]
    clear tail
    refine zd fun K2 hK2=>zd fun K3 hK3=>zi fun τ=>?_
    simp +decide only [bK,bE,Nat.reduceAdd,c7]
    refine hK3 _ _ (zb fun σ4 hσ=>?_)
    have d1:=hσ 1
    have d2:=hσ 2
    have d4:=hσ 4
    have d5:=hσ 5
    have d17:=hσ 17
    simp +decide only [bE,Nat.reduceBeqDiff,BEq.rfl,Nat.reduceAdd,c1,c2,c4,c5] at d1 d2 d4 d5 d17
    clear hσ hK3 K3 c1 c2 c4 c5 c7 c16
    refine W_if hlo d17 ?_
    cases hnb:f.nullB v t with
    | true=>
     rw[if_pos rfl]
     rw[hnb,if_pos rfl] at hfB
     refine zd fun K3 hK3=>zi fun τ=>?_
     simp +decide only [bK,Nat.reduceAdd]
     rw[zah hW.Fixed.has]
     simp +decide only [bK,bE,BEq.rfl]
     refine(zht B hW.Fixed w3 (-1) 1 (by omega)).mono ?_
     rintro r w4 ⟨ho4,m4⟩
     refine hK3 _ _ (zb fun σ5 hσ=>zbb ⟨.inr rfl,_,rfl,?_⟩)
     have q:=hσ 6
     simp +decide only [bE,BEq.rfl,Nat.reduceAdd] at q
     rw[q,hfB]
     exact⟨ho4.mono_lo m03.size,m03.trans' m4⟩
    | false=>
     rw[if_neg (by decide)]
     rw[hnb,if_neg (by decide)] at hfB
     rw[hfB,List.length_append] at hl
     refine zbd (hK2 _ _ ?_)
     clear hK2 K2
     have md:Mod w3 w3.drew zy:=Mod.drew _ _
     refine zd fun K2 hK2=>zve B.mixed [false,true,true,true,true,true,false,false,false] (by kernel_rfl) (fun w'=>Mod w3 w' zy) md fun τ=>?_
     refine zar (.pointer (some ⟨bF,7,none⟩)) (fun w' _=>zdv (by
      simp +decide only [bE,Nat.reduceAdd,Nat.zero_add,ev_tmp,d4,S.f7.run])) rfl ?_
     refine zar fv (fun w' hw=>zdv (by
      simp +decide only [bE,BEq.rfl,ev_tmp,S.lf.run_load1 rfl,zad hw r3 7 _ rfl,ldc_some])) rfl ?_
     refine zar (.int .i64 v) (fun w' _=>by
      rw[zdb,ev_tmp]
      simp +decide only [bE,Nat.reduceBeqDiff,Nat.reduceAdd,d1]) rfl ?_
     refine zar (.bool flex) (fun w' _=>by
      rw[zdb,ev_tmp]
      simp +decide only [bE,Nat.reduceBeqDiff,Nat.reduceAdd,d2]) rfl ?_
     refine zar (.agg [.int .i64 t.n,vs,.bool t.nl,vl,vu].toArray) (fun w' hw=>zdv (by
      simp +decide only [bE,Nat.reduceBeqDiff,Nat.reduceAdd,ev_tmp,d5]
      exact zga S.tr (zad hw q3) rfl)) rfl ?_
     simp only [zfv,zgv,List.zip_cons_cons,List.zip_nil_right,List.zipWith_cons_cons,List.zipWith_nil_right,List.filter,Bool.not_true,Bool.not_false,List.map,zid]
     rw[zah hW.Fixed.has]
     simp +decide only [bK,bE,BEq.rfl,Nat.reduceAdd]
     refine(zht B hW.Fixed w3.drew 1 1 (by omega)).mono ?_
     rintro r4 w4 ⟨ho4,m4⟩
     have m34:Mod w3 w4 zy:=md.trans' m4
     refine⟨m34,?_⟩
     rw[zgq hW.part.has]
     simp +decide only [bK,bE,Nat.reduceBeqDiff,BEq.rfl]
     have m04:=m03.trans' m34
     refine(hk e10 w4 fv t _ (hfv.stay m04) (RepA.stay m04 _ ht) hwf (by omega)).mono ?_
     rintro r5 w5 ⟨ho5,m5⟩
     refine⟨m34.trans' m5,?_⟩
     have hsz:=md.size
     obtain⟨v6,w6,hap,ho6,m6,_⟩:=zdq (ty:=N.za) B (ho4.stay m5 fun _ _ _ h=>h) (ho5.octA) (Nat.le_trans m4.size m5.size) (by rw[zaw]; omega)
     have m36:Mod w3.drew w6 zy:=Mod.ofOwn (ho4.stay m5 fun _ _ _ h=>h) (m4.trans' m5) m6
     simp +decide only [bK,hap]
     refine⟨md.trans' m36,?_⟩
     refine hK2 _ _ (zb fun σ5 hσ=>zbb ⟨.inr rfl,_,rfl,?_⟩)
     have q:=hσ 6
     simp +decide only [bE,BEq.rfl,Nat.reduceAdd] at q
     rw[q,hfB]
     exact⟨ho6.mono_lo (Nat.le_trans m03.size hsz),m03.trans' (md.trans' m36)⟩
   ·rw[if_neg (by simpa using hn)]
    exact zbd (tail (fun h=>hn h.2) σ3 c1 c2 c4 c5 c7)
  ·have hk':(f.kind == 10)=false:=by simpa using e10
   simp +decide only [bK,bE,Nat.reduceBeqDiff,BEq.rfl,if_false,hk',zbi,Bool.not_true,zca]
   refine hK1 _ _ (zb fun σ3 hσ=>?_)
   have c1:=hσ 1
   have c2:=hσ 2
   have c4:=hσ 4
   have c5:=hσ 5
   have c7:=hσ 7
   have c16:=hσ 16
   simp +decide only [bE,Nat.reduceBeqDiff,BEq.rfl,Nat.reduceAdd,b1,b2,b4,b5,b7] at c1 c2 c4 c5 c7 c16
   clear hσ hK1 K1 b1 b2 b4 b5 b7 b8
   refine W_if hlo c16 ?_
   simp only [Bool.false_eq_true,if_false]
   exact zbd (tail (fun h=>e10 h.1) σ3 c1 c2 c4 c5 c7)
end
section
variable {P:Program} {N:Nums} {M:zdd}
theorem fld_box (S:SpT P N M) {w:World} {fv:Value} {fs:List Fld} (hf:zik w fv fs) {j:Nat} (hj:j < fs.length) :
  ∃ b o c cs w1 w2,fv=.slice (some ⟨b,o,none⟩) fs.length c∧RepF w fs[j] cs∧(∀ w',(Instr.indexAt M.zaz fv (.int .i64 j)).run P w'=.ok (.pointer (some ⟨b,o+j * 8,none⟩)) w') ∧
   (Instr.loadAt M.zn (.pointer (some ⟨b,o+j * 8,none⟩))).run P w=.ok (.agg cs.toArray) w∧(∀ old:Value,(Instr.alloc M.zn true old).run P w=.ok (.pointer (some ⟨w.heap.size,0,none⟩)) w1) ∧
   (Instr.storeAt M.zn (.pointer (some ⟨w.heap.size,0,none⟩)) (.agg cs.toArray)).run P w1=.ok () w2∧Mod w w2 zy∧w2.heap.size=w.heap.size+1∧w2.rangeAt w.heap.size 0 cs:=by
 obtain⟨b,o,c,cs,hv,hr,hg⟩:=hf.get (List.getElem?_eq_getElem hj)
 obtain⟨fs',hti⟩:=S.fld.out
 have hld:=hti.1.run_load (w:=w) (b:=b) (o:=o+j * 8) hg hr.len (fun h=>by cases h)
 have hlv:ldv (.struct fs') cs=.agg cs.toArray:=rfl
 rw[hlv] at hld
 obtain⟨w1,w2,hal,hst,_,m02,s2,r2,_⟩:=zuy (cs:=cs) hti.1 (by decide) rfl hr.len hr.ones w
 exact⟨b,o,c,cs,w1,w2,hv,hr,fun w'=>by rw[hv]; exact zcb S.lf hti.1 hj,hld,hal,hst,m02,s2,r2⟩
theorem fld_load (S:SpT P N M) {w:World} {b:Nat} {cs:List Value} (h:w.rangeAt b 0 cs) (hl:cs.length=8):(Instr.loadAt M.zn (.pointer (some ⟨b,0,none⟩))).run P w=.ok (.agg cs.toArray) w:=by
 obtain⟨fs',hti⟩:=S.fld.out
 have hld:=hti.1.run_load (w:=w) (b:=b) (o:=0) h hl (fun h=>by cases h)
 rw[hld]; rfl
theorem sp_known (B:Base P N) (S:SpT P N M) (hF:FOk P M.zjg 1 (znu N M) [.var 1]) {w:World} {fv:Value} {fs:List Fld} (hf:zik w fv fs) (hl:fs.length < 4611686018427387904) (ht:∀ f∈fs,f.tag < 0) :
  Call P M.zjg #[fv] w fun r w'=>r=.int .u32 0∧Mod w w' zy:=by
 refine hF.call rfl fun loc N' hlo=>?_
 unfold znu
 refine zd fun K hK=>zao (hK _ _ ?_)
 clear hK K
 refine zd fun K hK=>zao (hK _ _ ?_)
 clear hK K
 obtain⟨σ,hσ⟩:∃ σ,σ=upd (upd (zdf #[fv]) 1 (.int .u32 0)) 2 (.int .u32 0):=⟨_,rfl⟩
 have f0:σ 0=fv:=by rw[hσ,zg (by decide),zg (by decide)]; rfl
 have f2:σ 2=.int .u32 0:=by rw[hσ,upd_same]
 rw[← hσ]
 clear hσ
 refine zd fun K hK=>zd fun K1 hK1=>zi fun τ=>?_
 simp +decide only [bK,bE,BEq.rfl,Nat.reduceAdd,Nat.zero_add,f0,hf.run_len S]
 refine hK1 _ _ (zb fun σ2 hσ=>?_)
 have p2:=hσ 2
 have p3:=hσ 3
 have p4:=hσ 4
 have p5:=hσ 5
 simp +decide only [bE,Nat.reduceBeqDiff,BEq.rfl,Nat.reduceAdd,f2] at p2 p3 p4 p5
 clear hσ hK1 K1 f0 f2
 refine zko (i:=5) (l:=4) (c:=6) (k:=0) hlo (L:=fs.length) hl (fun j σ w'=>σ 2=.int .u32 0∧σ 3=fv∧σ 4=.int .i64 fs.length∧σ 5=.int .i64 j∧j≤fs.length∧Mod w w' zy) (fun j σ w h=>⟨h.2.2.2.1,h.2.2.1,h.2.2.2.2.1⟩) (fun j σ w b h=>?_) ⟨p2,p3,p4,p5,Nat.zero_le _,.refl _ _⟩ (fun σ' w' h=>hK _ _ ?_) (fun j σ' w' hj h=>?_)
 ·obtain⟨z,a,b,c,d,e⟩:=h
  exact⟨by rw[zg (by decide)]; exact z,by rw[zg (by decide)]; exact a,by rw[zg (by decide)]; exact b,by rw[zg (by decide)]; exact c,d,e⟩
 ·refine zd fun K3 hK3=>zi fun τ=>?_
  simp +decide only [bK,bE,BEq.rfl,Nat.reduceAdd,h.1]
  refine hK3 _ _ (zb fun σ7 hσ=>zbb ⟨.inr rfl,_,rfl,?_⟩)
  have q:=hσ 1
  simp +decide only [bE,BEq.rfl,Nat.reduceAdd] at q
  exact⟨q,h.2.2.2.2.2⟩
 ·obtain⟨z,a,b,c,d,e⟩:=h
  obtain⟨bb,oo,cc,cs,w1,w2,hv,hr,hix,hld,hal,hst,m02,s2,r2⟩:=fld_box S (hf.stay e) hj
  obtain⟨gv,rfl,hgv⟩:=hr.out
  refine zd fun K4 hK4=>zi fun τ=>?_
  simp +decide only [bK,bE,Nat.reduceBeqDiff,BEq.rfl,Nat.reduceAdd,Nat.zero_add,a,c,hix,hld,hal,hst]
  refine hK4 _ _ (zb fun σ3 hσ=>?_)
  have q2:=hσ 2
  have q3:=hσ 3
  have q4:=hσ 4
  have q5:=hσ 5
  have q7:=hσ 7
  simp +decide only [bE,Nat.reduceBeqDiff,BEq.rfl,Nat.reduceAdd,z,a,b,c] at q2 q3 q4 q5 q7
  clear hσ hK4 K4
  have hneg:¬ (fs[j]).tag ≥ 0:=by have:=ht _ (List.getElem_mem hj); omega
  refine zd fun K4 hK4=>zi fun τ=>?_
  simp +decide only [bK,bE,decide_false,BEq.rfl,Nat.reduceAdd,Nat.zero_add,q7,S.f4.run,B.int.run_load1 rfl,r2 4 _ rfl,hneg]
  refine hK4 _ _ (zb fun σ4 hσ=>?_)
  have k2:=hσ 2
  have k3:=hσ 3
  have k4:=hσ 4
  have k5:=hσ 5
  have k8:=hσ 8
  simp +decide only [bE,Nat.reduceBeqDiff,BEq.rfl,Nat.reduceAdd,q2,q3,q4,q5] at k2 k3 k4 k5 k8
  refine W_if hlo k8 ?_
  simp only [Bool.false_eq_true,if_false]
  refine zbd ⟨k5,?_,?_,?_,upd_same _ _ _,by omega,e.trans' m02⟩
  ·rw[zg (by decide)]; exact k2
  ·rw[zg (by decide)]; exact k3
  ·rw[zg (by decide)]; exact k4
end
def OwnT (w:World) (lo:Nat) (v:Value) (a:List (Nat × List UInt8)):Prop:=∃ cs,Own w lo 2 v a.length cs∧UsA w a cs
theorem OwnT.at {w:World} {lo:Nat} {v:Value} {a:List (Nat × List UInt8)} (h:OwnT w lo v a) {i:Nat} {x:Nat × List UInt8} (hi:a[i]?=some x):∃ b c,v=.slice (some ⟨b,0,none⟩) a.length c∧w.cell? ⟨b,i * 2,none⟩=some (.int .u32 x.1):=by
 obtain⟨cs,ho,hu⟩:=h
 rcases ho with⟨_,e,_⟩ | ⟨b,c,e,_,_,_,_,hr,_⟩
 ·rw[List.length_eq_zero_iff.1 e] at hi; simp at hi
 ·obtain⟨s,g1,_,_⟩:=hu.get hi
  refine⟨b,c,e,?_⟩
  have:=hr _ _ g1
  rwa [Nat.zero_add] at this
theorem OwnT.stay {w w':World} (m:Mod w w' zy) {lo:Nat} {v:Value} {a:List (Nat × List UInt8)} (h:OwnT w lo v a):OwnT w' lo v a:=by
 obtain⟨cs,ho,hu⟩:=h
 exact⟨cs,ho.stay m fun _ _ _ h=>h,hu.stay m⟩
section
variable {P:Program} {N:Nums} {M:zdd}
theorem OwnT.run_len (S:SpT P N M) {w w':World} {lo:Nat} {v:Value} {a:List (Nat × List UInt8)} (h:OwnT w lo v a) {ty:TypeId}:(Builtin.len_ #[N.zp] ty #[v]).run P w'=.ok (.int .i64 a.length) w':=by
 obtain⟨cs,ho,_⟩:=h
 rcases ho with⟨rfl,e,_⟩ | ⟨b,c,rfl,_⟩
 ·rw[e]; exact S.tr.lg.run_len
 ·exact S.tr.lg.run_len
def cU1 (N:Nums):C:=.draw [
 ⟨some 0,.move (V 10),0,none,[]⟩,
 ⟨some 1,.move (V 4),0,none,[]⟩,
 ⟨some 2,.call ⟨.builtin .len,#[T 1],#[N.zp]⟩,N.ze,none,[1]⟩,
 ⟨some 3,.binOp .lss N.ze (T 0) (T 2) N.ze,0,none,[0,2]⟩,
 ⟨some 4,.move (T 3),0,none,[3]⟩,
 ⟨some 5,.move (V 4),0,some (some 4,true),[4]⟩,
 ⟨some 6,.move (V 10),0,some (some 4,true),[4]⟩,
 ⟨some 7,.indexAddr N.zp (T 5) (T 6),0,some (some 4,true),[5,6,4]⟩,
 ⟨some 8,.fieldAddr N.zal (T 7) 0,0,some (some 4,true),[7,4]⟩,
 ⟨some 9,.load N.zc (T 8),0,some (some 4,true),[8,4]⟩,
 ⟨some 10,.fieldAddr N.zal (V 9) 0,0,some (some 4,true),[4]⟩,
 ⟨some 11,.load N.zc (T 10),0,some (some 4,true),[10,4]⟩,
 ⟨some 12,.binOp .lss N.zc (T 9) (T 11) N.zc,0,some (some 4,true),[9,11,4]⟩,
 ⟨some 111,.pick (T 4) (T 12) (.const (.bool false)),0,none,[4,12]⟩]
theorem W_U1 (B:Base P N) (S:SpT P N M) {loc:List Nat} {N':Nat} {Q:Exit→Env→World→Prop} {σ:Env} {w:World} {lo b9 i k:Nat} {v:Value} {a:List (Nat × List UInt8)} (f4:σ 4=v) (f9:σ 9=.pointer (some ⟨b9,0,none⟩)) (f10:σ 10=.int .i64 i)
  (ho:OwnT w lo v a) (h9:w.cell? ⟨b9,0,none⟩=some (.int .u32 k))
  (hQ:∀ σ':Env,σ' 11=.bool (match a[i]? with | some x=>decide (x.1 < k) | none=>false)→(∀ i,i≠11→σ' i=σ i)→Q .normal σ' w.drew):W P loc N' (cU1 N) Q σ w:=by
 obtain⟨fs,hT⟩:=S.tr.tu
 have ho':=ho.stay (Mod.drew w zy)
 have h9':w.drew.cell? ⟨b9,0,none⟩=some (.int .u32 k):=h9
 refine zyi B.mixed (by kernel_rfl) fun τ=>?_
 by_cases hi:i < a.length
 ·have hx:=List.getElem?_eq_getElem hi
  obtain⟨b,c,hv,hc⟩:=ho'.at hx
  rw[hx] at hQ
  have hlt:((i:Int) < (a.length:Int)):=by omega
  have hix:=fun {w:World}=>zcb (P:=P) (w:=w) S.tr.lg hT (bl:=b) (o:=0) (n:=a.length) (c:=c) (i:=i) (k:=.i64) hi
  have hln:=ho'.run_len S (w':=w.drew) (ty:=N.ze)
  rw[hv] at f4 hln
  simp +decide only [bK,bE,zjt,Nat.reduceBeqDiff,decide_true,BEq.rfl,Nat.reduceAdd,Nat.add_zero,Nat.zero_add,if_true,true_and,f4,f9,f10,hln,hlt,zap,hix,S.tr.g0.run,B.uint32.run_load1 rfl,hc,h9',zca]
  refine zb (K:=fun σ' w'=>Q .normal σ' w') fun σ' hσ=>hQ _ ?_ fun j hj=>?_
  ·have:=hσ 11
   simp +decide only [bE,BEq.rfl,Nat.reduceAdd] at this
   rw[this]
   simp
  ·rw[hσ]
   have e1:(j+100 == 111)=false:=beq_eq_false_iff_ne.2 (by omega)
   simp +decide only [bE,Nat.reduceBeqDiff,e1]
 ·have hx:a[i]?=none:=List.getElem?_eq_none (by omega)
  rw[hx] at hQ
  have hlt:¬ ((i:Int) < (a.length:Int)):=by omega
  have hln:=ho'.run_len S (w':=w.drew) (ty:=N.ze)
  simp +decide only [bK,bE,zjt,Nat.reduceBeqDiff,decide_false,BEq.rfl,Nat.reduceAdd,if_false,true_and,f4,f10,hln,hlt,zbi,Bool.not_true,zca]
  refine zb (K:=fun σ' w'=>Q .normal σ' w') fun σ' hσ=>hQ _ ?_ fun j hj=>?_
  ·have:=hσ 11
   simp +decide only [bE,BEq.rfl,Nat.reduceAdd] at this
   rw[this]
  ·rw[hσ]
   have e1:(j+100 == 111)=false:=beq_eq_false_iff_ne.2 (by omega)
   simp +decide only [bE,Nat.reduceBeqDiff,e1]
def cU2 (N:Nums):C:=.draw [
 ⟨some 0,.fieldAddr N.zal (V 9) 0,0,none,[]⟩,
 ⟨some 1,.load N.zc (T 0),0,none,[0]⟩,
 ⟨some 2,.move (V 3),0,none,[]⟩,
 ⟨some 3,.binOp .lss N.zc (T 1) (T 2) N.zc,0,none,[1,2]⟩,
 ⟨some 4,.move (T 3),0,none,[3]⟩,
 ⟨some 5,.move (V 10),0,some (some 4,false),[4]⟩,
 ⟨some 6,.move (V 4),0,some (some 4,false),[4]⟩,
 ⟨some 7,.call ⟨.builtin .len,#[T 6],#[N.zp]⟩,N.ze,some (some 4,false),[6,4]⟩,
 ⟨some 8,.binOp .lss N.ze (T 5) (T 7) N.ze,0,some (some 4,false),[5,7,4]⟩,
 ⟨some 9,.move (T 8),0,some (some 4,false),[8,4,4]⟩,
 ⟨some 10,.move (V 4),0,some (some 9,true),[9]⟩,
 ⟨some 11,.move (V 10),0,some (some 9,true),[9]⟩,
 ⟨some 12,.indexAddr N.zp (T 10) (T 11),0,some (some 9,true),[10,11,9]⟩,
 ⟨some 13,.fieldAddr N.zal (T 12) 0,0,some (some 9,true),[12,9]⟩,
 ⟨some 14,.load N.zc (T 13),0,some (some 9,true),[13,9]⟩,
 ⟨some 15,.fieldAddr N.zal (V 9) 0,0,some (some 9,true),[9]⟩,
 ⟨some 16,.load N.zc (T 15),0,some (some 9,true),[15,9]⟩,
 ⟨some 17,.binOp .eql N.zc (T 14) (T 16) N.zc,0,some (some 9,true),[14,16,9]⟩,
 ⟨some 18,.pick (T 9) (T 17) (.const (.bool false)),0,some (some 4,false),[9,17,4]⟩,
 ⟨some 112,.pick (T 4) (.const (.bool true)) (T 18),0,none,[4,18]⟩]
theorem W_U2 (B:Base P N) (S:SpT P N M) {loc:List Nat} {N':Nat} {Q:Exit→Env→World→Prop} {σ:Env} {w:World} {lo b9 i k:Nat} {v:Value} {a:List (Nat × List UInt8)} (f3:σ 3=.int .u32 0) (f4:σ 4=v) (f9:σ 9=.pointer (some ⟨b9,0,none⟩)) (f10:σ 10=.int .i64 i)
  (ho:OwnT w lo v a) (h9:w.cell? ⟨b9,0,none⟩=some (.int .u32 k))
  (hQ:∀ σ':Env,σ' 12=.bool (match a[i]? with | some x=>decide (x.1=k) | none=>false)→(∀ i,i≠12→σ' i=σ i)→Q .normal σ' w.drew):W P loc N' (cU2 N) Q σ w:=by
 obtain⟨fs,hT⟩:=S.tr.tu
 have ho':=ho.stay (Mod.drew w zy)
 have h9':w.drew.cell? ⟨b9,0,none⟩=some (.int .u32 k):=h9
 have hk:¬ ((k:Int) < 0):=by omega
 refine zyi B.mixed (by kernel_rfl) fun τ=>?_
 by_cases hi:i < a.length
 ·have hx:=List.getElem?_eq_getElem hi
  obtain⟨b,c,hv,hc⟩:=ho'.at hx
  rw[hx] at hQ
  have hlt:((i:Int) < (a.length:Int)):=by omega
  have hix:=fun {w:World}=>zcb (P:=P) (w:=w) S.tr.lg hT (bl:=b) (o:=0) (n:=a.length) (c:=c) (i:=i) (k:=.i64) hi
  have hln:=ho'.run_len S (w':=w.drew) (ty:=N.ze)
  rw[hv] at f4 hln
  simp +decide only [bK,bE,zjt,Nat.reduceBeqDiff,decide_true,decide_false,BEq.rfl,Nat.reduceAdd,Nat.add_zero,Nat.zero_add,if_false,if_true,true_and,f3,f4,f9,f10,hln,hlt,hk,zap,hix,S.tr.g0.run,B.uint32.run_load1 rfl,hc,h9',zca]
  refine zb (K:=fun σ' w'=>Q .normal σ' w') fun σ' hσ=>hQ _ ?_ fun j hj=>?_
  ·have:=hσ 12
   simp +decide only [bE,BEq.rfl,Nat.reduceAdd] at this
   rw[this]
   by_cases e:(a[i]).1=k
   ·simp [e]
   ·have:¬ (((a[i]).1:Int)=(k:Int)):=by omega
    simp [e,this]
  ·rw[hσ]
   have e1:(j+100 == 112)=false:=beq_eq_false_iff_ne.2 (by omega)
   simp +decide only [bE,Nat.reduceBeqDiff,e1]
 ·have hx:a[i]?=none:=List.getElem?_eq_none (by omega)
  rw[hx] at hQ
  have hlt:¬ ((i:Int) < (a.length:Int)):=by omega
  have hln:=ho'.run_len S (w':=w.drew) (ty:=N.ze)
  simp +decide only [bK,bE,zjt,Nat.reduceBeqDiff,decide_false,BEq.rfl,Nat.reduceAdd,Nat.add_zero,if_false,true_and,f3,f4,f9,f10,hln,hlt,hk,h9',S.tr.g0.run,B.uint32.run_load1 rfl,zap,zbi,Bool.not_true,zca]
  refine zb (K:=fun σ' w'=>Q .normal σ' w') fun σ' hσ=>hQ _ ?_ fun j hj=>?_
  ·have:=hσ 12
   simp +decide only [bE,BEq.rfl,Nat.reduceAdd] at this
   rw[this]
  ·rw[hσ]
   have e1:(j+100 == 112)=false:=beq_eq_false_iff_ne.2 (by omega)
   simp +decide only [bE,Nat.reduceBeqDiff,e1]
end
theorem zzw {k:Nat} {x:List UInt8}:∀ {a:List (Nat × List UInt8)} {i:Nat} {y:Nat × List UInt8},(∀ j z,j < i→a[j]?=some z→z.1 < k)→a[i]?=some y→y.1=k→insT k x a=a
 | [],i,y,_,h,_=>by simp at h
 | (k',l) :: a,0,y,_,h,e=>by
  simp at h; subst h
  have e:k'=k:=e
  subst e
  simp [insT]
 | (k',l) :: a,i+1,y,hj,h,e=>by
  have h0:k' < k:=hj 0 (k',l) (by omega) rfl
  rw[insT,if_pos h0,zzw (i:=i) (fun j z hji hz=>hj (j+1) z (by omega) (by simpa using hz)) (by simpa using h) e]
theorem insT_new {k:Nat} {x:List UInt8}:∀ {a:List (Nat × List UInt8)} {i:Nat},i≤a.length→(∀ j z,j < i→a[j]?=some z→z.1 < k)→(∀ y,a[i]?=some y→k < y.1)→insT k x a=a.take i++(k,x) :: a.drop i
 | [],i,hi,_,_=>by
  have:i=0:=by simpa using hi
  subst this; simp [insT]
 | (k',l) :: a,0,_,_,h=>by
  have h0:k < k':=h (k',l) rfl
  simp [insT,show ¬ k' < k by omega,show k'≠k by omega]
 | (k',l) :: a,i+1,hi,hj,h=>by
  have h0:k' < k:=hj 0 (k',l) (by omega) rfl
  rw[insT,if_pos h0,insT_new (i:=i) (by simpa using hi) (fun j z hji hz=>hj (j+1) z (by omega) (by simpa using hz)) (fun y hy=>h y (by simpa using hy))]
  simp
theorem insT_len (k:Nat) (x:List UInt8):∀ (a:List (Nat × List UInt8)),(insT k x a).length≤a.length+1
 | []=>by simp [insT]
 | (k',l) :: a=>by
  have:=insT_len k x a
  simp only [insT]
  split
  ·simp; omega
  ·split<;>simp
def TgA (w:World) (x:Nat × List UInt8) (p:List Value):Prop:=∃ s,p=[.int .u32 x.1,s]∧OctA w s x.2
def TgsA (w:World):List (Nat × List UInt8)→List (List Value)→Prop
 | [],ps=>ps=[]
 | x :: r,ps=>∃ p q,ps=p :: q∧TgA w x p∧TgsA w r q
theorem TgsA.us {w:World}:∀ {a:List (Nat × List UInt8)} {ps:List (List Value)},TgsA w a ps→UsA w a ps.flatten
 | [],ps,h=>by rw[show ps=[] from h]; rfl
 | (k,l) :: r,ps,⟨p,q,e,⟨s,e1,h1⟩,h2⟩=>by
  subst e e1
  exact⟨s,q.flatten,rfl,h1,h2.us⟩
theorem TgsA.length {w:World}:∀ {a:List (Nat × List UInt8)} {ps:List (List Value)},TgsA w a ps→ps.length=a.length
 | [],ps,h=>by rw[show ps=[] from h]; rfl
 | x :: r,ps,⟨p,q,e,_,h2⟩=>by subst e; simp [h2.length]
theorem TgsA.two {w:World}:∀ {a:List (Nat × List UInt8)} {ps:List (List Value)},TgsA w a ps→∀ p∈ps,p.length=2∧∀ c∈p,c.oneCell'=true
 | [],ps,h,p,hp=>by rw[show ps=[] from h] at hp; cases hp
 | x :: r,ps,⟨p',q,e,⟨s,e1,h1⟩,h2⟩,p,hp=>by
  subst e
  rcases List.mem_cons.1 hp with rfl | hp
  ·subst e1
   exact⟨rfl,fun c hc=>by
    simp at hc
    rcases hc with rfl | rfl
    ·rfl
    ·exact h1.one⟩
  ·exact h2.two p hp
theorem TgsA.append {w:World}:∀ {a b:List (Nat × List UInt8)} {ps qs:List (List Value)},TgsA w a ps→TgsA w b qs→TgsA w (a++b) (ps++qs)
 | [],b,ps,qs,h,h'=>by rw[show ps=[] from h]; exact h'
 | x :: r,b,ps,qs,⟨p,q,e,h1,h2⟩,h'=>by subst e; exact⟨p,q++qs,rfl,h1,h2.append h'⟩
theorem TgsA.take {w:World}:∀ {a:List (Nat × List UInt8)} {ps:List (List Value)} (i:Nat),TgsA w a ps→TgsA w (a.take i) (ps.take i)
 | [],ps,i,h=>by rw[show ps=[] from h]; simp [TgsA]
 | x :: r,ps,0,_=>by simp [TgsA]
 | x :: r,ps,i+1,⟨p,q,e,h1,h2⟩=>by subst e; exact⟨p,q.take i,by simp,h1,h2.take i⟩
theorem TgsA.drop {w:World}:∀ {a:List (Nat × List UInt8)} {ps:List (List Value)} (i:Nat),TgsA w a ps→TgsA w (a.drop i) (ps.drop i)
 | [],ps,i,h=>by rw[show ps=[] from h]; simp [TgsA]
 | x :: r,ps,0,h=>by simpa using h
 | x :: r,ps,i+1,⟨p,q,e,h1,h2⟩=>by subst e; simpa using h2.drop i
theorem TgsA.stay {w w':World} (m:Mod w w' zy):∀ {a:List (Nat × List UInt8)} {ps:List (List Value)},TgsA w a ps→TgsA w' a ps
 | [],ps,h=>h
 | x :: r,ps,⟨p,q,e,⟨s,e1,h1⟩,h2⟩=>⟨p,q,e,⟨s,e1,h1.stay m⟩,h2.stay m⟩
theorem flat2:∀ {ps:List (List Value)},(∀ p∈ps,p.length=2)→ps.flatten.length=ps.length * 2
 | [],_=>rfl
 | p :: ps,h=>by
  rw[List.flatten_cons,List.length_append,h p (by simp),flat2 fun q hq=>h q (by simp [hq]),List.length_cons]; omega
section
variable {P:Program} {N:Nums} {M:zdd}
theorem zabw {et:TypeId} {fs:Array Field} {by':Nat} {z:Value} (hT:TI P et (.struct fs) 2 by' z) {w:World} {lo n i:Nat} {v:Value} {A B:List (List Value)} {X Y:List Value}
  (ho:Own w lo 2 v n (A++X :: B).flatten) (h2:∀ p∈A++X :: B,p.length=2) (hA:A.length=i) (hY:Y.length=2) (h1:∀ c∈Y,c.oneCell'=true) :
  ∃ b c w',v=.slice (some ⟨b,0,none⟩) n c∧i < n∧(Instr.loadAt et (.pointer (some ⟨b,0+i * 2,none⟩))).run P w=.ok (.agg X.toArray) w∧(Instr.storeAt et (.pointer (some ⟨b,0+i * 2,none⟩)) (.agg Y.toArray)).run P w=.ok () w'∧Own w' lo 2 v n (A++Y :: B).flatten∧Mod w w' (fun k _=>¬ zcl v k)∧w'.heap.size=w.heap.size:=by
 have hX:X.length=2:=h2 X (by simp)
 have hAl:A.flatten.length=i * 2:=by rw[flat2 fun p hp=>h2 p (by simp [hp]),hA]
 have hBl:B.flatten.length=B.length * 2:=flat2 fun p hp=>h2 p (by simp [hp])
 have htot:(A++X :: B).flatten.length=n * 2:=by
  rcases ho with⟨_,e1,e2⟩ | ⟨b,c,_,_,_,_,_,_,e⟩
  ·rw[e2,e1]; rfl
  ·exact e
 rw[List.flatten_append,List.flatten_cons,List.length_append,List.length_append,hAl,hX,hBl] at htot
 rcases ho with⟨_,e1,_⟩ | ⟨b,c,hv,hb1,hb2,hnc,hth,hrg,hcl⟩
 ·omega
 rw[List.flatten_append,List.flatten_cons,zx,zx,hAl,hX] at hrg
 obtain⟨g1,g2,g3⟩:=hrg
 have hin:i < n:=by omega
 have hld:=hT.run_load (w:=w) (b:=b) (o:=0+i * 2) g2 hX (fun h=>by cases h)
 have hlv:ldv (.struct fs) X=.agg X.toArray:=rfl
 rw[hlv] at hld
 have hst:=hT.run_store (w:=w) (b:=b) (o:=0+i * 2) (v:=.agg Y.toArray) (cs:=Y) rfl hY (fun j hj=>by
  have:=hth (i * 2+j) (by have:i * 2+2≤c * 2:=(by omega); omega)
  rw[show 0+i * 2+j=0+(i * 2+j) by omega]; exact this) h1
 have ms:Mod w (w.setCells b (0+i * 2) Y) (rng b (0+i * 2) Y.length):=Mod.setCells _ _ _ fun _ k h1 h2=>⟨rfl,h1,h2⟩
 refine⟨b,c,_,hv,hin,hld,hst,.inr ⟨b,c,hv,hb1,Nat.lt_of_lt_of_le hb2 ms.size,hnc,ms.there hb2 hth,?_,?_⟩,ms.mono fun k o _ h hn=>hn b 0 none n c hv h.1,zfq _ _ _⟩
 ·rw[List.flatten_append,List.flatten_cons,zx,zx,hAl,hY]
  refine⟨ms.rangeAt hb2 (fun k h1 h2 h=>by have:=h.2.1; omega) g1,?_,ms.rangeAt hb2 (fun k h1 h2 h=>by have:=h.2.2; omega) g3⟩
  have:=zax Y (0+i * 2) w X g2 (by omega)
  rwa [List.drop_of_length_le (by omega),List.append_nil] at this
 ·rw[List.flatten_append,List.flatten_cons,List.length_append,List.length_append,hAl,hY,hBl]; omega
end
section
variable {P:Program} {N:Nums} {M:zdd}
def cShift (N:Nums):C:=.block 4 (.loop (.seq (.seq (.ops [⟨some 0,.move (V 13),0,none,[]⟩,⟨some 1,.move (V 10),0,none,[]⟩,⟨some 114,.binOp .gtr N.ze (T 0) (T 1) N.ze,0,none,[]⟩]) (.cond 14 .skip (.exit 4)))
 (.seq (.block 5 (.ops [⟨some 0,.move (V 4),0,none,[]⟩,⟨some 1,.move (V 13),0,none,[]⟩,⟨some 2,.move (V 4),0,none,[]⟩,⟨some 3,.move (V 13),0,none,[]⟩,⟨some 4,.binOp .sub N.ze (T 3) (.const (.int .i64 1)) N.ze,0,none,[]⟩,⟨some 5,.indexAddr N.zp (T 2) (T 4),0,none,[]⟩,⟨some 6,.load N.zal (T 5),0,none,[]⟩,⟨some 7,.indexAddr N.zp (T 0) (T 1),0,none,[]⟩,⟨none,.store N.zal (T 7) (T 6),0,none,[]⟩]))
  (.ops [⟨some 0,.move (V 13),0,none,[]⟩,⟨some 1,.binOp .sub N.ze (T 0) (.const (.int .i64 1)) N.ze,0,none,[]⟩,⟨some 113,.assign (T 1),0,none,[]⟩]))))
theorem W_shift (S:SpT P N M) {loc:List Nat} {N':Nat} (hlo:zei loc N') {Q:Exit→Env→World→Prop} {σ:Env} {w0 wS w:World} {v:Value} {i:Nat} {a:List (Nat × List UInt8)} {ps:List (List Value)} {g:List Value}
  (f4:σ 4=v) (f10:σ 10=.int .i64 i) (f13:σ 13=.int .i64 a.length) (hi:i≤a.length) (hn:a.length < 1099511627776) (m0:Mod w0 w zy) (hps:TgsA wS a ps) (hg:g.length=2)
  (ho:Own w w0.heap.size 2 v (a.length+1) (ps++[g]).flatten)
  (hQ:∀ (σ':Env) (w':World) (g':List Value),(∀ j,j≠13→j≠14→σ' j=σ j)→g'.length=2→Own w' w0.heap.size 2 v (a.length+1) (ps.take i++g' :: ps.drop i).flatten→Mod w0 w' zy→Mod w w' (fun k _=>¬ zcl v k)→Q .normal σ' w') :
  W P loc N' (cShift N) Q σ w:=by
 obtain⟨fs,hT⟩:=S.tr.tu
 have hpl:=hps.length
 have hp2:=hps.two
 refine zem (zpk (fun m σ' w'=>∃ k g',m=k∧i≤k∧k≤a.length∧g'.length=2∧(∀ j,j≠13→j≠14→σ' j=σ j)∧σ' 13=.int .i64 k∧Own w' w0.heap.size 2 v (a.length+1) (ps.take k++g' :: ps.drop k).flatten∧Mod w0 w' zy∧Mod w w' (fun k _=>¬ zcl v k)) (n:=a.length)
  ⟨a.length,g,rfl,hi,Nat.le_refl _,hg,fun _ _ _=>rfl,f13,by
   have e1:ps.take a.length=ps:=by rw[← hpl,List.take_length]
   have e2:ps.drop a.length=[]:=by rw[← hpl,List.drop_length]
   rw[e1,e2]; exact ho,m0,.refl _ _⟩ ?_)
 rintro k σ1 w1 ⟨_,g',rfl,hik,hk,hg',hag,h13,hw,m1,mw⟩
 have h4:σ1 4=v:=(hag 4 (by decide) (by decide)).trans f4
 have h10:σ1 10=.int .i64 i:=(hag 10 (by decide) (by decide)).trans f10
 refine zd fun K hK=>zd fun K1 hK1=>zi fun τ=>?_
 simp +decide only [bK,bE,Nat.reduceBeqDiff,BEq.rfl,Nat.reduceAdd,h13,h10]
 refine hK1 _ _ (zb fun σ2 hσ=>?_)
 have q4:=hσ 4
 have q13:=hσ 13
 have q14:=hσ 14
 simp +decide only [bE,Nat.reduceBeqDiff,BEq.rfl,Nat.reduceAdd,h4,h13] at q4 q13 q14
 have hag2:∀ j,j≠13→j≠14→σ2 j=σ j:=fun j h1 h2=>by
  rw[hσ j,← hag j h1 h2]
  have e1:(j+100 == 114)=false:=beq_eq_false_iff_ne.2 (by omega)
  simp +decide only [bE,Nat.reduceBeqDiff,e1]
 clear hσ hK1 K1
 refine W_if hlo q14 ?_
 by_cases hgt:i < k
 ·have hgt':(k:Int) > (i:Int):=by omega
  simp only [hgt',decide_true,if_true]
  refine zbd (hK _ _ ?_)
  clear hK K
  obtain⟨k',rfl⟩:∃ k',k=k'+1:=⟨k - 1,by omega⟩
  have hk':k' < ps.length:=by omega
  have hX:=List.getElem?_eq_getElem hk'
  obtain⟨X,hXe⟩:∃ X,X=ps[k']:=⟨_,rfl⟩
  have htk:ps.take (k'+1)=ps.take k'++[X]:=by rw[hXe]; exact(List.take_append_getElem hk').symm
  have hdk:ps.drop k'=X :: ps.drop (k'+1):=by rw[hXe]; exact List.drop_eq_getElem_cons hk'
  have hX2:=hp2 X (by rw[hXe]; exact List.getElem_mem hk')
  have hall:∀ p∈ps.take (k'+1)++g' :: ps.drop (k'+1),p.length=2:=by
   intro p hp
   rcases List.mem_append.1 hp with hp | hp
   ·exact(hp2 p (List.mem_of_mem_take hp)).1
   ·rcases List.mem_cons.1 hp with rfl | hp
    ·exact hg'
    ·exact(hp2 p (List.mem_of_mem_drop hp)).1
  have hw':=hw
  rw[htk,List.append_assoc,List.singleton_append] at hw'
  have hall':=hall
  rw[htk,List.append_assoc,List.singleton_append] at hall'
  obtain⟨b,c,wx,hv,hi1,hld,_⟩:=zabw hT hw' hall' (i:=k') (by simp; omega) (Y:=X) hX2.1 hX2.2
  obtain⟨b2,c2,w3,hv2,hi2,_,hst,ho3,m3,s3⟩:=zabw hT hw hall (i:=k'+1) (by simp; omega) (Y:=X) hX2.1 hX2.2
  have hbb:b2=b∧c2=c:=by
   rw[hv] at hv2
   injection hv2 with e1 _ e3
   injection e1 with e2
   injection e2 with e4
   exact⟨e4.symm,e3.symm⟩
  obtain⟨rfl,rfl⟩:=hbb
  have hix1:=fun {w:World}=>zcb (P:=P) (w:=w) S.tr.lg hT (bl:=b2) (o:=0) (n:=a.length+1) (c:=c2) (i:=k') (k:=.i64) hi1
  have hix2:=fun {w:World}=>zcb (P:=P) (w:=w) S.tr.lg hT (bl:=b2) (o:=0) (n:=a.length+1) (c:=c2) (i:=k'+1) (k:=.i64) hi2
  rw[Nat.zero_add] at hld hst
  have hsub:IntKind.i64.wrap (((k'+1:Nat):Int) - 1)=(k':Int):=by rw[wrap_i64 (by omega) (by omega)]; omega
  refine zd fun K hK=>zem (zi fun τ=>?_)
  simp +decide only [bK,bE,Nat.reduceBeqDiff,BEq.rfl,Nat.reduceAdd,q4,q13,hsub]
  rw[hv]
  simp +decide only [bK,Nat.zero_add,hix1,hld,hix2,hst]
  simp only [inB]
  refine zb (K:=fun σ' w'=>zfd K _ .normal σ' w') fun σ3 hσ=>hK _ _ ?_
  have p13:=hσ 13
  simp +decide only [bE,Nat.reduceBeqDiff,Nat.reduceAdd,q13] at p13
  have hag3:∀ j,j≠13→j≠14→σ3 j=σ j:=fun j h1 h2=>by
   rw[hσ j,← hag2 j h1 h2]
   simp +decide only [bE,Nat.reduceBeqDiff]
  clear hσ hK K
  refine zi fun τ=>?_
  simp +decide only [bK,bE,BEq.rfl,Nat.reduceAdd,p13,hsub]
  simp only [zfd]
  refine zb (K:=fun σ' w'=>∃ m',m' < k'+1∧∃ k g',m'=k∧i≤k∧k≤a.length∧g'.length=2∧(∀ j,j≠13→j≠14→σ' j=σ j)∧σ' 13=.int .i64 k∧Own w' w0.heap.size 2 v (a.length+1) (ps.take k++g' :: ps.drop k).flatten∧Mod w0 w' zy∧Mod w w' (fun k _=>¬ zcl v k)) fun σ4 hσ=>?_
  have r13:=hσ 13
  simp +decide only [bE,BEq.rfl,Nat.reduceAdd] at r13
  refine⟨k',by omega,k',X,rfl,by omega,by omega,hX2.1,fun j h1 h2=>?_,r13,?_,Mod.ofOwn hw m1 m3,mw.trans' m3⟩
  ·rw[hσ j,← hag3 j h1 h2]
   have e1:(j+100 == 113)=false:=beq_eq_false_iff_ne.2 (by omega)
   simp +decide only [bE,Nat.reduceBeqDiff,e1]
  ·rw[hdk]
   rw[htk,List.append_assoc,List.singleton_append] at ho3
   exact ho3
 ·have hgt':¬ (k:Int) > (i:Int):=by omega
  simp only [hgt',decide_false,Bool.false_eq_true,if_false]
  refine zof ?_
  simp only [zfd,inB,if_true]
  obtain rfl:k=i:=by omega
  exact hQ _ _ g' hag2 hg' hw m1 mw
end
section
variable {P:Program} {N:Nums} {M:zdd}
def cFind (N:Nums):C:=.block 2 (.loop (.seq (.seq (cU1 N) (.cond 11 .skip (.exit 2)))
 (.block 3 (.ops [⟨some 0,.move (V 10),0,none,[]⟩,⟨some 1,.binOp .add N.ze (T 0) (.const (.int .i64 1)) N.ze,0,none,[]⟩,⟨some 110,.assign (T 1),0,none,[]⟩]))))
theorem W_find (B:Base P N) (S:SpT P N M) {loc:List Nat} {N':Nat} (hlo:zei loc N') {Q:Exit→Env→World→Prop} {σ:Env} {w:World} {lo b9 k:Nat} {v:Value} {a:List (Nat × List UInt8)} (f4:σ 4=v) (f9:σ 9=.pointer (some ⟨b9,0,none⟩)) (f10:σ 10=.int .i64 0)
  (ho:OwnT w lo v a) (h9:w.cell? ⟨b9,0,none⟩=some (.int .u32 k)) (hn:a.length < 1099511627776)
  (hQ:∀ (σ':Env) (w':World) (i:Nat),(∀ j,j≠10→j≠11→σ' j=σ j)→σ' 10=.int .i64 i→i≤a.length→(∀ j z,j < i→a[j]?=some z→z.1 < k)→(∀ y,a[i]?=some y→¬ y.1 < k)→Mod w w' zy→Q .normal σ' w') :
  W P loc N' (cFind N) Q σ w:=by
 refine zem (zpk (fun m σ' w'=>∃ i:Nat,m=a.length - i∧i≤a.length∧(∀ j,j≠10→j≠11→σ' j=σ j)∧σ' 10=.int .i64 i∧(∀ j z,j < i→a[j]?=some z→z.1 < k)∧Mod w w' zy) (n:=a.length) ⟨0,by omega,by omega,fun _ _ _=>rfl,f10,fun j z h=>by omega,.refl _ _⟩ ?_)
 rintro m σ1 w1 ⟨i,rfl,hi,hag,h10,hj,m1⟩
 have h4:σ1 4=v:=(hag 4 (by decide) (by decide)).trans f4
 have h9':σ1 9=.pointer (some ⟨b9,0,none⟩):=(hag 9 (by decide) (by decide)).trans f9
 have hc9:w1.cell? ⟨b9,0,none⟩=some (.int .u32 k):=by rw[m1.cell _ _ (zde (by rw[h9]; rfl)) fun h=>h]; exact h9
 refine zd fun K hK=>zd fun K1 hK1=>W_U1 B S h4 h9' h10 (ho.stay m1) hc9 fun σ2 q11 hag2=>hK1 _ _ ?_
 have md:=m1.trans' (Mod.drew w1 zy)
 refine W_if hlo q11 ?_
 have q10:σ2 10=.int .i64 i:=(hag2 10 (by decide)).trans h10
 have hag3:∀ j,j≠10→j≠11→σ2 j=σ j:=fun j h1 h2=>(hag2 j h2).trans (hag j h1 h2)
 have stop:(∀ y,a[i]?=some y→¬ y.1 < k)→W P loc N' (.exit 2) (zfd K (zfd (fun σ' w'=>∃ m,m < a.length - i∧∃ i:Nat,m=a.length - i∧i≤a.length∧(∀ j,j≠10→j≠11→σ' j=σ j)∧σ' 10=.int .i64 i∧(∀ j z,j < i→a[j]?=some z→z.1 < k)∧Mod w w' zy) (inB 2 Q))) σ2 w1.drew:=by
  intro h
  refine zof ?_
  simp only [zfd,inB,if_true]
  exact hQ _ _ i hag3 q10 hi hj h md
 cases hx:a[i]? with
 | none=>
  simp only [Bool.false_eq_true,if_false]
  exact stop fun y hy=>by rw[hx] at hy; cases hy
 | some y=>
  by_cases hlt:y.1 < k
  ·simp only [hlt,decide_true,if_true]
   have hil:=(List.getElem?_eq_some_iff.1 hx).1
   refine zbd (hK _ _ (zem (zi fun τ=>?_)))
   have hw:IntKind.i64.wrap ((i:Int)+1)=(((i+1:Nat):Int)):=by rw[wrap_i64 (by omega) (by omega)]; omega
   simp +decide only [bK,bE,BEq.rfl,Nat.reduceAdd,q10,hw]
   simp only [inB,zfd]
   refine zb (K:=fun σ' w'=>∃ m,m < a.length - i∧∃ i:Nat,m=a.length - i∧i≤a.length∧(∀ j,j≠10→j≠11→σ' j=σ j)∧σ' 10=.int .i64 i∧(∀ j z,j < i→a[j]?=some z→z.1 < k)∧Mod w w' zy) fun σ4 hσ=>?_
   have r10:=hσ 10
   simp +decide only [bE,BEq.rfl,Nat.reduceAdd] at r10
   refine⟨a.length - (i+1),by omega,i+1,rfl,by omega,fun j h1 h2=>?_,r10,fun j z hji hz=>?_,md⟩
   ·rw[hσ j,← hag3 j h1 h2]
    have e1:(j+100 == 110)=false:=beq_eq_false_iff_ne.2 (by omega)
    simp +decide only [bE,Nat.reduceBeqDiff,e1]
   ·by_cases e:j=i
    ·subst e; rw[hx] at hz; injection hz with hz; subst hz; exact hlt
    ·exact hj j z (by omega) hz
  ·simp only [hlt,decide_false,Bool.false_eq_true,if_false]
   exact stop fun y' hy=>by rw[hx] at hy; injection hy with hy; subst hy; exact hlt
end
theorem unkT_snoc (u:List (Nat × List UInt8)) {j:Nat} (hj:j < u.length):(u.take (j+1)).foldl (fun a x=>insT x.1 x.2 a) []=insT u[j].1 u[j].2 ((u.take j).foldl (fun a x=>insT x.1 x.2 a) []):=by
 rw[← List.take_append_getElem hj,List.foldl_append]; rfl
theorem zxq:∀ (u a:List (Nat × List UInt8)),(u.foldl (fun a x=>insT x.1 x.2 a) a).length≤a.length+u.length
 | [],a=>by simp
 | x :: u,a=>by
  have h1:=zxq u (insT x.1 x.2 a)
  have h2:=insT_len x.1 x.2 a
  simp only [List.foldl_cons,List.length_cons]; omega
section
variable {P:Program} {N:Nums} {M:zdd}
def cPutT (N:Nums):C:=.seq (.ops [⟨some 0,.move (V 4),0,none,[]⟩,⟨some 1,.build N.zal #[],0,none,[]⟩,⟨some 2,.buildSlice N.zp 1 #[(0,T 1)],0,none,[]⟩,⟨some 3,.call ⟨.builtin .append,#[T 0,T 2],#[N.zp,N.zp]⟩,N.zp,none,[]⟩,⟨some 104,.assign (T 3),0,none,[]⟩])
 (.seq (.seq (.ops [⟨some 0,.move (V 4),0,none,[]⟩,⟨some 1,.call ⟨.builtin .len,#[T 0],#[N.zp]⟩,N.ze,none,[]⟩,⟨some 2,.binOp .sub N.ze (T 1) (.const (.int .i64 1)) N.ze,0,none,[]⟩,⟨some 113,.assign (T 2),0,none,[]⟩]) (cShift N))
  (.ops [⟨some 0,.move (V 4),0,none,[]⟩,⟨some 1,.move (V 10),0,none,[]⟩,⟨some 2,.load N.zal (V 9),0,none,[]⟩,⟨some 3,.indexAddr N.zp (T 0) (T 1),0,none,[]⟩,⟨none,.store N.zal (T 3) (T 2),0,none,[]⟩]))
theorem W_putT (S:SpT P N M) {loc:List Nat} {N':Nat} (hlo:zei loc N') {Q:Exit→Env→World→Prop} {σ:Env} {w0 wS w:World} {b9 i:Nat} {v s:Value} {x:Nat × List UInt8} {a:List (Nat × List UInt8)} {ps:List (List Value)}
  (f4:σ 4=v) (f9:σ 9=.pointer (some ⟨b9,0,none⟩)) (f10:σ 10=.int .i64 i) (hi:i≤a.length) (hn:a.length < 1000000000) (ho:Own w w0.heap.size 2 v a.length ps.flatten) (hps:TgsA wS a ps) (m0:Mod w0 w zy) (hb9:b9 < w.heap.size) (h9:w.rangeAt b9 0 [.int .u32 x.1,s]) (hs:OctA wS s x.2) (h9n:zcl v b9)
  (hQ:∀ (σ':Env) (w':World) (ps':List (List Value)),(∀ j,j≠4→j≠13→j≠14→σ' j=σ j)→Own w' w0.heap.size 2 (σ' 4) (a.length+1) ps'.flatten→TgsA wS (a.take i++x :: a.drop i) ps'→Mod w0 w' zy→Q .normal σ' w') :
  W P loc N' (cPutT N) Q σ w:=by
 obtain⟨fs,hT⟩:=S.tr.tu
 have hpl:=hps.length
 have hp2:=hps.two
 have e0:∀ ρ:Env,(#[]:Array (Nat × Operand)).map (fun p=>(p.1,ev ρ p.2))=#[]:=fun ρ=>by simp
 have e1:∀ ρ:Env,(#[(0,T 1)]:Array (Nat × Operand)).map (fun p=>(p.1,ev ρ p.2))=#[(0,ρ 1)]:=fun ρ=>by simp
 have hbu:(Instr.build N.zal #[]).run P w=.ok (.agg [.int .u32 0,.slice none 0 0].toArray) w:=S.tr.tag.run_build (by simp [Instr.fill])
 have hbs:=zrh (w:=w) (v:=.agg [.int .u32 0,.slice none 0 0].toArray) (cs:=[.int .u32 0,.slice none 0 0]) S.tr.lg hT rfl rfl (by decide) (by decide)
 obtain⟨w1,hw1⟩:∃ w1,w1=w.alloc (.cells [Value.int .u32 0,.slice none 0 0].toArray N.zal):=⟨_,rfl⟩
 have m1:Mod w w1 zy:=by rw[hw1]; exact Mod.alloc _ _ _
 have s1:w1.heap.size=w.heap.size+1:=by rw[hw1]; exact zav _ _
 have r1:w1.rangeAt w.heap.size 0 [.int .u32 0,.slice none 0 0]:=by rw[hw1]; exact zr w _ _ _
 rw[← hw1] at hbs
 clear hw1
 have hones:∀ c∈ps.flatten,c.oneCell'=true:=fun c hc=>by
  obtain⟨p,hp,hcp⟩:=List.mem_flatten.1 hc
  exact(hp2 p hp).2 c hcp
 obtain⟨v2,w2,hap,ho2,m2,_,hnb⟩:=ztu (P:=P) (ty:=N.zp) (m:=1) (cb:=1) S.tr.lg hT (ho.stay m1 fun _ _ _ h=>h) r1 rfl (by decide) (Nat.le_trans m0.size m1.size) rfl hones (by omega) (by decide) (by decide)
 have m02:Mod w0 w2 zy:=Mod.ofOwn (ho.stay m1 fun _ _ _ h=>h) (m0.trans' m1) m2
 have h9n2:zcl v2 b9:=hnb b9 (by omega) h9n
 have h92:w2.rangeAt b9 0 [.int .u32 x.1,s]:=m2.rangeAt (by omega) (fun _ _ _ h=>h h9n) (zad m1 h9)
 have ho2':Own w2 w0.heap.size 2 v2 (a.length+1) (ps++[[Value.int .u32 0,Value.slice none 0 0]]).flatten:=by
  rw[List.flatten_append]; simpa using ho2
 refine zd fun K hK=>zi fun τ=>?_
 simp +decide only [bK,bE,Nat.reduceBeqDiff,BEq.rfl,Nat.reduceAdd,f4,e0,hbu,e1,hbs,hap]
 refine hK _ _ (zb fun σ1 hσ=>?_)
 have q4:=hσ 4
 have q10:=hσ 10
 simp +decide only [bE,Nat.reduceBeqDiff,BEq.rfl,Nat.reduceAdd,f10] at q4 q10
 have hag1:∀ j,j≠4→σ1 j=σ j:=fun j h=>by
  rw[hσ j]
  have e1:(j+100 == 104)=false:=beq_eq_false_iff_ne.2 (by omega)
  simp +decide only [bE,Nat.reduceBeqDiff,e1]
 clear hσ hK K
 have hlen:∀ {w':World},(Builtin.len_ #[N.zp] N.ze #[v2]).run P w'=.ok (.int .i64 ((a.length+1:Nat):Int)) w':=by
  intro w'
  rcases ho2' with⟨_,e,_⟩ | ⟨b,c,e,_⟩
  ·omega
  ·rw[e]; exact S.tr.lg.run_len
 have hsub:IntKind.i64.wrap (((a.length+1:Nat):Int) - 1)=(a.length:Int):=by rw[wrap_i64 (by omega) (by omega)]; omega
 refine zd fun K hK=>zd fun K1 hK1=>zi fun τ=>?_
 simp +decide only [bK,bE,BEq.rfl,Nat.reduceAdd,q4,hlen,hsub]
 refine hK1 _ _ (zb fun σ2 hσ=>?_)
 have p4:=hσ 4
 have p10:=hσ 10
 have p13:=hσ 13
 simp +decide only [bE,Nat.reduceBeqDiff,BEq.rfl,Nat.reduceAdd,q4,q10] at p4 p10 p13
 have hag2:∀ j,j≠4→j≠13→σ2 j=σ j:=fun j h h'=>by
  rw[hσ j,← hag1 j h]
  have e1:(j+100 == 113)=false:=beq_eq_false_iff_ne.2 (by omega)
  simp +decide only [bE,Nat.reduceBeqDiff,e1]
 clear hσ hK1 K1
 refine W_shift S hlo (w0:=w0) p4 p10 p13 hi (by omega) m02 hps rfl ho2' fun σ3 w3 g' hag3 hg' ho3 m3 mw3=>hK _ _ ?_
 clear hK K
 have h93:w3.rangeAt b9 0 [.int .u32 x.1,s]:=mw3.rangeAt (by have:=m2.size; omega) (fun _ _ _ h=>h h9n2) h92
 have hall:∀ p∈ps.take i++g' :: ps.drop i,p.length=2:=by
  intro p hp
  rcases List.mem_append.1 hp with hp | hp
  ·exact(hp2 p (List.mem_of_mem_take hp)).1
  ·rcases List.mem_cons.1 hp with rfl | hp
   ·exact hg'
   ·exact(hp2 p (List.mem_of_mem_drop hp)).1
 obtain⟨b,c,w4,hv,hi1,_,hst,ho4,m4,_⟩:=zabw hT ho3 hall (i:=i) (by simp; omega) (Y:=[.int .u32 x.1,s]) rfl (by
  intro c hc; simp at hc; rcases hc with rfl | rfl
  ·rfl
  ·exact hs.one)
 have hix:=fun {w:World}=>zcb (P:=P) (w:=w) S.tr.lg hT (bl:=b) (o:=0) (n:=a.length+1) (c:=c) (i:=i) (k:=.i64) hi1
 have hld:=hT.run_load (w:=w3) (b:=b9) (o:=0) h93 rfl (fun h=>by cases h)
 have hlv:ldv (.struct fs) [.int .u32 x.1,s]=.agg [.int .u32 x.1,s].toArray:=rfl
 rw[hlv] at hld
 rw[Nat.zero_add] at hst
 have k4:σ3 4=v2:=(hag3 4 (by decide) (by decide)).trans p4
 have k10:σ3 10=.int .i64 i:=(hag3 10 (by decide) (by decide)).trans p10
 have k9:σ3 9=.pointer (some ⟨b9,0,none⟩):=((hag3 9 (by decide) (by decide)).trans (hag2 9 (by decide) (by decide))).trans f9
 refine zi fun τ=>?_
 simp +decide only [bK,bE,Nat.reduceBeqDiff,BEq.rfl,Nat.reduceAdd,k4,k9,k10,hld]
 rw[hv]
 simp +decide only [bK,Nat.zero_add,hix,hst]
 refine zb (K:=fun σ' w'=>Q .normal σ' w') fun σ4 hσ=>hQ σ4 w4 _ (fun j h1 h2 h3=>?_) ?_ (TgsA.append (hps.take i) (show TgsA wS (x :: a.drop i) ([.int .u32 x.1,s] :: ps.drop i) from ⟨_,_,rfl,⟨s,rfl,hs⟩,hps.drop i⟩)) (Mod.ofOwn ho3 m3 m4)
 ·rw[hσ j,← hag2 j h1 h2,← hag3 j h2 h3]
  simp +decide only [bE,Nat.reduceBeqDiff]
 ·have z:=hσ 4
  simp +decide only [bE,Nat.reduceBeqDiff,Nat.reduceAdd,k4] at z
  rw[z]; exact ho4
end
section
variable {P:Program} {N:Nums} {M:zdd}
theorem zkr.cut {w:World} {v:Value} {u:List (Nat × List UInt8)} (h:zkr w v u):∃ ad c,v=.slice ad u.length c∧u.length≤c∧∀ n,n≤u.length→zkr w (.slice ad n c) (u.take n):=by
 rcases h with⟨ad,c,rfl,rfl⟩ | ⟨b,o,c,cs,rfl,h1,h2,h3⟩
 ·exact⟨ad,c,rfl,Nat.zero_le _,fun n hn=>.inl ⟨ad,c,by rw[show n=0 by simpa using hn],by simp⟩⟩
 ·have key:∀ (l:List (Nat × List UInt8)) (cs:List Value) (n o:Nat),UsA w l cs→w.rangeAt b o cs→UsA w (l.take n) (cs.take (n * 2))∧w.rangeAt b o (cs.take (n * 2)):=by
   intro l
   induction l with
   | nil=>intro cs n o hr hg; simp only [UsA] at hr; subst hr; simp [UsA]; intro j v hj; simp at hj
   | cons t l ih=>
    obtain⟨k,y⟩:=t
    rintro _ n o ⟨v,r,rfl,h1,h2⟩ hg
    cases n with
    | zero=>simp [UsA]; intro j v hj; simp at hj
    | succ n=>
     have hg':=(zx (cs:=[.int .u32 k,v]) (ds:=r)).1 hg
     obtain⟨g1,g2⟩:=ih r n _ h2 hg'.2
     rw[show (n+1) * 2=n * 2+1+1 by omega,List.take_succ_cons,List.take_succ_cons,List.take_succ_cons]
     exact⟨⟨v,r.take (n * 2),rfl,h1,g1⟩,(zx (cs:=[.int .u32 k,v]) (ds:=r.take (n * 2))).2 ⟨hg'.1,g2⟩⟩
  exact⟨_,c,rfl,h1,fun n hn=>.inr ⟨b,o,c,cs.take (n * 2),by rw[List.length_take,Nat.min_eq_left hn],by rw[List.length_take]; omega,(key u cs n o h2 h3).1,(key u cs n o h2 h3).2⟩⟩
theorem zabi (B:Base P N) (S:SpT P N M) (hW:SW P N M) {wS w:World} {fv uv:Value} {fs:List Fld} {u:List (Nat × List UInt8)} (mS:Mod wS w zy) (hf:zik w fv fs) (hl:fs.length < 4611686018427387904) (ht:∀ f∈fs,f.tag < 0) (hu:zkr wS uv u) :
  Call P M.zix #[fv,uv] w fun r w'=>(∃ cs,Own w' w.heap.size 2 r (unkT u).length cs∧UsA wS (unkT u) cs)∧Mod w w' zy:=by
 obtain⟨fsT,hT⟩:=S.tr.tu
 refine hW.unknown.call rfl fun loc N' hlo=>?_
 unfold zpf
 obtain⟨ad,c,hv,hc,hcut⟩:=hu.cut
 refine zd fun K hK=>zao (hK _ _ ?_)
 clear hK K
 obtain⟨σ,hσ⟩:∃ σ,σ=upd (zdf #[fv,uv]) 2 (.slice none 0 0):=⟨_,rfl⟩
 have f0:σ 0=fv:=by rw[hσ,zg (by decide)]; rfl
 have f1:σ 1=uv:=by rw[hσ,zg (by decide)]; rfl
 rw[← hσ]
 clear hσ
 refine zd fun K hK=>zi fun τ=>?_
 simp +decide only [bK,bE,Nat.reduceAdd,Nat.zero_add,f0]
 rw[zan hW.known.has]
 simp +decide only [bK,bE,BEq.rfl]
 refine(sp_known B S hW.known hf hl ht).mono ?_
 rintro _ w1 ⟨rfl,m1⟩
 refine hK _ _ (zb fun σ1 hσ=>?_)
 have a1:=hσ 1
 have a3:=hσ 3
 simp +decide only [bE,Nat.reduceBeqDiff,BEq.rfl,Nat.reduceAdd,f1] at a1 a3
 clear hσ hK K f0 f1
 refine zd fun K hK=>zao (hK _ _ ?_)
 clear hK K
 have b1:(upd σ1 4 (.slice none 0 0)) 1=uv:=by rw[zg (by decide)]; exact a1
 have b3:(upd σ1 4 (.slice none 0 0)) 3=.int .u32 0:=by rw[zg (by decide)]; exact a3
 have b4:(upd σ1 4 (.slice none 0 0)) 4=.slice none 0 0:=upd_same _ _ _
 obtain⟨σ2,hσ2⟩:∃ σ2,σ2=upd σ1 4 (.slice none 0 0):=⟨_,rfl⟩
 rw[← hσ2] at b1 b3 b4 ⊢
 clear hσ2 a1 a3
 have hn:(if (32767:Int) < (u.length:Int) then (32767:Int) else (u.length:Int))=((min 32767 u.length:Nat):Int):=by split<;>omega
 have hsl:=fun {w:World}=>zhj (P:=P) (w:=w) S.tr.lg hT (ad:=ad) (n:=u.length) (c:=c) (h:=min 32767 u.length) (k:=.i64) (by omega)
 have hU:=hcut (min 32767 u.length) (by omega)
 obtain⟨U,hUd⟩:∃ U,U=u.take (min 32767 u.length):=⟨_,rfl⟩
 have hUl:U.length=min 32767 u.length:=by rw[hUd,List.length_take]; omega
 have hUt:U=u.take most:=by rw[hUd]; unfold most; rw[List.take_eq_take_iff]; omega
 rw[← hUd] at hU
 obtain⟨vU,hvU⟩:∃ vU,vU=Value.slice ad (min 32767 u.length) c:=⟨_,rfl⟩
 rw[← hvU] at hU
 refine zd fun K hK=>zd fun K1 hK1=>zi fun τ=>?_
 simp +decide only [bK,bE,Nat.reduceBeqDiff,BEq.rfl,Nat.reduceAdd,Option.map_some,Option.map_none,b1,hu.run_len S,zxb,zabo,hn]
 rw[hv]
 simp +decide only [bK,hsl]
 rw[← hvU]
 simp +decide only [bK,hU.run_len S]
 refine hK1 _ _ (zb fun σ3 hσ=>?_)
 have p3:=hσ 3
 have p4:=hσ 4
 have p5:=hσ 5
 have p6:=hσ 6
 have p7:=hσ 7
 simp +decide only [bE,Nat.reduceBeqDiff,BEq.rfl,Nat.reduceAdd,b3,b4] at p3 p4 p5 p6 p7
 clear hσ hK1 K1 b1 b3 b4
 obtain⟨A,hA⟩:∃ A:Nat→List (Nat × List UInt8),A=fun j=>(U.take j).foldl (fun a x=>insT x.1 x.2 a) []:=⟨_,rfl⟩
 have hAl:∀ j,(A j).length≤32767:=fun j=>by
  rw[hA]
  have:=zxq (U.take j) []
  simp only [List.length_nil,List.length_take] at this
  show ((U.take j).foldl _ []).length≤_
  omega
 have hA0:A 0=[]:=by rw[hA]; rfl
 have hAn:A U.length=unkT u:=by rw[hA]; show (U.take U.length).foldl _ []=_; rw[List.take_length,hUt]; rfl
 have hAs:∀ (j:Nat) (hj:j < U.length),A (j+1)=insT U[j].1 U[j].2 (A j):=fun j hj=>by rw[hA]; exact unkT_snoc U hj
 clear hA
 refine zko (i:=7) (l:=6) (c:=8) (k:=0) hlo (L:=U.length) (by omega) (fun j σ w'=>σ 3=.int .u32 0∧σ 5=vU∧σ 6=.int .i64 U.length∧σ 7=.int .i64 j∧j≤U.length∧Mod w w' zy∧∃ ps,Own w' w.heap.size 2 (σ 4) (A j).length ps.flatten∧TgsA wS (A j) ps) (fun j σ w h=>⟨h.2.2.2.1,h.2.2.1,h.2.2.2.2.1⟩) (fun j σ w b h=>?_) ⟨p3,p5,p6,p7,Nat.zero_le _,m1,[],by rw[hA0,p4]; exact .inl ⟨rfl,rfl,rfl⟩,by rw[hA0]; rfl⟩ (fun σ' w' h=>hK _ _ ?_) (fun j σ' w' hj h=>?_)
 ·obtain⟨x3,x5,x6,x7,xl,xm,ps,xo,xt⟩:=h
  exact⟨by rw[zg (by decide)]; exact x3,by rw[zg (by decide)]; exact x5,by rw[zg (by decide)]; exact x6,by rw[zg (by decide)]; exact x7,xl,xm,ps,by rw[zg (by decide)]; exact xo,xt⟩
 ·obtain⟨x3,x5,x6,x7,xl,xm,ps,xo,xt⟩:=h
  rw[hAn] at xo xt
  refine zd fun K3 hK3=>zi fun τ=>?_
  simp +decide only [bK,bE,BEq.rfl,Nat.reduceAdd]
  refine hK3 _ _ (zb fun σ7 hσ=>zbb ⟨.inr rfl,_,rfl,?_⟩)
  have q:=hσ 2
  simp +decide only [bE,BEq.rfl,Nat.reduceAdd] at q
  rw[q]
  exact⟨⟨_,xo,xt.us⟩,xm⟩
 ·obtain⟨x3,x5,x6,x7,xl,xm,ps,xo,xt⟩:=h
  obtain⟨bb,oo,cc,s,hvb,hs,hr⟩:=hU.get (List.getElem?_eq_getElem hj)
  have hr':=zad (mS.trans' xm) hr
  have hix:=fun {w:World}=>zcb (P:=P) (w:=w) S.tr.lg hT (bl:=bb) (o:=oo) (n:=U.length) (c:=cc) (i:=j) (k:=.i64) hj
  have hld:=hT.run_load (w:=w') (b:=bb) (o:=oo+j * 2) hr' rfl (fun h=>by cases h)
  have hlv:ldv (.struct fsT) [.int .u32 (U[j]).1,s]=.agg [.int .u32 (U[j]).1,s].toArray:=rfl
  rw[hlv] at hld
  obtain⟨w2,w3,hal,hst,_,m3,s3,r3,_⟩:=zuy (cs:=[.int .u32 (U[j]).1,s]) hT (by decide) rfl rfl (by
   intro c hc; simp at hc; rcases hc with rfl | rfl
   ·rfl
   ·exact hs.one) w'
  obtain⟨v4,hv4⟩:∃ v4,v4=σ' 4:=⟨_,rfl⟩
  rw[← hv4] at xo
  have xo3:=xo.stay m3 fun _ _ _ h=>h
  have h9n:zcl v4 w'.heap.size:=Classical.byContradiction fun h=>by have:=(xo.blk h).2; omega
  have xm3:=xm.trans' m3
  refine zd fun K4 hK4=>zi fun τ=>?_
  simp +decide only [bK,bE,Nat.reduceBeqDiff,BEq.rfl,Nat.reduceAdd,Nat.zero_add,x5,x7]
  rw[hvb]
  simp +decide only [bK,hix,hld,hal,hst]
  refine hK4 _ _ (zb fun σ4 hσ=>?_)
  have q3:=hσ 3
  have q4:=hσ 4
  have q5:=hσ 5
  have q6:=hσ 6
  have q7:=hσ 7
  have q9:=hσ 9
  simp +decide only [bE,Nat.reduceBeqDiff,BEq.rfl,Nat.reduceAdd,x3,← hv4,x5,x6,x7] at q3 q4 q5 q6 q7 q9
  clear hσ hK4 K4
  refine zd fun K4 hK4=>zao (hK4 _ _ ?_)
  clear hK4 K4
  obtain⟨σ5,hσ5⟩:∃ σ5,σ5=upd σ4 10 (.int .i64 0):=⟨_,rfl⟩
  have r3':σ5 3=.int .u32 0:=by rw[hσ5,zg (by decide)]; exact q3
  have r4:σ5 4=v4:=by rw[hσ5,zg (by decide)]; exact q4
  have r5:σ5 5=vU:=by rw[hσ5,zg (by decide)]; exact q5
  have r6:σ5 6=.int .i64 U.length:=by rw[hσ5,zg (by decide)]; exact q6
  have r7:σ5 7=.int .i64 j:=by rw[hσ5,zg (by decide)]; exact q7
  have r9:σ5 9=.pointer (some ⟨w'.heap.size,0,none⟩):=by rw[hσ5,zg (by decide)]; exact q9
  have r10:σ5 10=.int .i64 0:=by rw[hσ5,upd_same]
  rw[← hσ5]
  clear hσ5 q3 q4 q5 q6 q7 q9
  have hot:OwnT w3 w.heap.size v4 (A j):=⟨_,xo3,(xt.stay (mS.trans' xm3)).us⟩
  have hal:=hAl j
  refine zd fun K4 hK4=>W_find B S hlo r4 r9 r10 hot (r3 0 _ rfl) (by omega) fun σ6 w4 i hag6 h10 hi hlt hge m4=>hK4 _ _ ?_
  clear hK4 K4
  have xo4:=xo3.stay m4 fun _ _ _ h=>h
  have xm4:=xm3.trans' m4
  have g:∀ n,n≠10→n≠11→σ6 n=σ5 n:=hag6
  refine zd fun K4 hK4=>zd fun K5 hK5=>W_U2 B S ((g 3 (by decide) (by decide)).trans r3') ((g 4 (by decide) (by decide)).trans r4) ((g 9 (by decide) (by decide)).trans r9) h10 (hot.stay m4) (zad m4 r3 0 _ rfl) fun σ7 k12 hag7=>hK5 _ _ (W_if hlo k12 ?_)
  have md:Mod w4 w4.drew zy:=Mod.drew _ _
  have xo5:=xo4.stay md fun _ _ _ h=>h
  have xm5:=xm4.trans' md
  have g7:∀ n,n≠10→n≠11→n≠12→σ7 n=σ5 n:=fun n h1 h2 h3=>(hag7 n h3).trans (hag6 n h1 h2)
  have same:∀ y,(A j)[i]?=some y→y.1=(U[j]).1→A (j+1)=A j:=fun y hy e=>by rw[hAs j hj]; exact zzw hlt hy e
  have put:(∀ y,(A j)[i]?=some y→y.1≠(U[j]).1)→∀ {Q:Exit→Env→World→Prop},(∀ (σ':Env) (w':World),σ' 7=.int .i64 j→(σ' 3=.int .u32 0∧σ' 5=vU∧σ' 6=.int .i64 U.length∧Mod w w' zy∧∃ ps,Own w' w.heap.size 2 (σ' 4) (A (j+1)).length ps.flatten∧TgsA wS (A (j+1)) ps)→Q .normal σ' w')→W P loc N' (cPutT N) Q σ7 w4.drew:=by
   intro hne Q hQ
   have hnew:A (j+1)=(A j).take i++U[j] :: (A j).drop i:=by
    rw[hAs j hj]
    refine insT_new hi hlt fun y hy=>?_
    have h1:=hge y hy
    have h2:=hne y hy
    omega
   refine W_putT S hlo (w0:=w) (b9:=w'.heap.size) (x:=U[j]) (s:=s) ((g7 4 (by decide) (by decide) (by decide)).trans r4) ((g7 9 (by decide) (by decide) (by decide)).trans r9) ((hag7 10 (by decide)).trans h10) hi (by omega) xo5 xt xm5 (by have:=m4.size; show w'.heap.size < w4.heap.size; omega) (zad md (zad m4 r3)) hs h9n fun σ8 w8 ps' hag8 ho8 ht8 m8=>?_
   have g8:∀ n,n≠4→n≠13→n≠14→n≠10→n≠11→n≠12→σ8 n=σ5 n:=fun n a b c d e f=>(hag8 n a b c).trans (g7 n d e f)
   refine hQ σ8 w8 ((g8 7 (by decide) (by decide) (by decide) (by decide) (by decide) (by decide)).trans r7) ⟨(g8 3 (by decide) (by decide) (by decide) (by decide) (by decide) (by decide)).trans r3',(g8 5 (by decide) (by decide) (by decide) (by decide) (by decide) (by decide)).trans r5,(g8 6 (by decide) (by decide) (by decide) (by decide) (by decide) (by decide)).trans r6,m8,ps',?_,by rw[hnew]; exact ht8⟩
   rw[hnew]
   have:((A j).take i++U[j] :: (A j).drop i).length=(A j).length+1:=by simp; omega
   rw[this]; exact ho8
  have stay7:σ7 7=.int .i64 j:=(g7 7 (by decide) (by decide) (by decide)).trans r7
  cases hx:(A j)[i]? with
  | none=>
   simp only [Bool.false_eq_true,if_false]
   refine zbd (hK4 _ _ (put (fun y hy=>by rw[hx] at hy; cases hy) fun σ8 w8 h7 ⟨z3,z5,z6,zm,ps',zo,zt⟩=>⟨h7,?_,?_,?_,upd_same _ _ _,by omega,zm,ps',?_,zt⟩))
   all_goals (rw[zg (by decide)]; assumption)
  | some y=>
   by_cases e:y.1=(U[j]).1
   ·simp only [e,decide_true,if_true]
    refine zof ?_
    simp only [zfd]
    have hsm:=same y hx e
    refine⟨trivial,stay7,?_,?_,?_,upd_same _ _ _,by omega,xm5,ps,?_,by rw[hsm]; exact xt⟩
    ·rw[zg (by decide)]; exact(g7 3 (by decide) (by decide) (by decide)).trans r3'
    ·rw[zg (by decide)]; exact(g7 5 (by decide) (by decide) (by decide)).trans r5
    ·rw[zg (by decide)]; exact(g7 6 (by decide) (by decide) (by decide)).trans r6
    ·rw[zg (by decide),hsm,(g7 4 (by decide) (by decide) (by decide)).trans r4]; exact xo5
   ·simp only [e,decide_false,Bool.false_eq_true,if_false]
    refine zbd (hK4 _ _ (put (fun y' hy=>by rw[hx] at hy; injection hy with hy; subst hy; exact e) fun σ8 w8 h7 ⟨z3,z5,z6,zm,ps',zo,zt⟩=>⟨h7,?_,?_,?_,upd_same _ _ _,by omega,zm,ps',?_,zt⟩))
    all_goals (rw[zg (by decide)]; assumption)
theorem sp_unknown (B:Base P N) (S:SpT P N M) (hW:SW P N M) {w:World} {fv uv:Value} {fs:List Fld} {u:List (Nat × List UInt8)} (hf:zik w fv fs) (hl:fs.length < 4611686018427387904) (ht:∀ f∈fs,f.tag < 0) (hu:zkr w uv u) :
  Call P M.zix #[fv,uv] w fun r w'=>OwnT w' w.heap.size r (unkT u)∧Mod w w' zy:=
 (zabi B S hW (.refl w zy) hf hl ht hu).mono fun _ _ ⟨⟨cs,h1,h2⟩,h3⟩=>⟨⟨cs,h1,h2.stay h3⟩,h3⟩
end
theorem zsg (flex:Bool) (v:Int) (f:Fld) (t:Tr):∀ (l:List Fld) (i:Nat),zcm flex v (l++[f]) i t=zcm flex v l i t++(if f.has v then zeo flex v f (atT t (i+l.length)) else [])
 | [],i=>by simp [zcm]
 | g :: l,i=>by
  rw[List.cons_append,zcm,zcm,zsg flex v f t l (i+1),List.append_assoc,List.length_cons,show i+1+l.length=i+(l.length+1) by omega]
theorem znm (flex:Bool) (v:Int) (t:Tr) {fs:List Fld} {j:Nat} (hj:j < fs.length):zcm flex v (fs.take (j+1)) 0 t=zcm flex v (fs.take j) 0 t++(if fs[j].has v then zeo flex v fs[j] (atT t j) else []):=by
 rw[← List.take_append_getElem hj,zsg]
 simp [Nat.min_eq_left (Nat.le_of_lt hj)]
theorem znl (flex:Bool) (v:Int) (t:Tr) (fs:List Fld):∀ (n j:Nat),j+n=fs.length→(zcm flex v (fs.take j) 0 t).length≤(zcm flex v fs 0 t).length
 | 0,j,h=>by rw[List.take_of_length_le (by omega)]; exact Nat.le_refl _
 | n+1,j,h=>by
  have h1:=znl flex v t fs n (j+1) (by omega)
  rw[znm flex v t (show j < fs.length by omega),List.length_append] at h1
  omega
def OkF (P:Program) (M:zdd) (flex:Bool) (v:Int) (f:Fld):Prop:=f.tag < 0∧(f.kind=10→zsn P M flex v f.sub)∧(f.kind=11→f.of=10→zsn P M flex v f.sub)
section
variable {P:Program} {N:Nums} {M:zdd}
structure PSt (w1:World) (σ:Env) (w:World) (fv:Value) (v:Int) (flex:Bool) (b n j:Nat) (acc:List UInt8):Prop where
 h0:σ 0=fv
 h1:σ 1=.int .i64 v
 h2:σ 2=.bool flex
 h4:σ 4=.pointer (some ⟨b,0,none⟩)
 h6:OwnB w w1.heap.size (σ 6) acc
 h7:σ 7=.slice none 0 0
 h8:σ 8=.int .i64 0
 h9:σ 9=fv
 h10:σ 10=.int .i64 n
 h11:σ 11=.int .i64 j
 le:j≤n
 mod:Mod w1 w zy
theorem PSt.upd {w1 w:World} {σ:Env} {fv:Value} {v:Int} {flex:Bool} {b n j:Nat} {acc:List UInt8} (h:PSt w1 σ w fv v flex b n j acc) {i:Nat} (hi:12≤i) (x:Value):PSt w1 (upd σ i x) w fv v flex b n j acc:=by
 obtain⟨h0,h1,h2,h4,h6,h7,h8,h9,h10,h11,le,mod⟩:=h
 refine⟨?_,?_,?_,?_,?_,?_,?_,?_,?_,?_,le,mod⟩<;>(rw[zg (by omega)]; assumption)
theorem PSt.next {w1 w:World} {σ:Env} {fv:Value} {v:Int} {flex:Bool} {b n j:Nat} {acc:List UInt8} (h:PSt w1 σ w fv v flex b n j acc) (hj:j < n):PSt w1 (Go.Kf.upd σ 11 (.int .i64 ((j+1:Nat):Int))) w fv v flex b n (j+1) acc:=by
 obtain⟨h0,h1,h2,h4,h6,h7,h8,h9,h10,h11,le,mod⟩:=h
 refine⟨?_,?_,?_,?_,?_,?_,?_,?_,?_,upd_same _ _ _,hj,mod⟩<;>(rw[zg (by omega)]; assumption)
def dPart (N:Nums) (M:zdd):C:=.draw [
 ⟨some 0,.move (V 6),0,none,[]⟩,
 ⟨some 1,.load M.zn (V 13),0,none,[]⟩,
 ⟨some 2,.move (V 1),0,none,[]⟩,
 ⟨some 3,.move (V 2),0,none,[]⟩,
 ⟨some 4,.load N.zf (V 4),0,none,[]⟩,
 ⟨some 5,.move (V 14),0,none,[]⟩,
 ⟨some 6,.call ⟨.value (.func M.zib),#[T 4,T 5],#[N.zf,N.ze]⟩,N.zf,none,[4,5]⟩,
 ⟨some 7,.call ⟨.value (.func M.zjh),#[T 1,T 2,T 3,T 6],#[M.zn,N.ze,N.zay,N.zf]⟩,N.za,none,[1,2,3,6,6]⟩,
 ⟨some 8,.call ⟨.builtin .append,#[T 0,T 7],#[N.za,N.za]⟩,N.za,none,[0,7,7]⟩,
 ⟨some 106,.assign (T 8),0,none,[8,8,0,1,2,3,4,5,6,7,8]⟩]
theorem W_dPart (B:Base P N) (S:SpT P N M) (hW:SW P N M) {loc:List Nat} {N':Nat} {σ:Env} {w1 w:World} {fv:Value} {v:Int} {flex:Bool} {b b13 n j:Nat} {acc:List UInt8} {f:Fld} {t:Tr} {ct cf:List Value}
  (h:PSt w1 σ w fv v flex b n j acc) (hb:w1.rangeAt b 0 ct) (ht:RepA w1 t ct) (hwt:wfT t) (h13:σ 13=.pointer (some ⟨b13,0,none⟩)) (h14:σ 14=.int .i64 j) (hb13:w.rangeAt b13 0 cf) (hbl:b13 < w.heap.size) (hn13:zcl (σ 6) b13) (hf:RepF w f cf) (ok:OkF P M flex v f) (hbig:acc.length+(zeo flex v f (atT t j)).length < 549755813888) {Q:Exit→Env→World→Prop}
  (hQ:∀ (σ':Env) (w':World),PSt w1 σ' w' fv v flex b n j (acc++zeo flex v f (atT t j))→Q .normal σ' w') :
  W P loc N' (dPart N M) Q σ w:=by
 obtain⟨h0,h1,h2,h4,h6,h7,h8,h9,h10,h11,hle,m1w⟩:=h
 unfold dPart
 have cw:∀ {w':World},Mod w w' (fun i _=>¬ zcl (σ 6) i)→Mod w1 w' zy:=fun h=>Mod.ofOwn h6 m1w h
 refine zact B.mixed [true,true,true,true,true,true,false,false,false,false] (by kernel_rfl) (fun w'=>Mod w w' (fun i _=>¬ zcl (σ 6) i)) (Mod.drew _ _) fun τ=>?_
 refine zar (σ 6) (fun w' _=>by
  rw[zdb,ev_tmp]
  simp +decide only [bE,Nat.reduceAdd]) rfl ?_
 refine zar (.agg cf.toArray) (fun w' hw=>zdv (by
  simp +decide only [bE,Nat.reduceBeqDiff,Nat.reduceAdd,ev_tmp,h13]
  exact fld_load S (hw.rangeAt hbl (fun _ _ _ h=>h hn13) hb13) hf.len)) rfl ?_
 refine zar (.int .i64 v) (fun w' _=>by
  rw[zdb,ev_tmp]
  simp +decide only [bE,Nat.reduceBeqDiff,Nat.reduceAdd,h1]) rfl ?_
 refine zar (.bool flex) (fun w' _=>by
  rw[zdb,ev_tmp]
  simp +decide only [bE,Nat.reduceBeqDiff,Nat.reduceAdd,h2]) rfl ?_
 refine zar (.agg ct.toArray) (fun w' hw=>zdv (by
  simp +decide only [bE,Nat.reduceBeqDiff,Nat.reduceAdd,ev_tmp,h4]
  exact zga S.tr (zad (cw hw) hb) ht.len)) rfl ?_
 refine zar (.int .i64 j) (fun w' _=>by
  rw[zdb,ev_tmp]
  simp +decide only [bE,Nat.reduceBeqDiff,Nat.reduceAdd,h14]) rfl ?_
 simp only [zfv,zgv,List.zip_cons_cons,List.zip_nil_right,List.zipWith_cons_cons,List.zipWith_nil_right,List.filter,Bool.not_true,Bool.not_false,List.map,zid]
 have md:Mod w w.drew zy:=Mod.drew _ _
 have m1d:=m1w.trans' md
 rw[zah hW.at_.has]
 simp +decide only [bK,bE,Nat.reduceBeqDiff,BEq.rfl]
 refine(call_at B S hW.at_ (RepA.stay m1d _ ht) j).mono ?_
 rintro _ w2 ⟨ct',rfl,ht',m2⟩
 have mw2:Mod w w2 zy:=md.trans' m2
 refine⟨mw2.mono fun _ _ _ h=>h.elim,?_⟩
 rw[zgq hW.field.has]
 simp +decide only [bK,bE,Nat.reduceBeqDiff,BEq.rfl]
 refine(sp_field B S hW ok.2.2 ok.2.1 (RepF.stay mw2 _ hf) ht' (hwt.at j) (by omega)).mono ?_
 rintro r w3 ⟨ho3,m3⟩
 have mw3:Mod w w3 zy:=mw2.trans' m3
 refine⟨mw3.mono fun _ _ _ h=>h.elim,?_⟩
 obtain⟨v4,w4,hap,ho4,m4,_⟩:=zdq (ty:=N.za) B (h6.stay mw3 fun _ _ _ h=>h) (ho3.octA) (Nat.le_trans m1w.size mw3.size) (by omega)
 have m04:Mod w1 w4 zy:=Mod.ofOwn (h6.stay mw3 fun _ _ _ h=>h) (m1w.trans' mw3) m4
 simp +decide only [bK,hap]
 refine⟨(mw3.mono fun _ _ _ h=>h.elim).trans m4 fun k o hk h=>h.elim id id,?_⟩
 refine zb fun σ2 hσ=>hQ σ2 w4 ?_
 have b0:=hσ 0
 have b1:=hσ 1
 have b2:=hσ 2
 have b4:=hσ 4
 have b6:=hσ 6
 have b7:=hσ 7
 have b8:=hσ 8
 have b9:=hσ 9
 have b10:=hσ 10
 have b11:=hσ 11
 simp +decide only [bE,Nat.reduceBeqDiff,BEq.rfl,Nat.reduceAdd,Nat.zero_add,h0,h1,h2,h4,h7,h8,h9,h10,h11] at b0 b1 b2 b4 b6 b7 b8 b9 b10 b11
 exact⟨b0,b1,b2,b4,by rw[b6]; exact ho4,b7,b8,b9,b10,b11,hle,m04⟩
end
section
variable {P:Program} {N:Nums} {M:zdd}
def bPart (N:Nums) (M:zdd):C:=
 .seq (.ops [
  ⟨some 0,.move (V 11),0,none,[]⟩,
  ⟨some 1,.indexAddr M.zaz (V 9) (V 11),0,none,[]⟩,
  ⟨some 2,.load M.zn (T 1),0,none,[]⟩,
  ⟨some 113,.alloc M.zn,0,none,[]⟩,
  ⟨some 114,.assign (T 0),0,none,[]⟩,
  ⟨none,.store M.zn (V 13) (T 2),0,none,[]⟩])
 (.seq (.ops [
  ⟨some 0,.fieldAddr M.zn (V 13) 4,0,none,[]⟩,
  ⟨some 1,.load N.ze (T 0),0,none,[]⟩,
  ⟨some 2,.binOp .lss N.ze (T 1) (.const (.int .i64 0)) N.ze,0,none,[]⟩,
  ⟨some 3,.move (T 2),0,none,[]⟩,
  ⟨some 4,.load M.zn (V 13),0,some (some 3,true),[]⟩,
  ⟨some 5,.move (V 1),0,some (some 3,true),[]⟩,
  ⟨some 6,.call ⟨.value (.func M.zfx),#[T 4,T 5],#[M.zn,N.ze]⟩,N.zay,some (some 3,true),[]⟩,
  ⟨some 115,.pick (T 3) (T 6) (.const (.bool false)),0,none,[]⟩])
 (.cond 15 (dPart N M) .skip))
theorem W_fields (B:Base P N) (S:SpT P N M) (hW:SW P N M) {loc:List Nat} {N':Nat} (hlo:zei loc N') {σ:Env} {w1 w:World} {fv:Value} {v:Int} {flex:Bool} {b:Nat} {fs:List Fld} {t:Tr} {ct:List Value}
  (h:PSt w1 σ w fv v flex b fs.length 0 []) (hb:w1.rangeAt b 0 ct) (ht:RepA w1 t ct) (hwt:wfT t) (hf:zik w1 fv fs) (hl:fs.length < 4611686018427387904) (ok:∀ f∈fs,OkF P M flex v f) (hbig:(zcm flex v fs 0 t).length < 549755813888) {Q:Exit→Env→World→Prop}
  (hQ:∀ (σ':Env) (w':World),PSt w1 σ' w' fv v flex b fs.length fs.length (zcm flex v fs 0 t)→Q .normal σ' w') :
  W P loc N' (zqs N 11 10 12 0 (bPart N M)) Q σ w:=by
 refine zko (i:=11) (l:=10) (c:=12) (k:=0) hlo (L:=fs.length) hl (fun j σ w'=>PSt w1 σ w' fv v flex b fs.length j (zcm flex v (fs.take j) 0 t)) (fun j σ w h=>⟨h.h11,h.h10,h.le⟩) (fun j σ w b h=>h.upd (by decide) _) (by simpa [zcm] using h) (fun σ' w' h=>hQ σ' w' (by simpa using h)) (fun j σ' w' hj h=>?_)
 obtain⟨bb,oo,cc,cs,w2,w3,hv,hr,hix,hld,hal,hst,m03,s3,r3⟩:=fld_box S (hf.stay h.mod) hj
 have okj:=ok _ (List.getElem_mem hj)
 have hbj:(zcm flex v (fs.take (j+1)) 0 t).length < 549755813888:=Nat.lt_of_le_of_lt (znl flex v t fs (fs.length - (j+1)) (j+1) (by omega)) hbig
 rw[znm flex v t hj] at hbj
 have n13:zcl (σ' 6) w'.heap.size:=Classical.byContradiction fun hh=>by have:=(h.h6.blk hh).2; omega
 unfold bPart
 refine zd fun K hK=>zi fun τ=>?_
 simp +decide only [bK,bE,Nat.reduceBeqDiff,BEq.rfl,Nat.reduceAdd,Nat.zero_add,h.h9,h.h11,hix,hld,hal,hst]
 refine hK _ _ (zb fun σ3 hσ=>?_)
 have p0:=hσ 0
 have p1:=hσ 1
 have p2:=hσ 2
 have p4:=hσ 4
 have p6:=hσ 6
 have p7:=hσ 7
 have p8:=hσ 8
 have p9:=hσ 9
 have p10:=hσ 10
 have p11:=hσ 11
 have p13:=hσ 13
 have p14:=hσ 14
 simp +decide only [bE,Nat.reduceBeqDiff,BEq.rfl,Nat.reduceAdd,Nat.zero_add,h.h0,h.h1,h.h2,h.h4,h.h7,h.h8,h.h9,h.h10,h.h11] at p0 p1 p2 p4 p6 p7 p8 p9 p10 p11 p13 p14
 have q:PSt w1 σ3 w3 fv v flex b fs.length j (zcm flex v (fs.take j) 0 t):=⟨p0,p1,p2,p4,by rw[p6]; exact h.h6.stay m03 fun _ _ _ h=>h,p7,p8,p9,p10,p11,h.le,h.mod.trans' m03⟩
 have n13':zcl (σ3 6) w'.heap.size:=by rw[p6]; exact n13
 clear hσ hK K n13
 have hr3:=RepF.stay m03 _ hr
 obtain⟨gv,hcs,hgv⟩:=hr3.out
 have h4c:w3.cell? ⟨w'.heap.size,4,none⟩=some (.int .i64 (fs[j]).tag):=r3 4 _ (by rw[hcs]; rfl)
 have hneg:(fs[j]).tag < 0:=okj.1
 refine zd fun K hK=>zi fun τ=>?_
 simp +decide only [bK,bE,Nat.reduceBeqDiff,decide_true,BEq.rfl,Nat.reduceAdd,Nat.zero_add,p13,p1,S.f4.run,B.int.run_load1 rfl,h4c,hneg,zap,fld_load S r3 hr.len]
 rw[zah hW.Field_has.has]
 simp +decide only [bK,bE,Nat.reduceBeqDiff,BEq.rfl]
 refine(call_has B S hW.Field_has hr3 v).mono ?_
 rintro _ w4 ⟨rfl,m4⟩
 refine hK _ _ (zb fun σ4 hσ=>?_)
 have k0:=hσ 0
 have k1:=hσ 1
 have k2:=hσ 2
 have k4:=hσ 4
 have k6:=hσ 6
 have k7:=hσ 7
 have k8:=hσ 8
 have k9:=hσ 9
 have k10:=hσ 10
 have k11:=hσ 11
 have k13:=hσ 13
 have k14:=hσ 14
 have k15:=hσ 15
 simp +decide only [bE,Nat.reduceBeqDiff,BEq.rfl,Nat.reduceAdd,Nat.zero_add,p0,p1,p2,p4,p7,p8,p9,p10,p11,p13,p14] at k0 k1 k2 k4 k6 k7 k8 k9 k10 k11 k13 k14 k15
 have q4:PSt w1 σ4 w4 fv v flex b fs.length j (zcm flex v (fs.take j) 0 t):=⟨k0,k1,k2,k4,by rw[k6]; exact q.h6.stay m4 fun _ _ _ h=>h,k7,k8,k9,k10,k11,h.le,q.mod.trans' m4⟩
 have n13:zcl (σ4 6) w'.heap.size:=by rw[k6]; exact n13'
 have hb13:w4.rangeAt w'.heap.size 0 cs:=zad m4 r3
 have hlt:w'.heap.size < w4.heap.size:=by have:=m4.size; omega
 clear hσ hK K
 refine W_if hlo k15 ?_
 have hnext:∀ {σ5:Env} {w5:World},PSt w1 σ5 w5 fv v flex b fs.length j (zcm flex v (fs.take j) 0 t++(if fs[j].has v then zeo flex v fs[j] (atT t j) else []))→σ5 11=.int .i64 j∧PSt w1 (upd σ5 11 (.int .i64 ((j+1:Nat):Int))) w5 fv v flex b fs.length (j+1) (zcm flex v (fs.take (j+1)) 0 t):=fun h5=>⟨h5.h11,by rw[znm flex v t hj]; exact h5.next hj⟩
 cases hh:fs[j].has v with
 | false=>
  simp only [Bool.false_eq_true,if_false]
  refine zbd (hnext ?_)
  rw[hh]; simpa using q4
 | true=>
  rw[hh] at hbj
  simp only [if_true] at hbj ⊢
  rw[List.length_append] at hbj
  refine W_dPart B S hW q4 hb ht hwt k13 k14 hb13 hlt n13 (RepF.stay m4 _ hr3) okj hbj fun σ5 w5 h5=>hnext ?_
  rw[hh]; simpa using h5
end
theorem zxp {k:Nat} {x:List UInt8}:∀ {a:List (Nat × List UInt8)} {y:Nat × List UInt8},y∈insT k x a→y=(k,x)∨y∈a
 | [],y,h=>by simp [insT] at h; exact .inl h
 | (k',l) :: a,y,h=>by
  rw[insT] at h
  split at h
  ·rcases List.mem_cons.1 h with rfl | h
   ·exact .inr (by simp)
   ·exact(zxp h).imp id fun h=>List.mem_cons_of_mem _ h
  ·split at h
   ·exact .inr h
   ·rcases List.mem_cons.1 h with rfl | h
    ·exact .inl rfl
    ·exact .inr h
theorem fold_mem:∀ (u a:List (Nat × List UInt8)) (y:Nat × List UInt8),y∈u.foldl (fun a x=>insT x.1 x.2 a) a→y∈u∨y∈a
 | [],a,y,h=>.inr h
 | x :: u,a,y,h=>by
  rcases fold_mem u _ y h with h | h
  ·exact .inl (List.mem_cons_of_mem _ h)
  ·rcases zxp h with rfl | h
   ·exact .inl (by simp)
   ·exact .inr h
theorem zwx {u:List (Nat × List UInt8)} {y:Nat × List UInt8} (h:y∈unkT u):y∈u:=by
 rcases fold_mem _ _ _ h with h | h
 ·exact List.mem_of_mem_take h
 ·cases h
theorem zsv (u:List (Nat × List UInt8)):(unkT u).length≤32767:=by
 have:=zxq (u.take most) []
 simp only [List.length_nil,List.length_take] at this
 unfold unkT
 have:most=32767:=rfl
 omega
theorem OwnT.tagsA {w:World} {lo:Nat} {v:Value} {a:List (Nat × List UInt8)} (h:OwnT w lo v a):zkr w v a:=by
 obtain⟨cs,ho,hu⟩:=h
 rcases ho with⟨rfl,e,_⟩ | ⟨b,c,e,_,_,h1,_,hr,_⟩
 ·exact .inl ⟨_,_,rfl,List.length_eq_zero_iff.1 e⟩
 ·exact .inr ⟨b,0,c,cs,e,h1,hu,hr⟩
section
variable {P:Program} {N:Nums} {M:zdd}
structure TSt (w2:World) (v6:Value) (vu:Value) (σ:Env) (w:World) (n j:Nat) (acc:List UInt8):Prop where
 h6:σ 6=v6
 h7:OwnB w w2.heap.size (σ 7) acc
 h8:σ 8=.int .i64 j
 h29:σ 29=vu
 h30:σ 30=.int .i64 n
 h31:σ 31=.int .i64 j
 le:j≤n
 mod:Mod w2 w zy
theorem TSt.upd {w2 w:World} {v6 vu:Value} {σ:Env} {n j:Nat} {acc:List UInt8} (h:TSt w2 v6 vu σ w n j acc) {i:Nat} (hi:32≤i) (x:Value):TSt w2 v6 vu (upd σ i x) w n j acc:=by
 obtain⟨h6,h7,h8,h29,h30,h31,le,mod⟩:=h
 refine⟨?_,?_,?_,?_,?_,?_,le,mod⟩<;>(rw[zg (by omega)]; assumption)
def bTags (N:Nums) (M:zdd):C:=
 .seq (.ops [
  ⟨some 0,.indexAddr N.zp (V 29) (V 31),0,none,[]⟩,
  ⟨some 1,.load N.zal (T 0),0,none,[]⟩,
  ⟨some 133,.alloc N.zal,0,none,[]⟩,
  ⟨none,.store N.zal (V 33) (T 1),0,none,[]⟩])
 (.seq (.ops [
  ⟨some 0,.fieldAddr N.zal (V 33) 1,0,none,[]⟩,
  ⟨some 1,.load N.za (T 0),0,none,[]⟩,
  ⟨some 2,.call ⟨.value (.func M.zfm),#[T 1],#[N.za]⟩,N.za,none,[]⟩,
  ⟨some 134,.assign (T 2),0,none,[]⟩])
 (.seq (.ops [
  ⟨some 0,.move (V 7),0,none,[]⟩,
  ⟨some 1,.fieldAddr N.zal (V 33) 0,0,none,[]⟩,
  ⟨some 2,.load N.zc (T 1),0,none,[]⟩,
  ⟨some 3,.convert N.zc N.zaj (T 2),0,none,[]⟩,
  ⟨some 4,.call ⟨.value (.func M.zdh),#[T 3],#[N.zaj]⟩,N.za,none,[]⟩,
  ⟨some 5,.call ⟨.builtin .append,#[T 0,T 4],#[N.za,N.za]⟩,N.za,none,[]⟩,
  ⟨some 6,.move (V 34),0,none,[]⟩,
  ⟨some 7,.call ⟨.builtin .len,#[T 6],#[N.za]⟩,N.ze,none,[]⟩,
  ⟨some 8,.convert N.ze N.zaj (T 7),0,none,[]⟩,
  ⟨some 9,.call ⟨.value (.func M.zdh),#[T 8],#[N.zaj]⟩,N.za,none,[]⟩,
  ⟨some 10,.call ⟨.builtin .append,#[T 5,T 9],#[N.za,N.za]⟩,N.za,none,[]⟩,
  ⟨some 11,.move (V 34),0,none,[]⟩,
  ⟨some 12,.call ⟨.builtin .append,#[T 10,T 11],#[N.za,N.za]⟩,N.za,none,[]⟩,
  ⟨some 107,.assign (T 12),0,none,[]⟩])
 (.ops [
  ⟨some 0,.move (V 8),0,none,[]⟩,
  ⟨some 1,.binOp .add N.ze (T 0) (.const (.int .i64 1)) N.ze,0,none,[]⟩,
  ⟨some 108,.assign (T 1),0,none,[]⟩])))
theorem W_tag (B:Base P N) (S:SpT P N M) (hW:SW P N M) {loc:List Nat} {N':Nat} {σ:Env} {w2 w:World} {v6 vu:Value} {u:List (Nat × List UInt8)} {j:Nat} {acc:List UInt8} (hU:zkr w2 vu u) (hj:j < u.length) (hk:(u[j]).1 < 4294967296) (hul:u.length < 4611686018427387904)
  (h:TSt w2 v6 vu σ w u.length j acc) (hbig:acc.length < 549755813888) {Q:Exit→Env→World→Prop}
  (hQ:∀ (σ':Env) (w':World),σ' 31=.int .i64 j→TSt w2 v6 vu (Go.Kf.upd σ' 31 (.int .i64 ((j+1:Nat):Int))) w' u.length (j+1) (acc++tagB u[j])→Q .normal σ' w') :
  W P loc N' (bTags N M) Q σ w:=by
 obtain⟨fsT,hT⟩:=S.tr.tu
 obtain⟨bb,oo,cc,s,hvb,hs,hr⟩:=hU.get (List.getElem?_eq_getElem hj)
 obtain⟨key,hkey⟩:∃ key,key=(u[j]).1:=⟨_,rfl⟩
 rw[← hkey] at hr hk
 have hr':=zad h.mod hr
 have hix:=fun {w:World}=>zcb (P:=P) (w:=w) S.tr.lg hT (bl:=bb) (o:=oo) (n:=u.length) (c:=cc) (i:=j) (k:=.i64) hj
 have hld:=hT.run_load (w:=w) (b:=bb) (o:=oo+j * 2) hr' rfl (fun h=>by cases h)
 have hlv:ldv (.struct fsT) [.int .u32 key,s]=.agg [.int .u32 key,s].toArray:=rfl
 rw[hlv] at hld
 obtain⟨wa,wb,hal,hst,_,mb,sb,rb,_⟩:=zuy (cs:=[.int .u32 key,s]) hT (by decide) rfl rfl (by
  intro c hc; simp at hc; rcases hc with rfl | rfl
  ·rfl
  ·exact hs.one) w
 unfold bTags
 refine zd fun K hK=>zi fun τ=>?_
 simp +decide only [bK,bE,Nat.reduceBeqDiff,BEq.rfl,Nat.reduceAdd,h.h29,h.h31]
 rw[hvb]
 simp +decide only [bK,hix,hld,hal,hst]
 refine hK _ _ (zb fun σ1 hσ=>?_)
 have a6:=hσ 6
 have a7:=hσ 7
 have a8:=hσ 8
 have a29:=hσ 29
 have a30:=hσ 30
 have a31:=hσ 31
 have a33:=hσ 33
 simp +decide only [bE,Nat.reduceBeqDiff,BEq.rfl,Nat.reduceAdd,h.h6,h.h8,h.h29,h.h30,h.h31] at a6 a7 a8 a29 a30 a31 a33
 clear hσ hK K
 have o7:OwnB wb w2.heap.size (σ1 7) acc:=by rw[a7]; exact h.h7.stay mb fun _ _ _ h=>h
 have m2b:=h.mod.trans' mb
 have c0:wb.cell? ⟨w.heap.size,0,none⟩=some (.int .u32 key):=rb 0 _ rfl
 have c1:wb.cell? ⟨w.heap.size,1,none⟩=some s:=rb 1 _ rfl
 have n33:zcl (σ1 7) w.heap.size:=by rw[a7]; exact Classical.byContradiction fun hh=>by have:=(h.h7.blk hh).2; omega
 have hlt33:w.heap.size < wb.heap.size:=by omega
 obtain⟨b33,hb33⟩:∃ b,b=w.heap.size:=⟨_,rfl⟩
 rw[← hb33] at a33 c0 c1 n33 hlt33
 clear h hix hld hlv hal hst
 refine zd fun K hK=>zi fun τ=>?_
 simp +decide only [bK,bE,BEq.rfl,Nat.reduceAdd,Nat.zero_add,a33,S.tr.g1.run,B.Lu8.run_load1 rfl,c1]
 rw[zan hW.whole.has]
 simp +decide only [bK,bE,BEq.rfl]
 refine(zwp B hW.whole hs).mono ?_
 rintro x _ ⟨rfl,hx⟩
 refine hK _ _ (zb fun σ2 hσ=>?_)
 have b6:=hσ 6
 have b7:=hσ 7
 have b8:=hσ 8
 have b29:=hσ 29
 have b30:=hσ 30
 have b31:=hσ 31
 have b33':=hσ 33
 have b34:=hσ 34
 simp +decide only [bE,Nat.reduceBeqDiff,BEq.rfl,Nat.reduceAdd,a6,a8,a29,a30,a31,a33] at b6 b7 b8 b29 b30 b31 b33' b34
 clear hσ hK K
 rw[← b7] at o7 n33
 have hwl:(zbv (u[j]).2).length≤32767:=by simp [zbv,most]; omega
 refine zd fun K hK=>zi fun τ=>?_
 have hc1:=fun {w:World}=>zat (P:=P) (w:=w) (k':=.u32) B.uint32 B.uint64 (n:=key) ⟨_,rfl⟩
 have hc2:=fun {w:World}=>zat (P:=P) (w:=w) (k':=.i64) B.int B.uint64 (n:=(zbv (u[j]).2).length) ⟨_,rfl⟩
 simp +decide only [bK,bE,Nat.reduceBeqDiff,BEq.rfl,Nat.reduceAdd,Nat.add_zero,b33',S.tr.g0.run,B.uint32.run_load1 rfl,c0,hc1]
 rw[zfi key (by omega),zan hW.Uvarint.has]
 simp +decide only [bK,bE,Nat.reduceBeqDiff,BEq.rfl]
 refine(zoh B hW.Uvarint wb key (by omega)).mono ?_
 rintro r3 w3 ⟨ho3,m3⟩
 have hs3:w2.heap.size≤w3.heap.size:=Nat.le_trans m2b.size m3.size
 have hu3:(uvB key).length≤10:=zkb (by omega)
 have o73:=o7.stay m3 fun _ _ _ h=>h
 obtain⟨v4,w4,hap4,ho4,m4,_⟩:=zdq (ty:=N.za) B o73 ho3.octA hs3 (by omega)
 have m24:Mod w2 w4 zy:=Mod.ofOwn o73 (m2b.trans' m3) m4
 simp +decide only [bK,hap4,b34,hx.run_len B,hc2]
 rw[zfi _ (by omega),zan hW.Uvarint.has]
 simp +decide only [bK,bE,Nat.reduceBeqDiff,BEq.rfl]
 refine(zoh B hW.Uvarint w4 _ (by omega)).mono ?_
 rintro r5 w5 ⟨ho5,m5⟩
 have hs5:w2.heap.size≤w5.heap.size:=Nat.le_trans m24.size m5.size
 have hu5:(uvB (zbv (u[j]).2).length).length≤10:=zkb (by omega)
 have o75:=ho4.stay m5 fun _ _ _ h=>h
 obtain⟨v6',w6,hap6,ho6,m6,_⟩:=zdq (ty:=N.za) B o75 ho5.octA hs5 (by simp only [List.length_append]; omega)
 have m26:Mod w2 w6 zy:=Mod.ofOwn o75 (m24.trans' m5) m6
 simp +decide only [bK,hap6,b34]
 have hs6:w2.heap.size≤w6.heap.size:=m26.size
 have hx6:OctA w6 x (zbv (u[j]).2):=hx.stay m26
 obtain⟨v7,w7,hap7,ho7,m7,_⟩:=zdq (ty:=N.za) B ho6 hx6 hs6 (by simp only [List.length_append]; omega)
 have m27:Mod w2 w7 zy:=Mod.ofOwn ho6 m26 m7
 simp +decide only [bK,hap7]
 refine hK _ _ (zb fun σ3 hσ=>?_)
 have d6:=hσ 6
 have d7:=hσ 7
 have d8:=hσ 8
 have d29:=hσ 29
 have d30:=hσ 30
 have d31:=hσ 31
 simp +decide only [bE,Nat.reduceBeqDiff,BEq.rfl,Nat.reduceAdd,b6,b8,b29,b30,b31] at d6 d7 d8 d29 d30 d31
 clear hσ hK K
 have hadd:IntKind.i64.wrap ((j:Int)+1)=((j+1:Nat):Int):=by
  rw[show ((j:Int)+1)=((j+1:Nat):Int) by omega]
  exact wrap_i64 (by omega) (by omega)
 refine zi fun τ=>?_
 simp +decide only [bK,bE,BEq.rfl,Nat.reduceAdd,d8,hadd]
 refine zb fun σ4 hσ=>hQ σ4 w7 ?_ ?_
 ·have:=hσ 31; simp +decide only [bE,Nat.reduceBeqDiff,Nat.reduceAdd,d31] at this; exact this
 ·have e6:=hσ 6
  have e7:=hσ 7
  have e8:=hσ 8
  have e29:=hσ 29
  have e30:=hσ 30
  simp +decide only [bE,Nat.reduceBeqDiff,BEq.rfl,Nat.reduceAdd,d6,d7,d29,d30] at e6 e7 e8 e29 e30
  refine⟨?_,?_,?_,?_,?_,upd_same _ _ _,hj,m27⟩
  ·rw[zg (by decide)]; exact e6
  ·rw[zg (by decide),e7]
   have:tagB u[j]=uvB key++(uvB (zbv (u[j]).2).length++zbv (u[j]).2):=by rw[hkey]; rfl
   rw[this,← List.append_assoc,← List.append_assoc]
   exact ho7
  ·rw[zg (by decide)]; exact e8
  ·rw[zg (by decide)]; exact e29
  ·rw[zg (by decide)]; exact e30
end
section
variable {P:Program} {N:Nums} {M:zdd}
theorem W_tags (B:Base P N) (S:SpT P N M) (hW:SW P N M) {loc:List Nat} {N':Nat} (hlo:zei loc N') {σ:Env} {w2 w:World} {v6 vu:Value} {u:List (Nat × List UInt8)} (hU:zkr w2 vu u) (hk:∀ x∈u,x.1 < 4294967296) (hul:u.length < 4611686018427387904)
  (h:TSt w2 v6 vu σ w u.length 0 []) (hbig:(u.flatMap tagB).length < 549755813888) {Q:Exit→Env→World→Prop}
  (hQ:∀ (σ':Env) (w':World),TSt w2 v6 vu σ' w' u.length u.length (u.flatMap tagB)→Q .normal σ' w') :
  W P loc N' (zqs N 31 30 32 6 (bTags N M)) Q σ w:=by
 refine zko (i:=31) (l:=30) (c:=32) (k:=6) hlo (L:=u.length) hul (fun j σ w'=>TSt w2 v6 vu σ w' u.length j ((u.take j).flatMap tagB)) (fun j σ w h=>⟨h.h31,h.h30,h.le⟩) (fun j σ w b h=>h.upd (by decide) _) (by simpa using h) (fun σ' w' h=>hQ σ' w' (by simpa using h)) (fun j σ' w' hj h=>?_)
 refine W_tag B S hW hU hj (hk _ (List.getElem_mem hj)) hul h (Nat.lt_of_le_of_lt (zkh tagB u j) hbig) fun σ5 w5 h1 h5=>⟨h1,?_⟩
 rw[ziv tagB hj]
 exact h5
theorem sp_part (B:Base P N) (S:SpT P N M) (hW:SW P N M) {flex:Bool} {v:Int} {fs:List Fld} (hl:fs.length < 4611686018427387904) (ok:∀ f∈fs,OkF P M flex v f):zsn P M flex v fs:=by
 intro w fv t cs hf ht hwf hbig
 unfold zci endB at hbig
 rw[List.length_append] at hbig
 refine hW.part.call rfl fun loc N' hlo=>?_
 unfold zuq
 refine zd fun K hK=>zi fun τ=>?_
 simp +decide only [bK,bE,Nat.reduceAdd]
 obtain⟨w1,hw1⟩:∃ w1,w1=w.alloc (.cells (Value.agg cs.toArray).cells N.zf):=⟨_,rfl⟩
 have m1:Mod w w1 zy:=by rw[hw1]; exact Mod.alloc _ _ _
 have hb:w1.rangeAt w.heap.size 0 cs:=by
  rw[hw1]; exact zr w _ _ _
 have hs1:w1.heap.size=w.heap.size+1:=by rw[hw1]; exact zav _ _
 rw[← hw1]
 clear hw1
 refine hK _ _ (zb fun σ1 hσ=>?_)
 have a0:=hσ 0
 have a1:=hσ 1
 have a2:=hσ 2
 have a4:=hσ 4
 simp +decide only [bE,Nat.reduceBeqDiff,BEq.rfl,Nat.reduceAdd,Nat.zero_add,zqv,zoc,zmb] at a0 a1 a2 a4
 clear hσ hK K
 refine zd fun K hK=>zi fun τ=>?_
 simp +decide only [bK,Nat.reduceAdd]
 refine hK _ _ (zb fun σ2 hσ=>?_)
 have b0:=hσ 0
 have b1:=hσ 1
 have b2:=hσ 2
 have b4:=hσ 4
 have b6:=hσ 6
 have b7:=hσ 7
 simp +decide only [bE,Nat.reduceBeqDiff,BEq.rfl,Nat.reduceAdd,Nat.zero_add,a0,a1,a2,a4] at b0 b1 b2 b4 b6 b7
 clear hσ hK K
 refine zd fun K hK=>zi fun τ=>?_
 simp +decide only [bK,Nat.reduceAdd]
 refine hK _ _ (zb fun σ3 hσ=>?_)
 have c0:=hσ 0
 have c1:=hσ 1
 have c2:=hσ 2
 have c4:=hσ 4
 have c6:=hσ 6
 have c7:=hσ 7
 have c8:=hσ 8
 simp +decide only [bE,Nat.reduceBeqDiff,BEq.rfl,Nat.reduceAdd,Nat.zero_add,b0,b1,b2,b4,b6,b7] at c0 c1 c2 c4 c6 c7 c8
 clear hσ hK K
 have hf1:=hf.stay m1
 have ht1:=RepA.stay m1 _ ht
 refine zd fun K hK=>zd fun K1 hK1=>zi fun τ=>?_
 simp +decide only [bK,bE,BEq.rfl,Nat.reduceAdd,Nat.zero_add,c0,hf.run_len S]
 refine hK1 _ _ (zb fun σ4 hσ=>?_)
 have d0:=hσ 0
 have d1:=hσ 1
 have d2:=hσ 2
 have d4:=hσ 4
 have d6:=hσ 6
 have d7:=hσ 7
 have d8:=hσ 8
 have d9:=hσ 9
 have d10:=hσ 10
 have d11:=hσ 11
 simp +decide only [bE,Nat.reduceBeqDiff,BEq.rfl,Nat.reduceAdd,Nat.zero_add,c0,c1,c2,c4,c6,c7,c8] at d0 d1 d2 d4 d6 d7 d8 d9 d10 d11
 clear hσ hK1 K1
 refine W_fields B S hW hlo ⟨d0,d1,d2,d4,by rw[d6]; exact zmk,d7,d8,d9,d10,d11,Nat.zero_le _,.refl _ _⟩ hb ht1 hwf hf1 hl ok (by omega) fun σ5 w5 st=>hK _ _ ?_
 clear hK K d0 d1 d2 d4 d6 d7 d8 d9 d10 d11 c0 c1 c2 c4 c6 c7 c8 b0 b1 b2 b4 b6 b7 a0 a1 a2 a4
 refine zd fun K hK=>zd fun K1 hK1=>zi fun τ=>?_
 simp +decide only [bK,bE,BEq.rfl,Nat.reduceAdd,st.h2]
 refine hK1 _ _ (zb fun σ6 hσ=>?_)
 have a0:=hσ 0
 have a4:=hσ 4
 have a6:=hσ 6
 have a7:=hσ 7
 have a8:=hσ 8
 have a16:=hσ 16
 simp +decide only [bE,Nat.reduceBeqDiff,BEq.rfl,Nat.reduceAdd,Nat.zero_add,st.h0,st.h4,st.h7,st.h8] at a0 a4 a6 a7 a8 a16
 clear hσ hK1 K1
 refine W_if hlo a16 ?_
 cases flex with
 | false=>
  simp only [Bool.not_false,if_true]
  refine zd fun K1 hK1=>zi fun τ=>?_
  simp +decide only [bK,bE,BEq.rfl,Nat.reduceAdd]
  refine hK1 _ _ (zb fun σ7 hσ=>zbb ⟨.inr rfl,_,rfl,?_⟩)
  have q:=hσ 5
  simp +decide only [bE,BEq.rfl,Nat.reduceAdd] at q
  rw[q,a6]
  unfold zci endB
  simp only [Bool.false_eq_true,if_false,List.append_nil]
  exact⟨st.h6.mono_lo (by omega),m1.trans' st.mod⟩
 | true=>
  simp only [Bool.not_true,Bool.false_eq_true,if_false]
  refine zbd (hK _ _ ?_)
  clear hK K a16
  simp only [if_true] at hbig
  rw[List.length_append] at hbig
  have h6:=st.h6
  rw[← a6] at h6
  refine zd fun K hK=>zd fun K1 hK1=>zi fun τ=>?_
  simp +decide only [bK,bE,Nat.reduceAdd,Nat.zero_add,a0]
  rw[zan hW.known.has]
  simp +decide only [bK,bE,BEq.rfl]
  refine(sp_known B S hW.known (hf1.stay st.mod) hl fun f hf=>(ok f hf).1).mono ?_
  rintro _ w6 ⟨rfl,m6⟩
  have hcv:=fun {w:World}=>zat (P:=P) (w:=w) (k':=.u32) B.uint32 B.int (n:=0) ⟨_,rfl⟩
  have hw0:IntKind.i64.wrap 0=0:=by decide
  simp +decide only [bK,hcv,hw0]
  refine hK1 _ _ (zb fun σ7 hσ=>?_)
  have b0:=hσ 0
  have b4:=hσ 4
  have b6:=hσ 6
  have b7:=hσ 7
  have b8:=hσ 8
  have b17:=hσ 17
  have b18:=hσ 18
  simp +decide only [bE,Nat.reduceBeqDiff,BEq.rfl,Nat.reduceAdd,Nat.zero_add,a0,a4,a7,a8] at b0 b4 b6 b7 b8 b17 b18
  clear hσ hK1 K1
  obtain⟨v6,hv6⟩:∃ v6,v6=σ6 6:=⟨_,rfl⟩
  rw[← hv6] at h6 b6
  refine zko (i:=18) (l:=17) (c:=19) (k:=2) hlo (L:=0) (by omega) (fun j σ w'=>σ 0=fv∧σ 4=.pointer (some ⟨w.heap.size,0,none⟩)∧σ 6=v6∧σ 7=.slice none 0 0∧σ 8=.int .i64 0∧σ 17=.int .i64 0∧σ 18=.int .i64 j∧j≤0∧w'=w6) (fun j σ w h=>⟨h.2.2.2.2.2.2.1,h.2.2.2.2.2.1,h.2.2.2.2.2.2.2.1⟩) (fun j σ w b h=>?_) ⟨b0,b4,b6,b7,b8,b17,b18,Nat.le_refl _,rfl⟩ (fun σ8 w8 h=>hK _ _ ?_) (fun j σ' w' hj h=>absurd hj (by omega))
  ·obtain⟨x0,x4,x6,x7,x8,x17,x18,xl,rfl⟩:=h
   refine⟨?_,?_,?_,?_,?_,?_,?_,xl,rfl⟩<;>(rw[zg (by decide)]; assumption)
  obtain⟨x0,x4,x6,x7,x8,_,_,_,rfl⟩:=h
  clear hK K b0 b4 b6 b7 b8 b17 b18 a0 a4 a6 a7 a8 hv6
  have m18:Mod w1 w8 zy:=st.mod.trans' m6
  have h68:=h6.stay m6 fun _ _ _ h=>h
  have hb8:=zad m18 hb
  obtain⟨vs,vl,vu,hcs,_,_,htu⟩:=ht1.out
  have hc4:w8.cell? ⟨w.heap.size,4,none⟩=some vu:=hb8 4 _ (by rw[hcs]; rfl)
  refine zd fun K hK=>zd fun K1 hK1=>zi fun τ=>?_
  simp +decide only [bK,bE,Nat.reduceBeqDiff,BEq.rfl,Nat.reduceAdd,Nat.zero_add,x0,x4,S.tr.h4.run,S.tr.lg.run_load1 rfl,hc4]
  rw[zah hW.unknown.has]
  simp +decide only [bK,bE,Nat.reduceBeqDiff,BEq.rfl]
  refine(sp_unknown B S hW (hf1.stay m18) hl (fun f hf=>(ok f hf).1) (htu.stay m18)).mono ?_
  rintro r w9 ⟨hr,m9⟩
  simp +decide only [bK,hr.run_len S]
  refine hK1 _ _ (zb fun σ9 hσ=>?_)
  have e6:=hσ 6
  have e7:=hσ 7
  have e8:=hσ 8
  have e29:=hσ 29
  have e30:=hσ 30
  have e31:=hσ 31
  simp +decide only [bE,Nat.reduceBeqDiff,BEq.rfl,Nat.reduceAdd,x6,x7,x8] at e6 e7 e8 e29 e30 e31
  clear hσ hK1 K1
  have hul:=zsv t.u
  refine W_tags B S hW hlo (w2:=w9) (v6:=v6) (vu:=r) (u:=unkT t.u) hr.tagsA (fun x hx=>hwf.u x (zwx hx)) (by omega) ⟨e6,by rw[e7]; exact zmk,e8,e29,e30,e31,Nat.zero_le _,.refl _ _⟩ (by omega) fun σ10 w10 tt=>hK _ _ ?_
  clear hK K
  have m19:=m18.trans' m9
  have h610:=(h68.stay m9 fun _ _ _ h=>h).stay tt.mod fun _ _ _ h=>h
  have m110:=m19.trans' tt.mod
  have hcv:=fun {w:World}=>zat (P:=P) (w:=w) (k':=.i64) B.int B.uint64 (n:=(unkT t.u).length) ⟨_,rfl⟩
  refine zd fun K hK=>zi fun τ=>?_
  simp +decide only [bK,bE,Nat.reduceBeqDiff,BEq.rfl,Nat.reduceAdd,tt.h6,tt.h8,hcv]
  rw[zfi _ (by omega),zan hW.Uvarint.has]
  simp +decide only [bK,bE,Nat.reduceBeqDiff,BEq.rfl]
  refine(zoh B hW.Uvarint w10 _ (by omega)).mono ?_
  rintro r3 w11 ⟨ho3,m11⟩
  have hu3:(uvB (unkT t.u).length).length≤10:=zkb (by omega)
  have h611:=h610.stay m11 fun _ _ _ h=>h
  have m111:=m110.trans' m11
  obtain⟨v4,w12,hap4,ho4,m12,_⟩:=zdq (ty:=N.za) B h611 ho3.octA m111.size (by omega)
  have m112:Mod w1 w12 zy:=Mod.ofOwn h611 m111 m12
  have h7:OctA w12 (σ10 7) ((unkT t.u).flatMap tagB):=by
   have h711:=tt.h7.stay m11 fun _ _ _ h=>h
   exact(h711.stay m12 fun b _ hb hv=>by have x1:=(tt.h7.blk hb).1; have x2:=(h68.blk hv).2; have x3:=m9.size; omega).octA
  simp +decide only [bK,hap4]
  obtain⟨v5,w13,hap5,ho5,m13,_⟩:=zdq (ty:=N.za) B ho4 h7 m112.size (by simp only [List.length_append]; omega)
  have m113:Mod w1 w13 zy:=Mod.ofOwn ho4 m112 m13
  simp +decide only [bK,hap5]
  refine hK _ _ (zb fun σ11 hσ=>zbb ⟨.inr rfl,_,rfl,?_⟩)
  have q:=hσ 5
  simp +decide only [bE,BEq.rfl,Nat.reduceAdd] at q
  rw[q]
  unfold zci endB
  simp only [if_true]
  rw[← List.append_assoc]
  exact⟨ho5.mono_lo (by omega),m1.trans' m113⟩
end
mutual
def Fld.wgt:Fld→Nat
 | .mk k _ _ _ _ _ _ sub=>if k=10 then 2+wgts sub else 1
def wgts:List Fld→Nat
 | []=>0
 | f :: r=>f.wgt+wgts r
end
theorem wgts_len:∀ fs:List Fld,fs.length≤wgts fs
 | []=>Nat.le_refl _
 | f :: r=>by
  have h:=wgts_len r
  have h1:1≤f.wgt:=by
   cases f
   rw[Fld.wgt]
   split<;>omega
  rw[wgts,List.length_cons]; omega
mutual
def okFB:Fld→Bool
 | .mk k _ _ _ g _ o sub=>decide (g < 0) && (decide (k≠10) && (decide (k≠11) || decide (o≠10)) || (Nat.blt (wgts sub) 1000 && zzp sub))
def zzp:List Fld→Bool
 | []=>true
 | f :: r=>okFB f && zzp r
end
def okFsB (l:List Fld):Bool:=Nat.blt (wgts l) 1000 && zzp l
theorem zzq {l:List Fld} (h:okFsB l=true):wgts l < 1000∧zzp l=true:=by
 unfold okFsB at h
 rw[Bool.and_eq_true] at h
 exact⟨by simpa using h.1,h.2⟩
section
variable {P:Program} {N:Nums} {M:zdd}
mutual
theorem okF_of (B:Base P N) (S:SpT P N M) (hW:SW P N M) {flex:Bool} {v:Int}:∀ (f:Fld),okFB f=true→OkF P M flex v f
 | .mk k _ _ _ g _ o sub,h=>by
  simp only [okFB,Bool.and_eq_true,decide_eq_true_eq,Bool.or_eq_true] at h
  obtain⟨h1,h3⟩:=h
  rcases h3 with⟨h2,h3⟩ | ⟨h3,h4⟩
  ·exact⟨h1,fun hk=>absurd hk h2,fun hk ho=>h3.elim (fun h=>absurd hk h) fun h=>absurd ho h⟩
  ·have h3:wgts sub < 1000:=by simpa using h3
   have:sub.length < 1000:=Nat.lt_of_le_of_lt (wgts_len sub) h3
   have hp:=sp_part B S hW (Nat.lt_trans this (by decide)) (zaby B S hW sub h4) (flex:=flex) (v:=v)
   exact⟨h1,fun _=>hp,fun _ _=>hp⟩
theorem zaby (B:Base P N) (S:SpT P N M) (hW:SW P N M) {flex:Bool} {v:Int}:∀ (l:List Fld),zzp l=true→∀ f∈l,OkF P M flex v f
 | [],_,f,hf=>by cases hf
 | g :: r,h,f,hf=>by
  simp only [zzp,Bool.and_eq_true] at h
  rcases List.mem_cons.1 hf with e | hf
  ·rw[e]; exact okF_of B S hW g h.1
  ·exact zaby B S hW r h.2 f hf
end
theorem partOk_of (B:Base P N) (S:SpT P N M) (hW:SW P N M) {flex:Bool} {v:Int} {l:List Fld} (h1:l.length < 1000) (h:okFsB l=true):zsn P M flex v l:=
 sp_part B S hW (Nat.lt_trans h1 (by decide)) (zaby B S hW l (zzq h).2)
def zlg (fl v:Int):Bool:=decide (0≤fl) && decide (fl≤v)
theorem sp_Write (B:Base P N) (S:SpT P N M) (hW:SW P N M) {w:World} {fv:Value} {fl v:Int} {fs:List Fld} {t:Tr} {cs:List Value} (h1:fs.length < 1000) (hok:okFsB fs=true) (hf:zik w fv fs) (ht:RepA w t cs) (hwf:wfT t)
  (hbig:(zci (zlg fl v) v fs t).length < 549755813888) :
  Call P M.znn #[.agg [fv,.int .i64 fl].toArray,.int .i64 v,.agg cs.toArray] w (Gave w (zci (zlg fl v) v fs t)):=by
 refine hW.Write.call rfl fun loc N' hlo=>?_
 unfold zsk
 refine zd fun K hK=>zi fun τ=>?_
 simp +decide only [bK,bE,Nat.reduceBeqDiff,Nat.reduceAdd,Nat.zero_add]
 obtain⟨w1,hw1⟩:∃ w1,w1=w.alloc (.cells (Value.cells (.agg [fv,.int .i64 fl].toArray)) M.zam):=⟨_,rfl⟩
 have m1:Mod w w1 zy:=by rw[hw1]; exact Mod.alloc _ _ _
 have r1:w1.rangeAt w.heap.size 0 [fv,.int .i64 fl]:=by rw[hw1]; exact zr w _ _ _
 rw[← hw1]
 clear hw1
 obtain⟨w2,hw2⟩:∃ w2,w2=w1.alloc (.cells (Value.cells (.agg cs.toArray)) N.zf):=⟨_,rfl⟩
 have m2:Mod w1 w2 zy:=by rw[hw2]; exact Mod.alloc _ _ _
 have r2:w2.rangeAt w1.heap.size 0 cs:=by rw[hw2]; exact zr w1 _ _ _
 rw[← hw2]
 clear hw2
 have m02:=m1.trans' m2
 have r1':=zad m2 r1
 refine hK _ _ (zb fun σ hσ=>?_)
 have f1:=hσ 1
 have f3:=hσ 3
 have f4:=hσ 4
 simp +decide only [bE,Nat.reduceBeqDiff,BEq.rfl,Nat.reduceAdd,zkn] at f1 f3 f4
 clear hσ hK K
 have x0:=r1' 0 _ rfl
 have x1:=r1' 1 _ rfl
 have hld:=zga S.tr r2 ht.len
 have hpart:=partOk_of B S hW (flex:=zlg fl v) (v:=v) h1 hok w2 fv t cs (hf.stay m02) (RepA.stay m02 _ ht) hwf hbig
 refine zd fun K hK=>zi fun τ=>?_
 have fin:∀ {r:Value} {w3:World} {ρ:Env},Gave w2 (zci (zlg fl v) v fs t) r w3→ρ 105=r→K (locs ρ) w3:=fun {r w3 ρ} h hq=>hK _ _ (zbb ⟨.inr rfl,_,rfl,by
  show Gave w _ (locs ρ 5) w3
  rw[show locs ρ 5=r from hq]
  exact⟨h.1.mono_lo m02.size,m02.trans' h.2⟩⟩)
 by_cases a:fl ≥ 0
 ·have hfx:zlg fl v=decide (v ≥ fl):=by unfold zlg; simp [show 0≤fl from a]
  simp +decide only [bK,bE,Nat.reduceBeqDiff,decide_true,BEq.rfl,Nat.reduceAdd,Nat.add_zero,Nat.zero_add,if_true,f1,f3,f4,S.m0.run,S.m1.run,S.lf.run_load1 rfl,B.int.run_load1 rfl,x0,x1,a,zap,zca,hld]
  rw[zgq hW.part.has]
  simp +decide only [bK,bE,Nat.reduceBeqDiff,BEq.rfl]
  rw[← hfx]
  refine hpart.mono ?_
  rintro r w3 hg
  exact fin hg (by simp +decide only [bE,BEq.rfl])
 ·have hfx:zlg fl v=false:=by unfold zlg; simp [show ¬ 0≤fl from a]
  simp +decide only [bK,bE,Nat.reduceBeqDiff,decide_false,BEq.rfl,Nat.reduceAdd,Nat.add_zero,Nat.zero_add,if_false,f1,f3,f4,S.m0.run,S.m1.run,S.lf.run_load1 rfl,B.int.run_load1 rfl,x0,x1,a,zbi,Bool.not_true,zca,hld]
  rw[zgq hW.part.has]
  simp +decide only [bK,bE,Nat.reduceBeqDiff,BEq.rfl]
  rw[← hfx]
  refine hpart.mono ?_
  rintro r w3 hg
  exact fin hg (by simp +decide only [bE,BEq.rfl])
end
def zmt (f:Fld) (x:Tr):Prop:=
 if f.kind=8 then x.nl=decide (0≤f.null)∧x.s=[]
 else if f.kind=7 then x.s=List.replicate 16 0
 else if f.kind=9∨f.kind=11 then x.s=[]∧x.l=[]
 else x.n=numK f.kind f.dflt
def zmz (kind:Int) (pt:Tr→Tr→Prop) (t g:Tr):Prop:=
 if kind=8∨kind=9 then g.s=zbv t.s
 else if kind=7 then g.s=idB t.s
 else if kind=10 then pt t g
 else g.n=numK kind t.n
def Fld.may (f:Fld) (v:Int):Bool:=decide (0≤f.null) && decide (f.null≤v)
def zyt (flex:Bool) (u:List (Nat × List UInt8)):List (Nat × List UInt8):=if flex then (unkT u).map fun x=>(x.1,zbv x.2) else []
mutual
def zyu (flex:Bool) (v:Int):Fld→Tr→Tr→Prop
 | .mk k f t' n g d o sub,t,y=>
  (k=8∨k=10∨Fld.may (.mk k f t' n g d o []) v=true→y.nl=Fld.nullB (.mk k f t' n g d o []) v t) ∧
  (Fld.nullB (.mk k f t' n g d o []) v t=false→
   if k=11 then y.l.length=(zef t.l).length∧∀ (i:Nat) (x z:Tr),(zef t.l)[i]?=some x→y.l[i]?=some z→
    (o=8∨o=10→z.nl=false)∧zmz o (fun t g=>g.l.length=sub.length∧ztk flex v sub 0 t g∧g.u=zyt flex t.u) x z
   else zmz k (fun t g=>g.l.length=sub.length∧ztk flex v sub 0 t g∧g.u=zyt flex t.u) t y)
def ztk (flex:Bool) (v:Int):List Fld→Nat→Tr→Tr→Prop
 | [],_,_,_=>True
 | f :: r,i,t,g=>(∀ y,g.l[i]?=some y→if f.has v then zyu flex v f (atT t i) y else zmt f y)∧ztk flex v r (i+1) t g
end
def zaaz (flex:Bool) (v:Int) (fs:List Fld) (t g:Tr):Prop:=g.l.length=fs.length∧ztk flex v fs 0 t g∧g.u=zyt flex t.u
theorem zkt {flex:Bool} {v:Int} {f:Fld} {t y:Tr}:zyu flex v f t y ↔ (f.kind=8∨f.kind=10∨f.may v=true→y.nl=f.nullB v t)∧(f.nullB v t=false→
   if f.kind=11 then y.l.length=(zef t.l).length∧∀ (i:Nat) (x z:Tr),(zef t.l)[i]?=some x→y.l[i]?=some z→(f.of=8∨f.of=10→z.nl=false)∧zmz f.of (zaaz flex v f.sub) x z
   else zmz f.kind (zaaz flex v f.sub) t y):=by
 obtain⟨k,fr,t',n,g,d,o,sub⟩:=f
 rw[zyu]
 exact Iff.rfl
theorem OctA.get {P:Program} {N:Nums} (B:Base P N) {w:World} {v:Value} {l:List UInt8} (h:OctA w v l) {j:Nat} {x:UInt8} (hx:l[j]?=some x) :
  ∃ b o,(∀ w',(Instr.indexAt N.za v (.int .i64 j)).run P w'=.ok (.pointer (some ⟨b,o,none⟩)) w')∧w.cell? ⟨b,o,none⟩=some (.int .u8 x.toNat):=by
 have hj:=(List.getElem?_eq_some_iff.1 hx).1
 rcases h with⟨_,_,rfl,e⟩ | ⟨b,o,c,rfl,h2,h4⟩
 ·subst e; simp at hj
 ·refine⟨b,o+j * 1,fun w'=>zcb B.Lu8 B.uint8 hj,?_⟩
  have:=h4 j (zz x) (by rw[List.getElem?_map,hx]; rfl)
  simpa [zz] using this
section
variable {P:Program} {N:Nums} {M:zdd}
theorem call_SameA (B:Base P N) (F:Fns P N) (hN:N.zff≠0) {w:World} {v1 v2:Value} {l:List UInt8} (h1:OctA w v1 l) (h2:OctA w v2 l) (hl:l.length < 4611686018427387904) :
  Call P N.zff #[v1,v2] w fun v w'=>v=.bool true∧Mod w w' zy:=by
 refine(F.spec_Same hN).call rfl fun loc N' hlo=>?_
 unfold zus
 refine zd fun K hK=>zao (hK _ _ ?_)
 clear hK K
 obtain⟨σ,hσ⟩:∃ σ,σ=upd (zdf #[v1,v2]) 2 (.bool false):=⟨_,rfl⟩
 have f0:σ 0=v1:=by rw[hσ,zg (by decide)]; rfl
 have f1:σ 1=v2:=by rw[hσ,zg (by decide)]; rfl
 rw[← hσ]
 clear hσ
 refine zd fun K hK=>zd fun K1 hK1=>zi fun τ=>?_
 simp +decide (disch:=omega) only [bK,bE,Nat.reduceBeqDiff,BEq.rfl,Nat.reduceAdd,Nat.zero_add,f0,f1,h1.run_len B,h2.run_len B,zk,zai,locs_envOf]
 refine hK1 _ _ (W_if hlo (upd_same _ _ _) ?_)
 clear hK1 K1
 rw[show ((l.length:Int) != (l.length:Int))=false from by simp,if_neg (by simp)]
 refine zbd (hK _ _ ?_)
 clear hK K
 refine zd fun K hK=>zd fun K1 hK1=>zi fun τ=>?_
 simp +decide (disch:=omega) only [bK,bE,BEq.rfl,Nat.reduceAdd,Nat.zero_add,zg,f0,h1.run_len B]
 refine hK1 _ _ (zb fun σ2 hσ=>?_)
 have g0:=hσ 0
 have g1:=hσ 1
 have g4:=hσ 4
 have g5:=hσ 5
 simp +decide only [bE,Nat.reduceBeqDiff,BEq.rfl,Nat.reduceAdd,Nat.zero_add,zg,f0,f1] at g0 g1 g4 g5
 clear hσ hK1 K1
 refine ztg (i:=5) (l:=4) (c:=6) (k:=0) hlo hl (fun j σ w'=>σ 0=v1∧σ 1=v2∧σ 4=.int .i64 l.length∧σ 5=.int .i64 j∧j≤l.length∧Mod w w' zy) (fun j σ w h=>⟨h.2.2.2.1,h.2.2.1,h.2.2.2.2.1⟩) (fun j σ w b h=>?_) ⟨g0,g1,g4,g5,Nat.zero_le _,.refl _ _⟩ (fun σ' w' h=>hK _ _ ?_) (fun j σ' w' hj h=>?_)
 ·obtain⟨a,b,c,d,e,f⟩:=h
  exact⟨by rw[zg (by decide)]; exact a,by rw[zg (by decide)]; exact b,by rw[zg (by decide)]; exact c,by rw[zg (by decide)]; exact d,e,f⟩
 ·refine zd fun K2 hK2=>zao (hK2 _ _ (zbb ⟨.inr rfl,_,rfl,upd_same _ _ _,h.2.2.2.2.2⟩))
 ·obtain⟨a,b,c,d,e,f⟩:=h
  have hx:l[j]?=some l[j]:=List.getElem?_eq_getElem hj
  have md:Mod w w'.drew zy:=f.trans' (Mod.drew _ _)
  obtain⟨b1,o1,hi1,hc1⟩:=(h1.stay md).get B hx
  obtain⟨b2,o2,hi2,hc2⟩:=(h2.stay md).get B hx
  refine zd fun K2 hK2=>zi fun τ=>?_
  simp +decide (disch:=omega) only [bK,bE,BEq.rfl,Nat.reduceAdd,d]
  refine hK2 _ _ (zb fun σ3 hσ=>?_)
  have p0:=hσ 0
  have p1:=hσ 1
  have p4:=hσ 4
  have p5:=hσ 5
  have p7:=hσ 7
  simp +decide only [bE,Nat.reduceBeqDiff,BEq.rfl,Nat.reduceAdd,Nat.zero_add,a,b,c,d] at p0 p1 p4 p5 p7
  clear hσ hK2 K2
  refine zd fun K2 hK2=>zyi B.mixed (by kernel_rfl) fun τ=>?_
  simp +decide (disch:=omega) only [bK,bE,zjt,Nat.reduceBeqDiff,BEq.rfl,Nat.reduceAdd,Nat.zero_add,true_and,p0,p1,p7,hi1,hi2,B.uint8.run_load1 rfl,hc1,hc2]
  refine hK2 _ _ (zb fun σ4 hσ=>?_)
  have q0:=hσ 0
  have q1:=hσ 1
  have q4:=hσ 4
  have q5:=hσ 5
  have q8:=hσ 8
  simp +decide only [bE,Nat.reduceBeqDiff,BEq.rfl,Nat.reduceAdd,Nat.zero_add,p0,p1,p4,p5] at q0 q1 q4 q5 q8
  clear hσ hK2 K2
  refine W_if hlo q8 ?_
  rw[show ((l[j].toNat:Int) != (l[j].toNat:Int))=false from by simp,if_neg (by simp)]
  refine zbd ⟨q5,?_⟩
  exact⟨by rw[zg (by decide)]; exact q0,by rw[zg (by decide)]; exact q1,by rw[zg (by decide)]; exact q4,upd_same _ _ _,by omega,md⟩
end
section
variable {P:Program} {N:Nums} {M:zdd}
end
section
variable {a b c d e:Value}
end
section
variable {P:Program} {N:Nums} {M:zdd}
end
section
variable {P:Program} {N:Nums} {M:zdd}
end
section
variable {P:Program} {N:Nums} {M:zdd}
end
section
variable {P:Program} {N:Nums} {M:zdd}
end
section
variable {P:Program} {N:Nums} {M:zdd}
end
section
variable {P:Program} {N:Nums} {M:zdd}
end
section
variable {P:Program} {N:Nums} {M:zdd}
end
def rs (l:List UInt8):RS:=⟨l,false,false⟩
theorem be_foldl (l:List UInt8) (a:Nat):l.foldl (fun a x=>a * 256+x.toNat) a=a * 256 ^ l.length+be l:=by
 unfold be
 induction l generalizing a with
 | nil=>simp
 | cons x l ih=>
  rw[List.foldl_cons,List.foldl_cons,ih,ih (0 * 256+x.toNat),List.length_cons,Nat.pow_succ,Nat.add_mul,Nat.zero_mul,Nat.zero_add,Nat.mul_assoc,Nat.mul_comm 256,Nat.add_assoc]
theorem zyb (x:UInt8) (l:List UInt8):be (x :: l)=x.toNat * 256 ^ l.length+be l:=by
 rw[be,List.foldl_cons,be_foldl,Nat.zero_mul,Nat.zero_add]
theorem zpy (n:Int):IntKind.u8.wrap n=n % 256:=by simp [IntKind.wrap,IntKind.bits,IntKind.signed]
theorem zjq (n:Int):∀ k:Nat,(be (fixB n k):Int)=n % (256 ^ k:Nat)
 | 0=>by simp [fixB,be]
 | k+1=>by
  rw[fixB,zyb,zaw,Int.natCast_add,zjq n k,zpy]
  have hp:(2:Int) ^ (8 * k)=((256 ^ k:Nat):Int):=by
   rw[show (256:Nat)=2 ^ 8 from rfl,← Nat.pow_mul,Int.natCast_pow]; rfl
  rw[hp]
  obtain⟨p,hpk⟩:∃ p:Nat,p=256 ^ k:=⟨_,rfl⟩
  have hp0:0 < p:=by rw[hpk]; exact Nat.pow_pos (by decide)
  rw[← hpk,Nat.pow_succ,← hpk]
  rw[Int.fdiv_eq_ediv_of_nonneg _ (by omega)]
  have hd:(UInt8.ofNat ((n / (p:Int)) % 256).toNat).toNat=((n / (p:Int)) % 256).toNat:=by
   rw[UInt8.toNat_ofNat']; omega
  rw[hd]
  have h1:((((n / (p:Int)) % 256).toNat:Nat):Int)=(n / (p:Int)) % 256:=by omega
  rw[Int.natCast_mul,h1]
  have e1:=Int.emod_add_mul_ediv n (p:Int)
  have e2:=Int.emod_add_mul_ediv (n / (p:Int)) 256
  have l1:=Int.emod_nonneg n (show (p:Int)≠0 by omega)
  have l2:=Int.emod_lt_of_pos n (show (0:Int) < p by omega)
  have l3:=Int.emod_nonneg (n / (p:Int)) (show (256:Int)≠0 by decide)
  have l4:=Int.emod_lt_of_pos (n / (p:Int)) (show (0:Int) < 256 by decide)
  generalize n % (p:Int)=m at *
  generalize (n / (p:Int)) % 256=d at *
  generalize (n / (p:Int)) / 256=q at *
  generalize n / (p:Int)=z at *
  subst e2
  have hn:n=(d * p+m)+((p * 256:Nat):Int) * q:=by
   rw[← e1,Int.natCast_mul,Int.mul_add,Int.mul_comm d,Int.mul_assoc]
   have:((256:Nat):Int)=256:=rfl
   rw[this]
   omega
  rw[hn,Int.add_mul_emod_self_left,Int.emod_eq_of_lt]
  ·have:=Int.mul_nonneg l3 (show (0:Int)≤p by omega); omega
  ·have:d * p≤255 * p:=Int.mul_le_mul_of_nonneg_right (by omega) (by omega)
   rw[Int.natCast_mul]; omega
theorem zme (k:IntKind) (n:Int):k.wrap (n % (2 ^ k.bits:Int))=k.wrap n:=by
 unfold IntKind.wrap
 simp only [Int.emod_emod_of_dvd n (Int.dvd_refl _)]
theorem take_app {α:Type} (x r:List α) {k:Nat} (h:x.length=k):(x++r).take k=x:=by subst h; simp
theorem drop_app {α:Type} (x r:List α) {k:Nat} (h:x.length=k):(x++r).drop k=r:=by subst h; simp
theorem zzs {c:Nat} {g:List UInt8→Int} {x r:List UInt8} (h:x.length=c):zqm c g (rs (x++r))=(g x,rs r):=by
 unfold zqm rs
 simp only [List.length_append]
 rw[if_neg (by omega),take_app x r h,drop_app x r h]
theorem zgs {c:Nat} {g:List UInt8→Value} {z:Value} {x r:List UInt8} (h:x.length=c):zeh c g z (rs (x++r))=(g x,rs r):=by
 unfold zeh rs
 simp only [List.length_append]
 rw[if_neg (by omega),take_app x r h,drop_app x r h]
theorem zacb (n:Int) (r:List UInt8):i16N (rs (fixB n 2++r))=(IntKind.i16.wrap n,rs r):=by
 rw[i16N,zzs (zaw n 2),zjq]
 congr 1
 exact zme .i16 n
theorem zue (n:Int) (r:List UInt8):i32N (rs (fixB n 4++r))=(IntKind.i32.wrap n,rs r):=by
 rw[i32N,zzs (zaw n 4),zjq]
 congr 1
 exact zme .i32 n
theorem zoz {n:Nat} (hn:n < 4294967296) (r:List UInt8):uvN (rs (uvB n++r))=(n,rs r):=by
 have t:∀ m,m < 256→(UInt8.ofNat m).toNat=m:=fun m hm=>by rw[UInt8.toNat_ofNat']; omega
 by_cases h1:n < 128
 ·have e:uvB n=[UInt8.ofNat n]:=zee h1
  have d:uvD ([UInt8.ofNat n]++r)=(n,1):=by simp only [List.cons_append,List.nil_append,uvD,t n (by omega)]; rw[if_pos h1]
  unfold uvN rs; rw[e]; simp only [d]; rfl
 rw[zgi h1]
 by_cases h2:n / 128 < 128
 ·rw[zee h2]
  have d:uvD ((UInt8.ofNat (n % 128+128) :: [UInt8.ofNat (n / 128)])++r)=(n,2):=by
   simp only [List.cons_append,List.nil_append,uvD,t (n % 128+128) (by omega),t (n / 128) (by omega)]
   rw[if_neg (by omega),if_pos h2]
   congr 1; omega
  unfold uvN rs; simp only [d]; rfl
 rw[zgi h2]
 by_cases h3:n / 128 / 128 < 128
 ·rw[zee h3]
  have d:uvD ((UInt8.ofNat (n % 128+128) :: UInt8.ofNat (n / 128 % 128+128) :: [UInt8.ofNat (n / 128 / 128)])++r)=(n,3):=by
   simp only [List.cons_append,List.nil_append,uvD,t (n % 128+128) (by omega),t (n / 128 % 128+128) (by omega),t (n / 128 / 128) (by omega)]
   rw[if_neg (by omega),if_neg (by omega),if_pos h3]
   congr 1; omega
  unfold uvN rs; simp only [d]; rfl
 rw[zgi h3]
 by_cases h4:n / 128 / 128 / 128 < 128
 ·rw[zee h4]
  have d:uvD ((UInt8.ofNat (n % 128+128) :: UInt8.ofNat (n / 128 % 128+128) :: UInt8.ofNat (n / 128 / 128 % 128+128) :: [UInt8.ofNat (n / 128 / 128 / 128)])++r)=(n,4):=by
   simp only [List.cons_append,List.nil_append,uvD,t (n % 128+128) (by omega),t (n / 128 % 128+128) (by omega),t (n / 128 / 128 % 128+128) (by omega),t (n / 128 / 128 / 128) (by omega)]
   rw[if_neg (by omega),if_neg (by omega),if_neg (by omega),if_pos h4]
   congr 1; omega
  unfold uvN rs; simp only [d]; rfl
 rw[zgi h4,zee (by omega)]
 have d:uvD ((UInt8.ofNat (n % 128+128) :: UInt8.ofNat (n / 128 % 128+128) :: UInt8.ofNat (n / 128 / 128 % 128+128) :: UInt8.ofNat (n / 128 / 128 / 128 % 128+128) :: [UInt8.ofNat (n / 128 / 128 / 128 / 128)])++r)=(n,5):=by
  simp only [List.cons_append,List.nil_append,uvD,t (n % 128+128) (by omega),t (n / 128 % 128+128) (by omega),t (n / 128 / 128 % 128+128) (by omega),t (n / 128 / 128 / 128 % 128+128) (by omega),t (n / 128 / 128 / 128 / 128) (by omega)]
  rw[if_neg (by omega),if_neg (by omega),if_neg (by omega),if_neg (by omega),if_pos (by omega)]
  congr 1; omega
 unfold uvN rs; simp only [d]; rfl
theorem zwv (n:Nat):0 < (uvB n).length:=by
 by_cases h:n < 128
 ·rw[zee h]; simp
 ·rw[zgi h]; simp
theorem zxc (x r:List UInt8):zso (x.length:Int) (rs (x++r))=false:=by
 unfold zso rs; simp; omega
theorem zog (x r:List UInt8):zeu (x.length:Int) (rs (x++r))=x:=by
 unfold zeu; rw[zxc,if_neg (by simp)]; simp [rs]
theorem zku (x r:List UInt8):zjn (x.length:Int) (rs (x++r))=rs r:=by
 unfold zjn; rw[zxc,if_neg (by simp)]; simp [rs]
theorem zsy (x r:List UInt8):zqf (x.length:Int) (rs (x++r))=some x:=by
 unfold zqf zvj; rw[zxc,zog]; simp [rs]
theorem zti {n:Nat} (h:n≤32767):IntKind.i16.wrap (n:Int)=n:=by
 show (let m:=(n:Int) % 65536; if (true && decide (m ≥ 32768))=true then m - 65536 else m)=n
 have:(n:Int) % 65536=n:=by omega
 simp only [this]
 rw[if_neg (by simp; omega)]
theorem znb {n:Nat} (h:n < 2147483648):IntKind.i32.wrap (n:Int)=n:=by
 show (let m:=(n:Int) % 4294967296; if (true && decide (m ≥ 2147483648))=true then m - 4294967296 else m)=n
 have:(n:Int) % 4294967296=n:=by omega
 simp only [this]
 rw[if_neg (by simp; omega)]
theorem str_rs {s:List UInt8} (h:s.length≤32767) (r:List UInt8):strR (rs (fixB s.length 2++(s++r)))=(s,rs r):=by
 unfold strR; rw[zacb,zti h,zog,zku]
theorem cstr_rs {s:List UInt8} (h:s.length≤32767) (r:List UInt8):zkq (rs (uvB (s.length+1)++(s++r)))=(s,rs r):=by
 unfold zkq; rw[zoz (by omega)]
 have:(((s.length+1:Nat):Int) - 1)=(s.length:Int):=by omega
 simp only [this]
 rw[zog,zku]
theorem nstr_rs {s:List UInt8} (h:s.length≤32767) (r:List UInt8):zow (rs (fixB s.length 2++(s++r)))=(some s,rs r):=by
 unfold zow; rw[str_rs h,zacb,zti h,if_neg (by simp)]
theorem nstr_rs0 (r:List UInt8):zow (rs (fixB (-1) 2++r))=(none,rs r):=by
 unfold zow; rw[zacb,if_pos (by show IntKind.i16.wrap (-1) < 0; decide)]
theorem cnstr_rs {s:List UInt8} (h:s.length≤32767) (r:List UInt8):zju (rs (uvB (s.length+1)++(s++r)))=(some s,rs r):=by
 unfold zju; rw[cstr_rs h,zoz (by omega),if_neg (by simp only; omega)]
theorem uv0_rs (r:List UInt8):uvN (rs ([0]++r))=(0,rs r):=by
 have:=zoz (n:=0) (by decide) r
 rwa [zee (by decide)] at this
theorem cnstr_rs0 (r:List UInt8):zju (rs ([0]++r))=(none,rs r):=by
 unfold zju; rw[uv0_rs,if_pos (by show (((0:Nat):Int) - 1) < 0; decide)]
theorem byt_rs {s:List UInt8} (h:s.length≤32767) (r:List UInt8):bytR (rs (fixB s.length 4++(s++r)))=(some s,rs r):=by
 unfold bytR; rw[zue,znb (by omega),if_neg (by simp only; omega),zsy,zku]
theorem cbyt_rs {s:List UInt8} (h:s.length≤32767) (r:List UInt8):zxt (rs (uvB (s.length+1)++(s++r)))=(some s,rs r):=by
 unfold zxt; rw[zoz (by omega)]
 have:(((s.length+1:Nat):Int) - 1)=(s.length:Int):=by omega
 simp only [this]
 rw[if_neg (by omega),zsy,zku]
theorem nbyt_rs {s:List UInt8} (h:s.length≤32767) (r:List UInt8):zub (rs (fixB s.length 4++(s++r)))=(some s,rs r):=by
 unfold zub; rw[zue,znb (by omega),if_neg (by simp only; omega),zsy,zku]
theorem nbyt_rs0 (r:List UInt8):zub (rs (fixB (-1) 4++r))=(none,rs r):=by
 unfold zub; rw[zue,if_pos (by show IntKind.i32.wrap (-1) < 0; decide)]
theorem cnbyt_rs {s:List UInt8} (h:s.length≤32767) (r:List UInt8):znr (rs (uvB (s.length+1)++(s++r)))=(some s,rs r):=by
 unfold znr; rw[zoz (by omega)]
 have:(((s.length+1:Nat):Int) - 1)=(s.length:Int):=by omega
 simp only [this]
 rw[if_neg (by omega),zsy,zku]
theorem cnbyt_rs0 (r:List UInt8):znr (rs ([0]++r))=(none,rs r):=by
 unfold znr; rw[uv0_rs,if_pos (by show (((0:Nat):Int) - 1) < 0; decide)]
theorem arr_rs {n:Nat} (h:n≤32767) {x:List UInt8} (hx:n≤x.length):arrR (rs (fixB n 4++x))=((n:Int),rs x):=by
 unfold arrR; rw[zue,znb (by omega)]
 rw[if_neg (by show ¬ ((x.length:Int) < (n:Int)); omega)]
theorem zacm (x:List UInt8):arrR (rs (fixB (-1) 4++x))=(-1,rs x):=by
 unfold arrR; rw[zue]
 rw[if_neg (by show ¬ ((x.length:Int) < (-1:Int)); omega)]
 rfl
theorem zacg {n:Nat} (h:n≤32767) {x:List UInt8} (hx:n≤x.length):zlj (rs (uvB (n+1)++x))=((n:Int),rs x):=by
 have e:zox (rs (uvB (n+1)++x))=(n:Int):=by
  unfold zox; rw[zoz (by omega)]
  simp only
  rw[znb (n:=n+1) (by omega),show (((n+1:Nat):Int) - 1)=(n:Int) by omega,znb (by omega)]
 unfold zlj; rw[e,zoz (by omega)]
 rw[if_neg (by show ¬ ((x.length:Int) < (n:Int)); omega)]
theorem zxu (x:List UInt8):zlj (rs ([0]++x))=(-1,rs x):=by
 have e:zox (rs ([0]++x))=(-1:Int):=by
  unfold zox; rw[uv0_rs]; show IntKind.i32.wrap (IntKind.i32.wrap ((0:Nat):Int) - 1)=-1; decide
 unfold zlj; rw[e,uv0_rs]
 rw[if_neg (by show ¬ ((x.length:Int) < (-1:Int)); omega)]
def zhb:PK→Int→Bool
 | .bool,k=>decide (k=0) | .i8,k=>decide (k=1) | .i16,k=>decide (k=2) | .u16,k=>decide (k=5) | .i32,k=>decide (k=3) | .i64,k=>decide (k=4) | .uuid,k=>decide (k=7) | .en _,_=>false
theorem zfc {n:Int} (h1:-9223372036854775808≤n) (h2:n < 9223372036854775808):IntKind.i64.wrap n=n:=by
 rw[IntKind.wrap_i64]; omega
theorem wrap_i8_r (n:Int):-128≤IntKind.i8.wrap n∧IntKind.i8.wrap n < 128:=by
 have e:IntKind.i8.wrap n=(let m:=n % 256; if (true && decide (m ≥ 128))=true then m - 256 else m):=rfl
 rw[e]; simp only [Bool.true_and,decide_eq_true_eq]; split<;>omega
theorem wrap_i16_r (n:Int):-32768≤IntKind.i16.wrap n∧IntKind.i16.wrap n < 32768:=by
 have e:IntKind.i16.wrap n=(let m:=n % 65536; if (true && decide (m ≥ 32768))=true then m - 65536 else m):=rfl
 rw[e]; simp only [Bool.true_and,decide_eq_true_eq]; split<;>omega
theorem wrap_i32_r (n:Int):-2147483648≤IntKind.i32.wrap n∧IntKind.i32.wrap n < 2147483648:=by
 rw[IntKind.wrap_i32]; omega
theorem ztb (l:List UInt8):(l.map zz).map (fun v=>match v with | .int _ n=>UInt8.ofNat n.toNat | _=>0)=l:=by
 rw[List.map_map]
 conv=>rhs; rw[← List.map_id l]
 refine List.map_congr_left fun x _=>?_
 simp [zz]
theorem zaca (s:List UInt8):(idB s).length=16:=by
 unfold idB; rw[List.length_append,List.length_take,List.length_replicate]; omega
theorem pr_rd {k:PK} {kind:Int} (h:zhb k kind=true) (fl:Bool) (pt:Tr→List UInt8) (pt':Tr→Tr→Prop) (null:Bool) {t:Tr} (hw:wfT t) (r:List UInt8) :
  ∃ v,k.rd (rs (valB fl kind pt null t++r))=(v,rs r)∧zmz kind pt' t (k.tr v)∧(k.tr v).nl=false∧0 < (valB fl kind pt null t).length:=by
 cases k with
 | en t=>simp [zhb] at h
 | bool=>
  have h:kind=0:=by simpa [zhb] using h
  subst h
  have hm:t.n % 2=0∨t.n % 2=1:=by omega
  refine⟨.bool (be [UInt8.ofNat (t.n % 2).toNat] != 0),by rw[valB,if_pos rfl]; show zeh 1 (fun l=>.bool (be l != 0)) (.bool false) _=_; rw[zgs (c:=1) (x:=[UInt8.ofNat (t.n % 2).toNat]) rfl],?_,rfl,by rw[valB,if_pos rfl]; simp⟩
  rw[zmz,if_neg (by decide),if_neg (by decide),if_neg (by decide),numK,if_pos rfl,band1]
  rcases hm with hm | hm<;>rw[hm]<;>rfl
 | i8=>
  have h:kind=1:=by simpa [zhb] using h
  subst h
  have e:valB fl 1 pt null t=fixB t.n 1:=by simp [valB,zge]
  refine⟨.int .i8 (IntKind.i8.wrap (be (fixB t.n 1))),by rw[e]; show zeh 1 (fun l=>.int .i8 (IntKind.i8.wrap (be l))) (.int .i8 0) _=_; rw[zgs (zaw t.n 1)],?_,rfl,by rw[e,zaw]; decide⟩
  rw[zmz,if_neg (by decide),if_neg (by decide),if_neg (by decide),numK,if_neg (by decide),if_pos rfl,zjq]
  have:=wrap_i8_r t.n
  rw[zfc (by omega) (by omega)]
  exact zme .i8 t.n
 | i16=>
  have h:kind=2:=by simpa [zhb] using h
  subst h
  have e:valB fl 2 pt null t=fixB t.n 2:=by simp [valB,zge]
  refine⟨.int .i16 (IntKind.i16.wrap (be (fixB t.n 2))),by rw[e]; show zeh 2 (fun l=>.int .i16 (IntKind.i16.wrap (be l))) (.int .i16 0) _=_; rw[zgs (zaw t.n 2)],?_,rfl,by rw[e,zaw]; decide⟩
  rw[zmz,if_neg (by decide),if_neg (by decide),if_neg (by decide),numK,if_neg (by decide),if_neg (by decide),if_pos rfl,zjq]
  have:=wrap_i16_r t.n
  rw[zfc (by omega) (by omega)]
  exact zme .i16 t.n
 | u16=>
  have h:kind=5:=by simpa [zhb] using h
  subst h
  have e:valB fl 5 pt null t=fixB t.n 2:=by simp [valB,zge]
  refine⟨.int .u16 (be (fixB t.n 2)),by rw[e]; show zeh 2 (fun l=>.int .u16 (be l)) (.int .u16 0) _=_; rw[zgs (zaw t.n 2)],?_,rfl,by rw[e,zaw]; decide⟩
  rw[zmz,if_neg (by decide),if_neg (by decide),if_neg (by decide),numK,if_neg (by decide),if_neg (by decide),if_neg (by decide),if_neg (by decide),if_pos rfl]
  have hw:IntKind.u16.wrap t.n=t.n % 65536:=by simp [IntKind.wrap,IntKind.bits,IntKind.signed]
  rw[hw,zfc (by omega) (by omega)]
  show (be (fixB t.n 2):Int)=_
  rw[zjq]; rfl
 | i32=>
  have h:kind=3:=by simpa [zhb] using h
  subst h
  have e:valB fl 3 pt null t=fixB t.n 4:=by simp [valB,zge]
  refine⟨.int .i32 (IntKind.i32.wrap (be (fixB t.n 4))),by rw[e]; show zeh 4 (fun l=>.int .i32 (IntKind.i32.wrap (be l))) (.int .i32 0) _=_; rw[zgs (zaw t.n 4)],?_,rfl,by rw[e,zaw]; decide⟩
  rw[zmz,if_neg (by decide),if_neg (by decide),if_neg (by decide),numK,if_neg (by decide),if_neg (by decide),if_neg (by decide),if_pos rfl,zjq]
  have:=wrap_i32_r t.n
  rw[zfc (by omega) (by omega)]
  exact zme .i32 t.n
 | i64=>
  have h:kind=4:=by simpa [zhb] using h
  subst h
  have e:valB fl 4 pt null t=fixB t.n 8:=by simp [valB,zge]
  refine⟨.int .i64 (IntKind.i64.wrap (be (fixB t.n 8))),by rw[e]; show zeh 8 (fun l=>.int .i64 (IntKind.i64.wrap (be l))) (.int .i64 0) _=_; rw[zgs (zaw t.n 8)],?_,rfl,by rw[e,zaw]; decide⟩
  rw[zmz,if_neg (by decide),if_neg (by decide),if_neg (by decide),numK,if_neg (by decide),if_neg (by decide),if_neg (by decide),if_neg (by decide),if_neg (by decide),zjq]
  have h1:=zme .i64 t.n
  have h2:=zfc hw.n.1 hw.n.2
  show IntKind.i64.wrap (t.n % (256 ^ 8:Nat))=t.n
  rw[← h2]
  rw[h2]
  exact h1.trans h2
 | uuid=>
  have h:kind=7:=by simpa [zhb] using h
  subst h
  have e:valB fl 7 pt null t=idB t.s:=by simp [valB,idB]
  have hl:=zaca t.s
  have h1:zeu 16 (rs (idB t.s++r))=idB t.s:=by have:=zog (idB t.s) r; rwa [hl] at this
  have h2:zjn 16 (rs (idB t.s++r))=rs r:=by have:=zku (idB t.s) r; rwa [hl] at this
  refine⟨zww (idB t.s),by rw[e]; show (zww (zeu 16 _),zjn 16 _)=_; rw[h1,h2],?_,rfl,by rw[e,hl]; decide⟩
  rw[zmz,if_neg (by decide),if_pos rfl]
  show zgk (zww (idB t.s))=idB t.s
  unfold zww zgk
  rw[hl,Nat.sub_self,List.replicate_zero,List.append_nil,List.take_of_length_le (by omega)]
  exact ztb _
theorem zir (s:List UInt8):(zbv s).length≤32767:=by simp [zbv,most]; omega
theorem zst {fl:Bool} {pt:Tr→List UInt8} {null:Bool} {t:Tr}:valB fl 8 pt null t=zae fl null (if null then [] else zbv t.s).length 2++(if null then [] else zbv t.s):=by simp [valB]
theorem zsu {fl:Bool} {pt:Tr→List UInt8} {null:Bool} {t:Tr}:valB fl 9 pt null t=zae fl null (if null then [] else zbv t.s).length 4++(if null then [] else zbv t.s):=by simp [valB]
theorem zez (fl null:Bool) (n size:Nat) (h:0 < size):0 < (zae fl null n size).length:=by
 unfold zae
 split
 ·simp
 ·split
  ·exact zwv _
  ·split<;>rw[zaw]<;>exact h
def Txt.kind:Txt→Int | .str=>8 | .nstr=>8 | .byt=>9 | .nbyt=>9
theorem txt_rs (k:Txt) (fl null:Bool) (hn:k=.str∨k=.byt→null=false) (pt:Tr→List UInt8) (t:Tr) (r:List UInt8) (kind:Int) (hk:kind=k.kind) :
  ∃ v,k.rd fl (rs (valB fl kind pt null t++r))=(v,rs r)∧((Ty.txt k).tr v).nl=null∧(null=false→((Ty.txt k).tr v).s=zbv t.s)∧(El.txt k).tr v=(Ty.txt k).tr v∧0 < (valB fl kind pt null t).length:=by
 have hw:=zir t.s
 cases k with
 | str=>
  have hk:kind=8:=hk
  subst hk
  have hn:=hn (.inl rfl)
  subst hn
  rw[zst]
  simp only [Bool.false_eq_true,if_false,List.append_assoc]
  have hp:=zez fl false (zbv t.s).length 2 (by decide)
  refine⟨.num (strV (zbv t.s)),?_,rfl,fun _=>by show zgk (strV _)=_; simp [zgk,strV],rfl,by rw[List.length_append]; omega⟩
  unfold Txt.rd zae
  cases fl with
  | true=>simp only [Bool.and_false,Bool.false_eq_true,if_false,if_true]; rw[cstr_rs hw]
  | false=>simp only [Bool.and_false,Bool.false_eq_true,if_false]; rw[str_rs hw]
 | nstr=>
  have hk:kind=8:=hk
  subst hk
  rw[zst]
  cases null with
  | true=>
   have hp:=zez fl true (zbv t.s).length 2 (by decide)
   simp only [if_true,List.append_nil,List.length_nil]
   refine⟨.nstr none,?_,rfl,(fun h=>by cases h),rfl,zez _ _ _ _ (by decide)⟩
   unfold Txt.rd zae
   cases fl with
   | true=>simp only [Bool.and_true,if_true]; rw[cnstr_rs0]
   | false=>simp only [Bool.false_and,Bool.false_eq_true,if_false,if_true]; rw[nstr_rs0]
  | false=>
   have hp:=zez fl false (zbv t.s).length 2 (by decide)
   simp only [Bool.false_eq_true,if_false,List.append_assoc]
   refine⟨.nstr (some (zbv t.s)),?_,rfl,fun _=>rfl,rfl,by rw[List.length_append]; omega⟩
   unfold Txt.rd zae
   cases fl with
   | true=>simp only [Bool.and_false,Bool.false_eq_true,if_false,if_true]; rw[cnstr_rs hw]
   | false=>simp only [Bool.and_false,Bool.false_eq_true,if_false]; rw[nstr_rs hw]
 | byt=>
  have hk:kind=9:=hk
  subst hk
  have hn:=hn (.inr rfl)
  subst hn
  rw[zsu]
  simp only [Bool.false_eq_true,if_false,List.append_assoc]
  have hp:=zez fl false (zbv t.s).length 4 (by decide)
  refine⟨.oct (some (zbv t.s)),?_,rfl,fun _=>rfl,rfl,by rw[List.length_append]; omega⟩
  unfold Txt.rd zae
  cases fl with
  | true=>simp only [Bool.and_false,Bool.false_eq_true,if_false,if_true]; rw[cbyt_rs hw]
  | false=>simp only [Bool.and_false,Bool.false_eq_true,if_false]; rw[byt_rs hw]
 | nbyt=>
  have hk:kind=9:=hk
  subst hk
  rw[zsu]
  cases null with
  | true=>
   simp only [if_true,List.append_nil,List.length_nil]
   refine⟨.oct none,?_,rfl,(fun h=>by cases h),rfl,zez _ _ _ _ (by decide)⟩
   unfold Txt.rd zae
   cases fl with
   | true=>simp only [Bool.and_true,if_true]; rw[cnbyt_rs0]
   | false=>simp only [Bool.false_and,Bool.false_eq_true,if_false,if_true]; rw[nbyt_rs0]
  | false=>
   have hp:=zez fl false (zbv t.s).length 4 (by decide)
   simp only [Bool.false_eq_true,if_false,List.append_assoc]
   refine⟨.oct (some (zbv t.s)),?_,rfl,fun _=>rfl,rfl,by rw[List.length_append]; omega⟩
   unfold Txt.rd zae
   cases fl with
   | true=>simp only [Bool.and_false,Bool.false_eq_true,if_false,if_true]; rw[cnbyt_rs hw]
   | false=>simp only [Bool.and_false,Bool.false_eq_true,if_false]; rw[nbyt_rs hw]
theorem zud {k:Nat} {x:List UInt8}:∀ {a:List (Nat × List UInt8)},(a.map Prod.fst).Pairwise (· < ·)→((insT k x a).map Prod.fst).Pairwise (· < ·)
 | [],_=>by simp [insT]
 | (k',y) :: a,h=>by
  rw[List.map_cons,List.pairwise_cons] at h
  rw[insT]
  split
  ·rw[List.map_cons,List.pairwise_cons]
   refine⟨fun z hz=>?_,zud h.2⟩
   obtain⟨p,hp,rfl⟩:=List.mem_map.1 hz
   rcases zxp hp with rfl | hp
   ·assumption
   ·exact h.1 _ (List.mem_map.2 ⟨p,hp,rfl⟩)
  ·split
   ·rw[List.map_cons,List.pairwise_cons]; exact h
   ·rw[List.map_cons,List.map_cons,List.pairwise_cons,List.pairwise_cons]
    refine⟨fun z hz=>?_,h⟩
    rcases List.mem_cons.1 hz with e | hz
    ·rw[e]; show k < k'; omega
    ·have:=h.1 z hz
     show k < z
     have h2:k' < z:=this
     omega
theorem zuh:∀ (u a:List (Nat × List UInt8)),(a.map Prod.fst).Pairwise (· < ·)→((u.foldl (fun a x=>insT x.1 x.2 a) a).map Prod.fst).Pairwise (· < ·)
 | [],a,h=>h
 | x :: u,a,h=>zuh u _ (zud h)
theorem zpl (u:List (Nat × List UInt8)):((unkT u).map Prod.fst).Pairwise (· < ·):=zuh _ _ (by simp)
theorem tagsN_rs (r:List UInt8):∀ (l acc:List (Nat × List UInt8)),(∀ x∈l,x.1 < 4294967296)→((acc++l).map Prod.fst).Nodup→
  zvh l.length acc (rs (l.flatMap tagB++r))=(acc++l.map (fun x=>(x.1,zbv x.2)),rs r)
 | [],acc,_,_=>by simp [zvh]
 | x :: l,acc,hk,hn=>by
  rw[List.length_cons,zvh,List.flatMap_cons,tagB]
  simp only [List.append_assoc]
  rw[zoz (hk x (by simp))]
  have hw:=zir x.2
  rw[zoz (n:=(zbv x.2).length) (by omega)]
  simp only []
  rw[zog,zku]
  have hne:(acc.map Prod.fst).contains x.1=false:=by
   rw[List.map_append,List.nodup_append] at hn
   have:=hn.2.2
   simp only [List.contains_eq_mem,decide_eq_false_iff_not]
   intro hc
   exact this _ hc x.1 (by simp) rfl
  have hp:tput acc x.1 (zbv x.2)=acc++[(x.1,zbv x.2)]:=by unfold tput; rw[hne]; simp
  rw[hp,tagsN_rs r l _ (fun y hy=>hk y (by simp [hy])) (by simpa using hn)]
  simp
theorem zxa (u:List (Nat × List UInt8)) (hk:∀ x∈u,x.1 < 4294967296) (r:List UInt8):zvg (rs ((uvB (unkT u).length++(unkT u).flatMap tagB)++r))=((unkT u).map (fun x=>(x.1,zbv x.2)),rs r):=by
 have hl:=zsv u
 unfold zvg
 rw[List.append_assoc,zoz (by omega)]
 simp only []
 rw[tagsN_rs r (unkT u) [] (fun x hx=>hk x (zwx hx)) (by
  rw[List.nil_append]
  exact(zpl u).imp (fun h=>Nat.ne_of_lt h))]
 simp
theorem ztq {l:List (Nat × List UInt8)} (h:(l.map Prod.fst).Pairwise (· < ·)):zdz l=l:=by
 unfold zdz
 refine List.mergeSort_of_pairwise ?_
 rw[List.pairwise_map] at h
 exact h.imp fun h=>by simpa using Nat.le_of_lt h
def Ty.dflB:Ty→Fld→Bool
 | .pr k d,f=>zhb k f.kind && (if k=.uuid then decide (((Ty.pr k d).tr (Ty.iniV (.pr k d))).s=List.replicate 16 0) else decide (((Ty.pr k d).tr (Ty.iniV (.pr k d))).n=numK f.kind f.dflt))
 | .txt .str,f=>decide (f.kind=8) && decide (f.null < 0)
 | .txt .nstr,f=>decide (f.kind=8) && decide (0≤f.null)
 | .txt _,f=>decide (f.kind=9)
 | .arr ..,f=>decide (f.kind=11)
 | .row ..,_=>false
 | .tv _,_=>false
 | .ptr ..,_=>false
mutual
def Ty.matB (fl:Bool) (ver:Int):Ty→Fld→Bool
 | .pr k _,f=>zhb k f.kind && !f.may ver
 | .txt .str,f=>decide (f.kind=8) && !f.may ver
 | .txt .nstr,f=>decide (f.kind=8)
 | .txt .byt,f=>decide (f.kind=9) && !f.may ver
 | .txt .nbyt,f=>decide (f.kind=9)
 | .arr _ nul e,f=>decide (f.kind=11) && (match nul with | none=>!f.may ver | some k=>!f.may ver || decide (k≤ver)) && e.matB fl ver f.of f.sub
 | .row ..,_=>false
 | .tv _,_=>false
 | .ptr _ _ _ fs,f=>decide (f.kind=10) && decide (0≤f.null) && fs.matB fl ver f.sub
def El.matB (fl:Bool) (ver:Int):El→Int→List Fld→Bool
 | .pr k,o,_=>zhb k o
 | .txt .str,o,_=>decide (o=8)
 | .txt .nstr,o,_=>decide (o=8)
 | .txt _,o,_=>decide (o=9)
 | .row _ _ _ fs,o,sub=>decide (o=10) && fs.matB fl ver sub && (fl || sub.any fun f=>f.has ver)
def Fds.matB (fl:Bool) (ver:Int):Fds→List Fld→Bool
 | .nil,[]=>!fl
 | .tags none,[]=>true
 | .cons g ty r,f :: fs=>(g.on ver == f.has ver) && (if f.has ver then ty.matB fl ver f else ty.dflB f) && r.matB fl ver fs
 | _,_=>false
end
theorem dfl_usual:∀ {ty:Ty} {f:Fld},ty.dflB f=true→zmt f (ty.tr ty.iniV)
 | .pr k d,f,h=>by
  simp only [Ty.dflB,Bool.and_eq_true] at h
  obtain⟨h1,h2⟩:=h
  unfold zmt
  cases k with
  | en t=>simp [zhb] at h1
  | uuid=>
   have hk:f.kind=7:=by simpa [zhb] using h1
   rw[if_neg (by omega),if_pos hk]
   simpa using h2
  | bool=>
   have hk:f.kind=0:=by simpa [zhb] using h1
   rw[if_neg (by omega),if_neg (by omega),if_neg (by omega)]
   simpa using h2
  | i8=>
   have hk:f.kind=1:=by simpa [zhb] using h1
   rw[if_neg (by omega),if_neg (by omega),if_neg (by omega)]
   simpa using h2
  | i16=>
   have hk:f.kind=2:=by simpa [zhb] using h1
   rw[if_neg (by omega),if_neg (by omega),if_neg (by omega)]
   simpa using h2
  | u16=>
   have hk:f.kind=5:=by simpa [zhb] using h1
   rw[if_neg (by omega),if_neg (by omega),if_neg (by omega)]
   simpa using h2
  | i32=>
   have hk:f.kind=3:=by simpa [zhb] using h1
   rw[if_neg (by omega),if_neg (by omega),if_neg (by omega)]
   simpa using h2
  | i64=>
   have hk:f.kind=4:=by simpa [zhb] using h1
   rw[if_neg (by omega),if_neg (by omega),if_neg (by omega)]
   simpa using h2
 | .txt .str,f,h=>by
  simp only [Ty.dflB,Bool.and_eq_true,decide_eq_true_eq] at h
  unfold zmt
  rw[if_pos h.1]
  exact⟨by show false=_; rw[decide_eq_false (by omega)],rfl⟩
 | .txt .nstr,f,h=>by
  simp only [Ty.dflB,Bool.and_eq_true,decide_eq_true_eq] at h
  unfold zmt
  rw[if_pos h.1]
  exact⟨by show true=_; rw[decide_eq_true h.2],rfl⟩
 | .txt .byt,f,h=>by
  simp only [Ty.dflB,decide_eq_true_eq] at h
  unfold zmt
  rw[if_neg (by omega),if_neg (by omega),if_pos (.inl h)]
  exact⟨rfl,rfl⟩
 | .txt .nbyt,f,h=>by
  simp only [Ty.dflB,decide_eq_true_eq] at h
  unfold zmt
  rw[if_neg (by omega),if_neg (by omega),if_pos (.inl h)]
  exact⟨rfl,rfl⟩
 | .arr ..,f,h=>by
  simp only [Ty.dflB,decide_eq_true_eq] at h
  unfold zmt
  rw[if_neg (by omega),if_neg (by omega),if_pos (.inr h)]
  exact⟨rfl,rfl⟩
 | .row ..,f,h=>by simp [Ty.dflB] at h
 | .tv _,f,h=>by simp [Ty.dflB] at h
 | .ptr ..,f,h=>by simp [Ty.dflB] at h
theorem zqa {flex:Bool} {v:Int}:∀ {fs:List Fld} {i:Nat} {t g:Tr},(∀ (j:Nat) (f:Fld) (y:Tr),fs[j]?=some f→g.l[i+j]?=some y→if f.has v then zyu flex v f (atT t (i+j)) y else zmt f y)→ztk flex v fs i t g
 | [],_,_,_,_=>by rw[ztk]; trivial
 | f :: r,i,t,g,h=>by
  rw[ztk]
  refine⟨fun y hy=>by have:=h 0 f y rfl (by simpa using hy); simpa using this,zqa fun j f' y hf hy=>?_⟩
  have:=h (j+1) f' y (by simpa using hf) (by rwa [show i+(j+1)=i+1+j by omega])
  rwa [show i+(j+1)=i+1+j by omega] at this
def zdx (flex:Bool) (v:Int) (fs:List Fld) (i:Nat) (t:Tr):List UInt8:=zcm flex v fs i t++if flex then uvB (unkT t.u).length++(unkT t.u).flatMap tagB else []
def TyRd (fl:Bool) (ver:Int) (ty:Ty) (f:Fld):Prop:=∀ (t:Tr) (r:List UInt8),wfT t→
 ∃ v,ty.rd ver fl (rs (zeo fl ver f t++r))=some (v,rs r)∧zyu fl ver f t (ty.tr v)∧0 < (zeo fl ver f t).length
def ElRd (fl:Bool) (ver:Int) (e:El) (o:Int) (sub:List Fld):Prop:=∀ (t:Tr) (r:List UInt8),wfT t→
 ∃ v,e.rd ver fl (rs (valB fl o (zci fl ver sub) false t++r))=some (v,rs r)∧((o=8∨o=10→(e.tr v).nl=false)∧zmz o (zaaz fl ver sub) t (e.tr v))∧0 < (valB fl o (zci fl ver sub) false t).length
def FdsRd (fl:Bool) (ver:Int) (fs:Fds) (sf:List Fld):Prop:=∀ (i:Nat) (t:Tr) (r:List UInt8),wfT t→
 ∃ l,fs.rd ver fl (rs (zdx fl ver sf i t++r))=some (l,rs r)∧(fs.trs l).length=sf.length∧fs.tgs l=zyt fl t.u ∧
  ∀ (j:Nat) (f:Fld) (y:Tr),sf[j]?=some f→(fs.trs l)[j]?=some y→if f.has ver then zyu fl ver f (atT t (i+j)) y else zmt f y
theorem rdN_rs {e:El} {fl:Bool} {ver o:Int} {sub:List Fld} (he:ElRd fl ver e o sub):∀ (l:List Tr) (r:List UInt8),(∀ x∈l,wfT x)→
  ∃ vs,rdN (e.rd ver fl) l.length (rs (l.flatMap (valB fl o (zci fl ver sub) false)++r))=some (vs,rs r)∧vs.length=l.length∧l.length≤(l.flatMap (valB fl o (zci fl ver sub) false)).length ∧
   ∀ (i:Nat) (x z:Tr),l[i]?=some x→(vs.map e.tr)[i]?=some z→(o=8∨o=10→z.nl=false)∧zmz o (zaaz fl ver sub) x z
 | [],r,_=>⟨[],rfl,rfl,Nat.zero_le _,fun i x z hx=>by simp at hx⟩
 | x :: l,r,hw=>by
  obtain⟨v,h1,h2,h3⟩:=he x (l.flatMap (valB fl o (zci fl ver sub) false)++r) (hw x (by simp))
  obtain⟨vs,g1,g2,g3,g4⟩:=rdN_rs he l r fun y hy=>hw y (by simp [hy])
  refine⟨v :: vs,?_,by simp [g2],?_,fun i y z hy hz=>?_⟩
  ·rw[List.length_cons,rdN,List.flatMap_cons,List.append_assoc,h1]
   simp only [g1]
  ·rw[List.flatMap_cons,List.length_append,List.length_cons]; omega
  ·cases i with
   | zero=>simp at hy hz; subst hy hz; exact h2
   | succ i=>exact g4 i y z (by simpa using hy) (by simpa using hz)
theorem zgm {fl:Bool} {ver:Int} {f:Fld} {t:Tr} (h:f.kind≠11) (h2:f.kind≠10):zeo fl ver f t=valB fl f.kind (zci fl ver f.sub) (f.nullB ver t) t:=zrr h fun x=>h2 x.1
theorem zhy {f:Fld} {ver:Int} {t:Tr} (h:f.may ver=false):f.nullB ver t=false:=by
 unfold Fld.may at h; unfold Fld.nullB; rw[Bool.and_assoc,h]; simp
theorem zxo {k:PK} {n:Int} (h:zhb k n=true):n≠11∧n≠8∧n≠10∧n≠9:=by
 cases k<;>simp [zhb] at h<;>omega
theorem pr_told {k:PK} {f:Fld} {fl:Bool} {ver:Int} (h:zhb k f.kind=true) (hm:f.may ver=false) (d:Option Value):TyRd fl ver (.pr k d) f:=by
 intro t r hw
 obtain⟨h11,h8,h10,_⟩:=zxo h
 rw[zgm h11 h10,zhy hm]
 obtain⟨v,h1,h2,h3,h4⟩:=pr_rd h fl (zci fl ver f.sub) (zaaz fl ver f.sub) false hw r
 refine⟨.num v,by rw[Ty.rd,h1],?_,h4⟩
 rw[zkt,zhy hm]
 refine⟨fun hc=>?_,fun _=>by rw[if_neg h11]; exact h2⟩
 rcases hc with hc | hc | hc
 ·exact absurd hc h8
 ·exact absurd hc h10
 ·rw[hm] at hc; cases hc
theorem zsx {k:Txt} {f:Fld} {fl:Bool} {ver:Int} (hk:f.kind=k.kind) (hm:k=.str∨k=.byt→f.may ver=false):TyRd fl ver (.txt k) f:=by
 intro t r hw
 have h89:f.kind=8∨f.kind=9:=by rw[hk]; cases k<;>simp [Txt.kind]
 have h11:f.kind≠11:=by omega
 rw[zgm h11 (by omega)]
 obtain⟨v,h1,h2,h3,_,h4⟩:=txt_rs k fl (f.nullB ver t) (fun h=>zhy (hm h)) (zci fl ver f.sub) t r f.kind hk
 refine⟨v,by rw[Ty.rd,h1],?_,h4⟩
 rw[zkt]
 refine⟨fun _=>h2,fun hn=>?_⟩
 rw[if_neg h11,zmz,if_pos h89]
 exact h3 hn
theorem Fds.matB_kt {fl:Bool} {ver:Int}:∀ (fs:Fds) (sf:List Fld),fs.matB fl ver sf=true→fs.kt=none
 | .nil,_,_=>rfl
 | .tags none,_,_=>rfl
 | .tags (some _),[],h=>by simp [Fds.matB] at h
 | .tags (some _),_ :: _,h=>by simp [Fds.matB] at h
 | .cons g ty r,f :: sf,h=>by
  simp only [Fds.matB,Bool.and_eq_true] at h
  exact Fds.matB_kt r sf h.2
 | .cons ..,[],h=>by simp [Fds.matB] at h
theorem zzx (n:Int) (r:List UInt8):PK.i8.rd (rs (fixB n 1++r))=(.int .i8 (IntKind.i8.wrap (be (fixB n 1))),rs r):=by
 show zeh 1 (fun l=>.int .i8 (IntKind.i8.wrap (be l))) (.int .i8 0) _=_
 rw[zgs (zaw n 1)]
theorem zwj (n:Int) (r:List UInt8):i8P (rs (fixB n 1++r))=IntKind.i8.wrap (be (fixB n 1)):=by
 unfold i8P
 rw[zzx]
mutual
theorem Ty.rd_of {fl:Bool} {ver:Int}:∀ (ty:Ty) (f:Fld),ty.matB fl ver f=true→TyRd fl ver ty f
 | .pr k d,f,h=>by
  simp only [Ty.matB,Bool.and_eq_true,Bool.not_eq_true'] at h
  exact pr_told h.1 h.2 d
 | .txt .str,f,h=>by
  simp only [Ty.matB,Bool.and_eq_true,Bool.not_eq_true',decide_eq_true_eq] at h
  exact zsx h.1 fun _=>h.2
 | .txt .nstr,f,h=>by
  simp only [Ty.matB,decide_eq_true_eq] at h
  exact zsx h fun hc=>by rcases hc with hc | hc<;>cases hc
 | .txt .byt,f,h=>by
  simp only [Ty.matB,Bool.and_eq_true,Bool.not_eq_true',decide_eq_true_eq] at h
  exact zsx h.1 fun _=>h.2
 | .txt .nbyt,f,h=>by
  simp only [Ty.matB,decide_eq_true_eq] at h
  exact zsx h fun hc=>by rcases hc with hc | hc<;>cases hc
 | .arr st nul e,f,h=>by
  simp only [Ty.matB,Bool.and_eq_true,decide_eq_true_eq] at h
  obtain⟨⟨h11,hnul⟩,he⟩:=h
  have he:=El.rd_of e f.of f.sub he
  intro t r hw
  rw[zki h11]
  have hlz:(zef t.l).length≤32767:=by simp [zef,most]; omega
  cases hnb:f.nullB ver t with
  | true=>
   have hmay:f.may ver=true:=by
    cases hm:f.may ver with
    | true=>rfl
    | false=>rw[zhy hm] at hnb; cases hnb
   have hk:∃ k,nul=some k∧k≤ver:=by
    cases nul with
    | none=>simp [hmay] at hnul
    | some k=>exact⟨k,rfl,by simpa [hmay] using hnul⟩
   obtain⟨k,rfl,hk⟩:=hk
   simp only [if_true,List.length_nil,List.flatMap_nil,List.append_nil]
   have hx:(if fl then zlj (rs (zae fl true 0 4++r)) else arrR (rs (zae fl true 0 4++r)))=(-1,rs r):=by
    unfold zae
    cases fl with
    | true=>simp only [Bool.and_true,if_true]; exact zxu r
    | false=>simp only [Bool.false_and,Bool.false_eq_true,if_false,if_true]; exact zacm r
   refine⟨.nilA,?_,?_,zez _ _ _ _ (by decide)⟩
   ·unfold Ty.rd; rw[hx]
    simp only [rs,Bool.false_eq_true,if_false]
    rw[if_neg (by decide)]
    try simp only
    rw[if_neg (by omega)]
   ·rw[zkt,hnb]
    exact⟨fun _=>rfl,fun hc=>by cases hc⟩
  | false=>
   simp only [Bool.false_eq_true,if_false]
   obtain⟨l,hl⟩:∃ l,l=zef t.l:=⟨_,rfl⟩
   rw[← hl] at hlz ⊢
   have hwl:∀ x∈l,wfT x:=fun x hx=>hw.l x (by rw[hl] at hx; exact List.mem_of_mem_take hx)
   obtain⟨vs,g1,g2,g3,g4⟩:=rdN_rs he l r hwl
   rw[List.append_assoc]
   have hx:(if fl then zlj (rs (zae fl false l.length 4++(l.flatMap (valB fl f.of (zci fl ver f.sub) false)++r))) else arrR (rs (zae fl false l.length 4++(l.flatMap (valB fl f.of (zci fl ver f.sub) false)++r))))=((l.length:Int),rs (l.flatMap (valB fl f.of (zci fl ver f.sub) false)++r)):=by
    unfold zae
    cases fl with
    | true=>simp only [Bool.and_false,Bool.false_eq_true,if_false,if_true]; exact zacg hlz (by rw[List.length_append]; omega)
    | false=>simp only [Bool.and_false,Bool.false_eq_true,if_false]; exact arr_rs hlz (by rw[List.length_append]; omega)
   have hpos:0 < (zae fl false l.length 4++l.flatMap (valB fl f.of (zci fl ver f.sub) false)).length:=by
    have:=zez fl false l.length 4 (by decide)
    rw[List.length_append]; omega
   by_cases h0:l.length=0
   ·have hl0:l=[]:=List.length_eq_zero_iff.1 h0
    rw[hl0] at hx g1 hpos ⊢
    simp only [List.length_nil,List.flatMap_nil,List.nil_append] at hx g1 hpos ⊢
    cases nul with
    | none=>
     have hm:f.may ver=false:=by simpa using hnul
     refine⟨.nilA,?_,?_,by simpa using hpos⟩
     ·unfold Ty.rd; rw[hx]
      simp only [rs,Bool.false_eq_true,if_false]
      rw[if_neg (by decide)]
     ·rw[zkt,hnb]
      refine⟨fun hc=>?_,fun _=>?_⟩
      ·rcases hc with hc | hc | hc
       ·omega
       ·omega
       ·rw[hm] at hc; cases hc
      ·rw[if_pos h11,← hl,hl0]
       exact⟨rfl,fun i x z hx=>by simp at hx⟩
    | some k=>
     refine⟨.arr e.sz [],?_,?_,by simpa using hpos⟩
     ·unfold Ty.rd; rw[hx]
      simp only [rs,Bool.false_eq_true,if_false]
      rw[if_neg (by decide)]
      simp
     ·rw[zkt,hnb]
      refine⟨fun hc=>rfl,fun _=>?_⟩
      rw[if_pos h11,← hl,hl0]
      exact⟨rfl,fun i x z hx=>by simp at hx⟩
   ·refine⟨.arr e.sz vs,?_,?_,hpos⟩
    ·unfold Ty.rd; rw[hx]
     simp only [rs,Bool.false_eq_true,if_false]
     rw[if_pos (by omega)]
     have:((l.length:Nat):Int).toNat=l.length:=by omega
     simp only [rs] at g1
     rw[this,g1]
    ·rw[zkt,hnb]
     refine⟨fun _=>rfl,fun _=>?_⟩
     rw[if_pos h11,← hl]
     refine⟨by show (vs.map e.tr).length=_; rw[List.length_map,g2],fun i x z hx hz=>g4 i x z hx hz⟩
 | .row ..,f,h=>by simp [Ty.matB] at h
 | .tv _,f,h=>by simp [Ty.matB] at h
 | .ptr T pT d fs,f,h=>by
  simp only [Ty.matB,Bool.and_eq_true,decide_eq_true_eq] at h
  obtain⟨⟨h10,hn⟩,hfs⟩:=h
  have hfs':=Fds.rd_of fs f.sub hfs
  intro t r hw
  rw[zlv ⟨h10,hn⟩]
  have hpt:zci fl ver f.sub t=zdx fl ver f.sub 0 t:=by simp [zci,endB,zdx]
  cases hnb:f.nullB ver t with
  | true=>
   simp only [if_true]
   refine⟨.nilP,?_,?_,by rw[zaw]; decide⟩
   ·rw[Ty.rd,if_pos (.inl (by rw[zwj]; decide)),zzx]
   ·rw[zkt,hnb]
    exact⟨fun _=>rfl,fun hc=>by cases hc⟩
  | false=>
   simp only [Bool.false_eq_true,if_false]
   obtain⟨l,h1,h2,h3,h4⟩:=hfs' 0 t r hw
   refine⟨.ptr l,?_,?_,by rw[List.length_append,zaw]; omega⟩
   ·rw[List.append_assoc,Ty.rd,if_neg (by rw[zwj,zzx]; exact fun h=>h.elim (by decide) fun h=>nomatch (show (false:Bool)=true from h)),zzx,hpt]
    simp only [h1]
   ·rw[zkt,hnb]
    refine⟨fun _=>rfl,fun _=>?_⟩
    rw[if_neg (by omega),zmz,if_neg (by omega),if_neg (by omega),if_pos h10]
    refine⟨h2,zqa fun j f' y hf hy=>?_,h3⟩
    have:=h4 j f' y hf (by rw[Nat.zero_add] at hy; exact hy)
    exact this
theorem El.rd_of {fl:Bool} {ver:Int}:∀ (e:El) (o:Int) (sub:List Fld),e.matB fl ver o sub=true→ElRd fl ver e o sub
 | .pr k,o,sub,h=>by
  simp only [El.matB] at h
  intro t r hw
  obtain⟨h11,h8,h10,_⟩:=zxo h
  obtain⟨v,h1,h2,h3,h4⟩:=pr_rd h fl (zci fl ver sub) (zaaz fl ver sub) false hw r
  exact⟨.num v,by rw[El.rd,h1],⟨fun hc=>h3,h2⟩,h4⟩
 | .txt k,o,sub,h=>by
  have hk:o=k.kind:=by cases k<;>simpa [El.matB,Txt.kind] using h
  intro t r hw
  have h89:o=8∨o=9:=by rw[hk]; cases k<;>simp [Txt.kind]
  obtain⟨v,h1,h2,h3,h5,h4⟩:=txt_rs k fl false (fun _=>rfl) (zci fl ver sub) t r o hk
  refine⟨v,by rw[El.rd,h1],⟨fun _=>by rw[h5]; exact h2,?_⟩,h4⟩
  rw[h5,zmz,if_pos h89]
  exact h3 rfl
 | .row T pT d fs,o,sub,h=>by
  simp only [El.matB,Bool.and_eq_true,decide_eq_true_eq] at h
  obtain⟨⟨h10,hfs⟩,hne⟩:=h
  have hfs':=Fds.rd_of fs sub hfs
  intro t r hw
  have hv:valB fl o (zci fl ver sub) false t=zdx fl ver sub 0 t:=by rw[h10]; simp [valB,zci,endB,zdx]
  rw[hv]
  obtain⟨l,h1,h2,h3,h4⟩:=hfs' 0 t r hw
  refine⟨.row l,by rw[El.rd,h1]; simp only [Fds.matB_kt fs sub hfs],⟨fun _=>rfl,?_⟩,?_⟩
  ·rw[zmz,if_neg (by omega),if_neg (by omega),if_pos h10]
   refine⟨h2,zqa fun j f y hf hy=>?_,h3⟩
   have:=h4 j f y hf (by rw[Nat.zero_add] at hy; exact hy)
   exact this
  ·unfold zdx
   rw[List.length_append]
   cases fl with
   | true=>have:=zwv (unkT t.u).length; simp only [if_true,List.length_append]; omega
   | false=>
    simp only [Bool.false_or,List.any_eq_true] at hne
    obtain⟨f,hf,hhas⟩:=hne
    have:=Fds.pos_of fs sub hfs 0 t hw f hf hhas
    omega
theorem Fds.pos_of {fl:Bool} {ver:Int}:∀ (fs:Fds) (sf:List Fld),fs.matB fl ver sf=true→∀ (i:Nat) (t:Tr),wfT t→∀ f∈sf,f.has ver=true→0 < (zcm fl ver sf i t).length
 | .nil,[],_,_,_,_,f,hf,_=>by cases hf
 | .tags _,[],_,_,_,_,f,hf,_=>by cases hf
 | .cons g ty r,f' :: sf,h,i,t,hw,f,hf,hh=>by
  simp only [Fds.matB,Bool.and_eq_true,beq_iff_eq] at h
  obtain⟨⟨hg,hty⟩,hr⟩:=h
  rw[zcm,List.length_append]
  rcases List.mem_cons.1 hf with e | hf
  ·subst e
   rw[hh] at hty
   simp only [if_true] at hty
   rw[hh,if_pos rfl]
   obtain⟨v,_,_,h4⟩:=Ty.rd_of ty f hty (atT t i) [] (hw.at i)
   omega
  ·have:=Fds.pos_of r sf hr (i+1) t hw f hf hh
   omega
 | .nil,_ :: _,h,_,_,_,_,_,_=>by simp [Fds.matB] at h
 | .tags _,_ :: _,h,_,_,_,_,_,_=>by simp [Fds.matB] at h
 | .cons ..,[],h,_,_,_,_,_,_=>by simp [Fds.matB] at h
theorem Fds.rd_of {fl:Bool} {ver:Int}:∀ (fs:Fds) (sf:List Fld),fs.matB fl ver sf=true→FdsRd fl ver fs sf
 | .nil,[],h=>by
  have h:fl=false:=by simpa [Fds.matB] using h
  subst h
  intro i t r hw
  refine⟨[],?_,rfl,?_,fun j f y hf=>by simp at hf⟩
  ·simp [zdx,zcm,Fds.rd]
  ·simp [Fds.tgs,zyt]
 | .tags (some _),[],h=>by simp [Fds.matB] at h
 | .tags none,[],_=>by
  intro i t r hw
  cases fl with
  | true=>
   refine⟨[.tags ((unkT t.u).map fun x=>(x.1,zbv x.2))],?_,rfl,?_,fun j f y hf=>by simp at hf⟩
   ·simp only [zdx,zcm,Fds.rd,if_true,List.nil_append]
    rw[zxa t.u hw.u r]
   ·simp only [Fds.tgs,zyt,if_true]
    refine ztq ?_
    have:=zpl t.u
    rw[List.map_map]
    exact this
  | false=>
   refine⟨[.tags []],?_,rfl,?_,fun j f y hf=>by simp at hf⟩
   ·simp [zdx,zcm,Fds.rd]
   ·simp [Fds.tgs,zyt,zdz]
 | .cons g ty r',f :: sf,h=>by
  simp only [Fds.matB,Bool.and_eq_true,beq_iff_eq] at h
  obtain⟨⟨hg,hty⟩,hr⟩:=h
  have hr':=Fds.rd_of r' sf hr
  intro i t r hw
  obtain⟨l,h1,h2,h3,h4⟩:=hr' (i+1) t r hw
  have key:∀ v,(if g.on ver then ty.rd ver fl (rs (zdx fl ver (f :: sf) i t++r)) else some (ty.iniV,rs (zdx fl ver (f :: sf) i t++r)))=some (v,rs (zdx fl ver sf (i+1) t++r))→(if f.has ver then zyu fl ver f (atT t i) (ty.tr v) else zmt f (ty.tr v))→
    ∃ l,(Fds.cons g ty r').rd ver fl (rs (zdx fl ver (f :: sf) i t++r))=some (l,rs r)∧((Fds.cons g ty r').trs l).length=(f :: sf).length∧(Fds.cons g ty r').tgs l=zyt fl t.u ∧
     ∀ (j:Nat) (f':Fld) (y:Tr),(f :: sf)[j]?=some f'→((Fds.cons g ty r').trs l)[j]?=some y→if f'.has ver then zyu fl ver f' (atT t (i+j)) y else zmt f' y:=by
   intro v hv ht
   refine⟨v :: l,?_,?_,h3,fun j f' y hf' hy=>?_⟩
   ·rw[Fds.rd,hv]
    simp only [h1]
   ·show (ty.tr v :: r'.trs l).length=_
    simp [h2]
   ·cases j with
    | zero=>
     simp at hf'
     have hy:some (ty.tr v)=some y:=hy
     injection hy with hy
     subst hf' hy
     exact ht
    | succ j=>
     have:=h4 j f' y (by simpa using hf') hy
     rwa [show i+1+j=i+(j+1) by omega] at this
  cases hh:f.has ver with
  | true=>
   rw[hh] at hty hg
   simp only [if_true] at hty
   obtain⟨v,g1,g2,_⟩:=Ty.rd_of ty f hty (atT t i) (zdx fl ver sf (i+1) t++r) (hw.at i)
   refine key v ?_ (by rw[hh]; exact g2)
   rw[hg,if_pos rfl]
   have:zdx fl ver (f :: sf) i t++r=zeo fl ver f (atT t i)++(zdx fl ver sf (i+1) t++r):=by
    unfold zdx; rw[zcm,hh]; simp only [if_true,List.append_assoc]
   rw[this]; exact g1
  | false=>
   rw[hh] at hty hg
   simp only [Bool.false_eq_true,if_false] at hty
   refine key ty.iniV ?_ (by rw[hh]; simpa using dfl_usual hty)
   rw[hg]
   simp only [Bool.false_eq_true,if_false]
   have:zdx fl ver (f :: sf) i t=zdx fl ver sf (i+1) t:=by
    unfold zdx; rw[zcm,hh]; simp
   rw[this]
 | .nil,_ :: _,h=>by simp [Fds.matB] at h
 | .tags _,_ :: _,h=>by simp [Fds.matB] at h
 | .cons ..,[],h=>by simp [Fds.matB] at h
end
def Fds.offB (fl:Bool) (ver:Int):Fds→Bool
 | .nil=>true
 | .tags kt=>kt.isNone && !fl
 | .cons g _ r=>!g.on ver && r.offB fl ver
theorem Fds.off_rd {fl:Bool} {ver:Int}:∀ {l:Fds},l.offB fl ver=true→∃ x,∀ s,l.rd ver fl s=some (x,s)
 | .nil,_=>⟨_,fun _=>by rw[Fds.rd]⟩
 | .tags none,h=>by simp only [Fds.offB,Option.isNone_none,Bool.true_and,Bool.not_eq_true'] at h; exact⟨[.tags []],fun s=>by rw[Fds.rd,h]; rfl⟩
 | .tags (some _),h=>by simp [Fds.offB] at h
 | .cons g ty r,h=>by
  simp only [Fds.offB,Bool.and_eq_true,Bool.not_eq_true'] at h
  obtain⟨x,hx⟩:=Fds.off_rd h.2
  exact⟨ty.iniV :: x,fun s=>by rw[Fds.rd,h.1]; simp [hx]⟩
theorem Fds.off_kt {fl:Bool} {ver:Int}:∀ {l:Fds},l.offB fl ver=true→l.kt=none
 | .nil,_=>rfl
 | .tags none,_=>rfl
 | .tags (some _),h=>by simp [Fds.offB] at h
 | .cons g ty r,h=>by
  simp only [Fds.offB,Bool.and_eq_true] at h
  exact Fds.off_kt (l:=r) h.2
theorem Fds.off_rdR {fl:Bool} {ver:Int} {l:Fds} (h:l.offB fl ver=true):∃ x,∀ s,l.rdR ver fl s=some (x,s):=by
 obtain⟨x,hx⟩:=Fds.off_rd h
 refine⟨x,fun s=>?_⟩
 unfold Fds.rdR
 rw[hx]
 simp only [Fds.off_kt h]
theorem msg_rd {m:Msg} {fx:Bool} {ver:Int} {sf:List Fld} {t:Tr} (hw:wfT t) (hm:m.fs.matB (fx && decide (ver ≥ m.fl)) ver sf=true) :
  ((fx && decide (ver ≥ m.fl))=true∨(sf.any fun f=>f.has ver)=true→zci (fx && decide (ver ≥ m.fl)) ver sf t≠[])∧∃ l,m.rd fx ver (rs (zci (fx && decide (ver ≥ m.fl)) ver sf t))=some l∧zaaz (fx && decide (ver ≥ m.fl)) ver sf t (m.fs.tr l):=by
 obtain⟨fl,hfl⟩:∃ fl,fl=(fx && decide (ver ≥ m.fl)):=⟨_,rfl⟩
 rw[← hfl] at hm ⊢
 have hp:zci fl ver sf t=zdx fl ver sf 0 t:=by simp [zci,endB,zdx]
 obtain⟨l,h1,h2,h3,h4⟩:=Fds.rd_of m.fs sf hm 0 t [] hw
 rw[List.append_nil] at h1
 rw[hp]
 refine⟨fun hne he=>?_,l,?_,?_⟩
 ·have hl:0 < (zdx fl ver sf 0 t).length:=by
   unfold zdx
   rw[List.length_append]
   rcases hne with hne | hne
   ·have:=zwv (unkT t.u).length; rw[hne]; simp only [if_true,List.length_append]; omega
   ·rw[List.any_eq_true] at hne
    obtain⟨f,hf,hh⟩:=hne
    have:=Fds.pos_of m.fs sf hm 0 t hw f hf hh
    omega
  rw[he] at hl; simp at hl
 ·unfold Msg.rd
  rw[← hfl,Fds.rdR,h1]
  simp only [Fds.matB_kt m.fs sf hm]
  simp [rs]
 ·refine⟨h2,zqa fun j f y hf hy=>?_,h3⟩
  exact h4 j f y hf (by rw[Nat.zero_add] at hy; exact hy)
def szU (u:List (Nat × List UInt8)):Nat:=(u.map fun x=>1+x.2.length).sum
mutual
def szT:Tr→Nat
 | .mk _ s _ l u=>1+s.length+szTs l+szU u
def szTs:List Tr→Nat
 | []=>0
 | t :: l=>szT t+szTs l
end
theorem zvu (t:Tr):szT t=1+t.s.length+szTs t.l+szU t.u:=by cases t; rfl
theorem zabb (t:Tr):1≤szT t:=by rw[zvu]; omega
theorem szU_ins (k:Nat) (x:List UInt8):∀ a:List (Nat × List UInt8),szU (insT k x a)≤szU a+(1+x.length)
 | []=>by simp [insT,szU]
 | (k',y) :: a=>by
  have ih:=szU_ins k x a
  rw[insT]
  split
  ·simp only [szU,List.map_cons,List.sum_cons] at ih ⊢; omega
  ·split
   ·omega
   ·simp only [szU,List.map_cons,List.sum_cons]; omega
theorem szU_fold:∀ u a:List (Nat × List UInt8),szU (u.foldl (fun a x=>insT x.1 x.2 a) a)≤szU a+szU u
 | [],a=>by simp [szU]
 | x :: u,a=>by
  have h1:=szU_ins x.1 x.2 a
  have h2:=szU_fold u (insT x.1 x.2 a)
  have e:szU (x :: u)=1+x.2.length+szU u:=by simp [szU]
  rw[List.foldl_cons]; omega
theorem szU_take (n:Nat):∀ u:List (Nat × List UInt8),szU (u.take n)≤szU u:=by
 induction n with
 | zero=>intro u; simp [szU]
 | succ n ih=>
  intro u
  cases u with
  | nil=>simp
  | cons x u=>have:=ih u; simp only [szU,List.take_succ_cons,List.map_cons,List.sum_cons] at this ⊢; omega
theorem szU_unk (u:List (Nat × List UInt8)):szU (unkT u)≤szU u:=by
 have h1:=szU_fold (u.take most) []
 have h2:=szU_take most u
 have:szU ([]:List (Nat × List UInt8))=0:=rfl
 unfold unkT; omega
theorem uvB_le {n:Nat} (h:n < 2 ^ 64):(uvB n).length≤10:=zkb h
theorem tags_len:∀ (u:List (Nat × List UInt8)),(∀ x∈u,x.1 < 4294967296)→(u.flatMap tagB).length≤20 * szU u
 | [],_=>by simp [szU]
 | x :: u,h=>by
  have ih:=tags_len u fun y hy=>h y (by simp [hy])
  have h1:=uvB_le (n:=x.1) (by have:=h x (by simp); omega)
  have hw:=zir x.2
  have h2:=uvB_le (n:=(zbv x.2).length) (by omega)
  have h3:(zbv x.2).length≤x.2.length:=by simp [zbv]; omega
  have e:szU (x :: u)=1+x.2.length+szU u:=by simp [szU]
  rw[List.flatMap_cons,List.length_append,e,tagB]
  simp only [List.length_append]; omega
theorem end_len {flex:Bool} {u:List (Nat × List UInt8)} (h:∀ x∈u,x.1 < 4294967296):(if flex then uvB (unkT u).length++(unkT u).flatMap tagB else []).length≤10+20 * szU u:=by
 cases flex with
 | false=>simp
 | true=>
  have h1:=zsv u
  have h2:=uvB_le (n:=(unkT u).length) (by omega)
  have h3:=tags_len (unkT u) fun x hx=>h x (zwx hx)
  have h4:=szU_unk u
  simp only [if_true,List.length_append]; omega
def K0:Nat:=40000
theorem zum (fl null:Bool) (n size:Nat) (hn:n≤32767) (hs:size≤8):(zae fl null n size).length≤10:=zsh fl null n size hn hs
theorem valB_len {fl:Bool} {kind:Int} {pt:Tr→List UInt8} {null:Bool} {t:Tr} (hp:kind=10→(pt t).length≤K0 * szT t):(valB fl kind pt null t).length≤K0 * szT t∧(kind≠10→(valB fl kind pt null t).length≤20+t.s.length):=by
 have h1:=zabb t
 have hs:t.s.length≤szT t:=by rw[zvu]; omega
 have hw:(zbv t.s).length≤t.s.length:=by simp [zbv]; omega
 have hw2:=zir t.s
 have key:(valB fl kind pt null t).length≤20+t.s.length→(valB fl kind pt null t).length≤K0 * szT t∧(kind≠10→(valB fl kind pt null t).length≤20+t.s.length):=fun h=>⟨by unfold K0; omega,fun _=>h⟩
 have hc:∀ size,size≤8→(zae fl null (if null then [] else zbv t.s).length size++(if null then [] else zbv t.s)).length≤20+t.s.length:=by
  intro size hsz
  have hl:(if null then [] else zbv t.s).length≤t.s.length∧(if null then [] else zbv t.s).length≤32767:=by cases null<;>simp<;>omega
  have:=zum fl null _ size hl.2 hsz
  rw[List.length_append]; omega
 by_cases e0:kind=0
 ·exact key (by rw[valB,if_pos e0]; simp; omega)
 by_cases e7:kind=7
 ·exact key (by rw[valB,if_neg e0,if_pos e7]; have:=zaca t.s; unfold idB at this; omega)
 by_cases e8:kind=8
 ·exact key (by rw[valB,if_neg e0,if_neg e7,if_pos e8]; exact hc 2 (by decide))
 by_cases e9:kind=9
 ·exact key (by rw[valB,if_neg e0,if_neg e7,if_neg e8,if_pos e9]; exact hc 4 (by decide))
 by_cases e10:kind=10
 ·rw[valB,if_neg e0,if_neg e7,if_neg e8,if_neg e9,if_pos e10]
  exact⟨hp e10,fun h=>absurd e10 h⟩
 ·refine key ?_
  rw[valB,if_neg e0,if_neg e7,if_neg e8,if_neg e9,if_neg e10,zaw]
  have:zge kind≤8:=by unfold zge; (repeat' split)<;>omega
  omega
theorem flat_len {f:Tr→List UInt8}:∀ {l:List Tr},(∀ x∈l,(f x).length≤K0 * szT x)→(l.flatMap f).length≤K0 * szTs l
 | [],_=>by simp
 | x :: l,h=>by
  have h1:=h x (by simp)
  have h2:=flat_len fun y hy=>h y (List.mem_cons_of_mem _ hy)
  rw[List.flatMap_cons,List.length_append,szTs,Nat.mul_add]; omega
theorem szTs_take (n:Nat):∀ l:List Tr,szTs (l.take n)≤szTs l:=by
 induction n with
 | zero=>intro l; simp [szTs]
 | succ n ih=>
  intro l
  cases l with
  | nil=>simp
  | cons x l=>have:=ih l; simp only [szTs,List.take_succ_cons]; omega
def zvl (t:Tr) (i:Nat):Nat:=szTs (t.l.drop i)
theorem restS_at (t:Tr) (i:Nat):(i < t.l.length→zvl t i=szT (atT t i)+zvl t (i+1))∧(¬ i < t.l.length→atT t i=tr0∧zvl t (i+1)=0):=by
 refine⟨fun h=>?_,fun h=>?_⟩
 ·unfold zvl atT
  rw[List.drop_eq_getElem_cons h,szTs,List.getD,List.getElem?_eq_getElem h]; rfl
 ·unfold zvl atT
  rw[List.getD,List.getElem?_eq_none (by omega),List.drop_of_length_le (by omega)]
  exact⟨rfl,rfl⟩
mutual
theorem fieldB_len {fl:Bool} {v:Int}:∀ (f:Fld),okFB f=true→∀ t,wfT t→(zeo fl v f t).length≤K0 * szT t∧(t=tr0→(zeo fl v f t).length≤20 * f.wgt)
 | .mk k fr to n g d o sub,h,t,hw=>by
  simp only [okFB,Bool.and_eq_true,decide_eq_true_eq,Bool.or_eq_true] at h
  obtain⟨_,h3⟩:=h
  have h1:=zabb t
  have hp0:(k=10∨(k=11∧o=10))→∀ x,wfT x→(zci fl v sub x).length+1≤K0 * szT x∧(x=tr0→(zci fl v sub x).length≤20 * wgts sub+10):=by
   intro hk x hx
   rcases h3 with⟨h2,h3⟩ | ⟨h3,h4⟩
   ·exfalso
    rcases hk with hk | hk
    ·exact h2 hk
    ·rcases h3 with h3 | h3
     ·exact h3 hk.1
     ·exact h3 hk.2
   ·have hs:wgts sub < 1000:=by simpa using h3
    have hf:=zpt (fl:=fl) (v:=v) sub h4 0 x hx
    have he:=end_len (flex:=fl) (u:=x.u) hx.u
    have hx0:zvl x 0=szTs x.l:=by simp [zvl]
    unfold zci endB
    rw[List.length_append]
    rw[hx0] at hf
    refine⟨?_,fun e0=>?_⟩
    ·rw[zvu x]
     have:K0 * (1+x.s.length+szTs x.l+szU x.u)=K0+K0 * x.s.length+K0 * szTs x.l+K0 * szU x.u:=by simp only [Nat.mul_add,Nat.mul_one]
     rw[this]
     have:20 * szU x.u≤K0 * szU x.u:=Nat.mul_le_mul_right _ (by decide)
     have:20 * wgts sub+11≤K0:=by unfold K0; omega
     omega
    ·subst e0
     have e1:szTs tr0.l=0:=rfl
     have e2:szU tr0.u=0:=rfl
     rw[e1] at hf
     rw[e2] at he
     omega
  by_cases e11:k=11
  ·have hp:o=10→∀ x,wfT x→(zci fl v sub x).length≤K0 * szT x:=fun ho x hx=>by
    have:=(hp0 (.inr ⟨e11,ho⟩) x hx).1; omega
   have e:zeo fl v (.mk k fr to n g d o sub) t=_:=zki (f:=.mk k fr to n g d o sub) e11
   rw[e]
   obtain⟨l,hl⟩:∃ l,l=(if (Fld.mk k fr to n g d o sub).nullB v t then [] else zef t.l):=⟨_,rfl⟩
   rw[← hl]
   have hsub:szTs l≤szTs t.l∧l.length≤32767∧(∀ x∈l,wfT x)∧(t=tr0→l=[]):=by
    rw[hl]
    cases (Fld.mk k fr to n g d o sub).nullB v t with
    | true=>exact⟨by simp [szTs],by simp,(fun x hx=>by cases hx),fun _=>rfl⟩
    | false=>exact⟨szTs_take most t.l,by simp [zef,most]; omega,fun x hx=>hw.l x (List.mem_of_mem_take hx),fun h=>by rw[h]; rfl⟩
   obtain⟨s1,s2,s3,s4⟩:=hsub
   have hc:=zum fl ((Fld.mk k fr to n g d o sub).nullB v t) l.length 4 s2 (by decide)
   have hfl:(l.flatMap (valB fl o (zci fl v sub) false)).length≤K0 * szTs l:=flat_len fun x hx=>(valB_len (fun ho=>hp ho x (s3 x hx))).1
   have hm:K0 * szTs l≤K0 * szTs t.l:=Nat.mul_le_mul_left _ s1
   refine⟨?_,fun h0=>?_⟩
   ·rw[List.length_append]
    show _+(l.flatMap (valB fl o (zci fl v sub) false)).length≤_
    rw[zvu t]
    have:K0 * (1+t.s.length+szTs t.l+szU t.u)=K0+K0 * t.s.length+K0 * szTs t.l+K0 * szU t.u:=by simp only [Nat.mul_add,Nat.mul_one]
    rw[this]
    have:10≤K0:=by decide
    omega
   ·rw[List.length_append]
    have:=s4 h0
    rw[this] at hc ⊢
    simp only [List.flatMap_nil,List.length_nil] at hc ⊢
    rw[Fld.wgt,if_neg (by omega)]
    omega
  ·by_cases e10:k=10∧0≤n
   ·have e:zeo fl v (.mk k fr to n g d o sub) t=_:=zlv (f:=.mk k fr to n g d o sub) e10
    rw[e]
    obtain⟨q1,q2⟩:=hp0 (.inl e10.1) t hw
    have l1:=zaw 1 1
    have l2:=zaw (-1) 1
    refine⟨?_,fun h0=>?_⟩
    ·split
     ·unfold K0; omega
     ·rw[List.length_append]; show _+(zci fl v sub t).length≤_; omega
    ·have q3:=q2 h0
     rw[Fld.wgt,if_pos e10.1]
     split
     ·omega
     ·rw[List.length_append]; show _+(zci fl v sub t).length≤_; omega
   ·have e:zeo fl v (.mk k fr to n g d o sub) t=_:=zrr (f:=.mk k fr to n g d o sub) e11 e10
    rw[e]
    have:=valB_len (fl:=fl) (kind:=k) (pt:=zci fl v sub) (null:=(Fld.mk k fr to n g d o sub).nullB v t) (t:=t) (fun hc=>by have:=(hp0 (.inl hc) t hw).1; omega)
    refine⟨this.1,fun h0=>?_⟩
    by_cases hk:k=10
    ·have q:=(hp0 (.inl hk) t hw).2 h0
     rw[Fld.wgt,if_pos hk]
     show (valB fl k (zci fl v sub) _ t).length≤_
     rw[hk]
     have e2:∀ b,valB fl 10 (zci fl v sub) b t=zci fl v sub t:=fun b=>by simp [valB]
     rw[e2]; omega
    ·have q:=this.2 hk
     rw[Fld.wgt,if_neg hk]
     have e3:t.s.length=0:=by rw[h0]; rfl
     show (valB fl k (zci fl v sub) _ t).length≤_
     omega
theorem zpt {fl:Bool} {v:Int}:∀ (fs:List Fld),zzp fs=true→∀ (i:Nat) (t:Tr),wfT t→(zcm fl v fs i t).length≤20 * wgts fs+K0 * zvl t i
 | [],_,i,t,_=>by simp [zcm]
 | f :: r,h,i,t,hw=>by
  simp only [zzp,Bool.and_eq_true] at h
  have h1:=fieldB_len (fl:=fl) (v:=v) f h.1 (atT t i) (hw.at i)
  have h2:=zpt (fl:=fl) (v:=v) r h.2 (i+1) t hw
  rw[zcm,List.length_append,wgts]
  have h3:(if f.has v then zeo fl v f (atT t i) else []).length≤(zeo fl v f (atT t i)).length:=by split<;>simp
  rw[Nat.mul_add]
  obtain⟨r1,r2⟩:=restS_at t i
  by_cases hi:i < t.l.length
  ·rw[r1 hi,Nat.mul_add]
   have h5:=h1.1
   omega
  ·obtain⟨e1,e2⟩:=r2 hi
   have h4:=h1.2 e1
   rw[e2] at h2
   have:K0 * 0=0:=rfl
   omega
end
theorem partB_len {fl:Bool} {v:Int} {fs:List Fld} (h:okFsB fs=true) (hl:fs.length < 1000) {t:Tr} (hw:wfT t):(zci fl v fs t).length≤K0 * szT t:=by
 obtain⟨hwg,h⟩:=zzq h
 have hf:=zpt (fl:=fl) (v:=v) fs h 0 t hw
 have he:=end_len (flex:=fl) (u:=t.u) hw.u
 have hx0:zvl t 0=szTs t.l:=by simp [zvl]
 unfold zci endB
 rw[List.length_append]
 rw[hx0] at hf
 rw[zvu t]
 have:K0 * (1+t.s.length+szTs t.l+szU t.u)=K0+K0 * t.s.length+K0 * szTs t.l+K0 * szU t.u:=by simp only [Nat.mul_add,Nat.mul_one]
 rw[this]
 have:20 * szU t.u≤K0 * szU t.u:=Nat.mul_le_mul_right _ (by decide)
 have:20 * wgts fs+10≤K0:=by unfold K0; omega
 omega
section
open Go Go.RowKit Go.ChangeShapes Go.WideShapes
structure BulkF {H:Type} (B:DataW H→Nat) (BA:List (DataW H)→Nat):Prop where
 lit:∀ l,1≤B (.lit l)
 slice:∀ e s,B (.slice e s)=BA e+BA s+1
 agg:∀ l,B (.agg l)=BA l+1
 nil:B .nil=1
 anil:BA []=0
 acons:∀ d l,BA (d :: l)=B d+BA l
structure TreeO (P:Program) (N:Nums):Prop where
 tree:∃ fs,P.underlying N.zf=some (.struct fs)∧fs.toList.map (fun f=>(f.offset,f.type))=[(0,N.zcv),(1,N.za),(2,N.zay),(3,N.zak),(4,N.zp)]
 tag:∃ fs,P.underlying N.zal=some (.struct fs)∧fs.toList.map (fun f=>(f.offset,f.type))=[(0,N.zc),(1,N.za)]
 cTree:P.cellsOf N.zf=5
 cTag:P.cellsOf N.zal=2
 c1:P.cellsOf N.zcv=1∧P.cellsOf N.za=1∧P.cellsOf N.zay=1∧P.cellsOf N.zak=1∧P.cellsOf N.zp=1∧P.cellsOf N.zc=1∧P.cellsOf N.zh=1
theorem zwh {w:World} {a:Addr}:∀ {n k:Nat} {cs:List Value},((List.range' k n).mapM fun i=>w.cell? (a.add i))=some cs→cs.length=n∧∀ j,j < n→w.cell? (a.add (k+j))=cs[j]?
 | 0,k,cs,h=>by simp at h; subst h; exact⟨rfl,fun j hj=>by omega⟩
 | n+1,k,cs,h=>by
  rw[List.range'_succ,List.mapM_cons] at h
  simp only [Option.bind_eq_bind,Option.bind_eq_some_iff,Option.pure_def,Option.some.injEq] at h
  obtain⟨c,hc,r,hr,rfl⟩:=h
  obtain⟨g1,g2⟩:=zwh hr
  refine⟨by simp [g1],fun j hj=>?_⟩
  cases j with
  | zero=>simpa using hc
  | succ j=>have:=g2 j (by omega); rw[show k+(j+1)=k+1+j by omega,this]; simp
theorem zacf {w:World} {base:Nat} {a:Addr} {n:Nat} {cs:List Value} (h:w.cells? base a n=some cs) (hn:0 < n):∃ b o,a=⟨b,o,none⟩∧cs.length=n∧w.rangeAt b o cs:=by
 unfold World.cells? at h
 split at h
 case isFalse=>cases h
 rw[List.range_eq_range'] at h
 obtain⟨h1,h2⟩:=zwh h
 have h0:=h2 0 hn
 have e0:a.add (0+0)=a:=by simp [Addr.add]
 rw[e0,List.getElem?_eq_getElem (by omega)] at h0
 obtain⟨b,o,s⟩:=a
 have hs:s=none:=by
  cases s with
  | none=>rfl
  | some x=>
   unfold World.cell? at h0
   split at h0
   ·simp at h0
   ·cases h0
 subst hs
 refine⟨b,o,rfl,h1,fun j v hj=>?_⟩
 have hl:=(List.getElem?_eq_some_iff.1 hj).1
 have:=h2 j (by omega)
 rw[hj,Nat.zero_add] at this
 rwa [Addr.add_mid] at this
theorem add_next {a:Addr} {m b o n:Nat} (h:a.add m=⟨b,o,none⟩):a.add (m+n)=⟨b,o+n,none⟩:=by
 unfold Addr.add at h ⊢
 split at h
 ·rename_i hm
  subst hm h
  split
  ·rename_i h2; have:n=0:=by omega
   subst this; rfl
  ·simp
 ·rename_i hm
  rw[if_neg (by omega)]
  simp only [Addr.mk.injEq,and_true] at h ⊢
  omega
inductive RelL {α:Type} (R:α→List Value→Prop):List α→List (List Value)→Prop
 | nil:RelL R [] []
 | cons {x l c r}:R x c→RelL R l r→RelL R (x :: l) (c :: r)
theorem zoi {H α:Type} {w:World} {a:Addr} {sz:Nat} (hsz:0 < sz) (R:α→List Value→Prop) (S:α→Nat) {B:DataW H→Nat} {BA:List (DataW H)→Nat} (hB:BulkF B BA):∀ (elems:List (DataW H × List MemPlace)) (k:Nat),
  (∀ i (h:i < elems.length),∃ cs x,w.cells? 0 (a.add ((k+i) * sz)) sz=some cs∧R x cs∧S x≤B (elems[i]).1)→
  ∃ l css,l.length=elems.length∧RelL R l css∧(l.map S).sum≤BA (elems.map (·.1))∧(elems≠[]→∃ b o,a.add (k * sz)=⟨b,o,none⟩∧w.rangeAt b o css.flatten)
 | [],k,_=>⟨[],[],rfl,.nil,by simp,fun h=>absurd rfl h⟩
 | e :: elems,k,h=>by
  obtain⟨cs,x,hc,hR,hS⟩:=h 0 (by simp)
  obtain⟨b,o,ha,hl,hr⟩:=zacf hc hsz
  rw[Nat.add_zero] at ha
  obtain⟨l,css,g1,g2,g3,g4⟩:=zoi hsz R S hB elems (k+1) fun i hi=>by
   have:=h (i+1) (by simp; omega)
   rw[show k+(i+1)=k+1+i by omega] at this
   simpa using this
  refine⟨x :: l,cs :: css,by simp [g1],.cons hR g2,?_,fun _=>⟨b,o,ha,?_⟩⟩
  ·rw[List.map_cons,List.sum_cons,List.map_cons,hB.acons]
   have hS:S x≤B e.1:=hS
   omega
  ·rw[List.flatten_cons,zx]
   refine⟨hr,?_⟩
   cases elems with
   | nil=>
    have:l=[]:=List.length_eq_zero_iff.1 (by simpa using g1)
    subst this
    cases g2
    intro j v hj; simp at hj
   | cons e' elems=>
    obtain⟨b2,o2,ha2,hr2⟩:=g4 (by simp)
    have:=add_next (n:=sz) ha
    rw[show k * sz+sz=(k+1) * sz by rw[Nat.add_mul,Nat.one_mul],ha2] at this
    injection this with e1 e2
    subst e1 e2
    rw[hl]; exact hr2
theorem wf_i64 {n:Int} (h:(Lit.int .i64 n).wf=true):-9223372036854775808≤n∧n < 9223372036854775808:=by
 simp [Lit.wf,IntKind.min,IntKind.max,IntKind.signed,IntKind.bits] at h
 omega
theorem wf_u32 {n:Int} (h:(Lit.int .u32 n).wf=true):0≤n∧n < 4294967296:=by
 simp [Lit.wf,IntKind.min,IntKind.max,IntKind.signed,IntKind.bits] at h
 omega
section
variable {P:Program} {N:Nums} {H:Type} {enc:TypeId × Value→H} {w:World} {B:DataW H→Nat} {BA:List (DataW H)→Nat}
theorem oct_open (T:TreeO P N) (Bs:Base P N) (hB:BulkF B BA) {fuel:Nat} {c:Value} {x:DataW H × List MemPlace} (h:DataW.trod enc P w 0 (fun _=>true) true fuel N.za [c]=some x):∃ s,OctA w c s∧s.length+1≤B x.1:=by
 have he:P.underlying N.zh=some (.int .u8):=Bs.uint8.und
 rcases DataW.trod_slice Bs.Lu8.und h with⟨hc,rfl⟩ | ⟨a,len,cap,elems,rest,n,rfl,hc,rfl,hb,hl,hm,hlen,hel,hsp,_⟩
 ·injection hc with hc
  exact⟨[],.inl ⟨none,0,hc,rfl⟩,by rw[hB.nil]; simp⟩
 ·injection hc with hc
  rw[T.c1.2.2.2.2.2.2] at hel
  obtain⟨l,css,g1,g2,g3,g4⟩:=zoi (a:=a) (sz:=1) (by decide) (fun (y:UInt8) cs=>cs=[zz y]) (fun _=>1) hB elems 0 fun i hi=>by
   have h1:=hel i (by omega)
   rw[List.getElem?_eq_getElem hi,Option.bind_eq_some_iff] at h1
   obtain⟨cs,hcs,hy⟩:=h1
   obtain⟨m,rfl,hx,hw⟩:=DataW.trod_int he hy
   refine⟨_,UInt8.ofNat m.toNat,by rw[Nat.zero_add]; exact hcs,by rw[octet_of hw],?_⟩
   rw[hx]; exact hB.lit _
  have hcs:∀ {l:List UInt8} {css:List (List Value)},RelL (fun (y:UInt8) cs=>cs=[zz y]) l css→css.flatten=l.map zz:=by
   intro l css hr
   induction hr with
   | nil=>rfl
   | cons h _ ih=>subst h; simp [ih]
  have hs:(l.map fun _=>1).sum=l.length:=by
   clear g1 g2 g3 g4
   induction l with
   | nil=>rfl
   | cons y l ih=>simp [ih]; omega
  refine⟨l,?_,?_⟩
  ·by_cases h0:len=0
   ·exact .inl ⟨some a,cap,by rw[hc,h0],List.length_eq_zero_iff.1 (by omega)⟩
   ·obtain⟨b,o,ha,hr⟩:=g4 (fun e=>by rw[e] at hlen; simp at hlen; omega)
    have ha:a=⟨b,o,none⟩:=by simpa [Addr.add] using ha
    exact .inr ⟨b,o,cap,by rw[hc,ha,g1,hlen],by omega,by rw[← hcs g2]; exact hr⟩
  ·rw[hB.slice]; omega
theorem tags_open (T:TreeO P N) (Bs:Base P N) (hT:zsr P N N.zf N.zal N.zak N.zp) (hB:BulkF B BA) {fuel:Nat} {c:Value} {x:DataW H × List MemPlace} (h:DataW.trod enc P w 0 (fun _=>true) true fuel N.zp [c]=some x):∃ u,zkr w c u∧(∀ y∈u,y.1 < 4294967296)∧szU u+1≤B x.1:=by
 rcases DataW.trod_slice hT.lg.und h with⟨hc,rfl⟩ | ⟨a,len,cap,elems,rest,n,rfl,hc,rfl,hb,hl,hm,hlen,hel,hsp,_⟩
 ·injection hc with hc
  exact⟨[],.inl ⟨none,0,hc,rfl⟩,(fun y hy=>by cases hy),by rw[hB.nil]; simp [szU]⟩
 ·injection hc with hc
  rw[T.cTag] at hel
  obtain⟨fs,hu,hfs⟩:=T.tag
  obtain⟨l,css,g1,g2,g3,g4⟩:=zoi (a:=a) (sz:=2) (by decide) (fun (y:Nat × List UInt8) cs=>∃ s,cs=[.int .u32 y.1,s]∧OctA w s y.2∧y.1 < 4294967296) (fun y=>1+y.2.length) hB elems 0 fun i hi=>by
   have h1:=hel i (by omega)
   rw[List.getElem?_eq_getElem hi,Option.bind_eq_some_iff] at h1
   obtain⟨cs,hcs,hy⟩:=h1
   obtain⟨xs,n',rfl,hx,hcl,hxl,hfi⟩:=DataW.trod_struct hu hy
   rw[T.cTag] at hcl
   have hfl:fs.toList.length=2:=by have:=congrArg List.length hfs; simpa using this
   match cs,hcl with
   | [c0,c1],_=>
    have f0:∃ f,fs[0]?=some f∧f.offset=0∧f.type=N.zc:=by
     have:=congrArg (fun l=>l[0]?) hfs
     simp only [List.getElem?_map,Array.getElem?_toList] at this
     cases hf:fs[0]? with
     | none=>rw[hf] at this; simp at this
     | some f=>rw[hf] at this; simp at this; exact⟨f,rfl,this.1,this.2⟩
    have f1:∃ f,fs[1]?=some f∧f.offset=1∧f.type=N.za:=by
     have:=congrArg (fun l=>l[1]?) hfs
     simp only [List.getElem?_map,Array.getElem?_toList] at this
     cases hf:fs[1]? with
     | none=>rw[hf] at this; simp at this
     | some f=>rw[hf] at this; simp at this; exact⟨f,rfl,this.1,this.2⟩
    obtain⟨f0,e0,o0,t0⟩:=f0
    obtain⟨f1,e1,o1,t1⟩:=f1
    have h0:=hfi 0 f0 e0
    have h1:=hfi 1 f1 e1
    rw[o0,t0,T.c1.2.2.2.2.2.1,List.getElem?_eq_getElem (by rw[hxl,← Array.length_toList,hfl]; decide)] at h0
    rw[o1,t1,T.c1.2.1,List.getElem?_eq_getElem (by rw[hxl,← Array.length_toList,hfl]; decide)] at h1
    obtain⟨m,hm1,hm2,hm3⟩:=DataW.trod_int Bs.uint32.und h0
    obtain⟨s,hs1,hs2⟩:=oct_open T Bs hB h1
    have hw:=wf_u32 hm3
    refine⟨_,(m.toNat,s),by rw[Nat.zero_add]; exact hcs,⟨c1,?_,hs1,by show m.toNat < _; omega⟩,?_⟩
    ·have:c0=.int .u32 m:=by simpa using hm1
     rw[this,show ((m.toNat:Nat):Int)=m by omega]
    ·rw[hx,hB.agg]
     have hx2:xs.length=2:=by rw[hxl,← Array.length_toList,hfl]
     match xs,hx2 with
     | [x0,x1],_=>
      simp only [List.map_cons,hB.acons]
      have hs2:s.length+1≤B x1.1:=hs2
      show 1+s.length≤_
      omega
  have hcs:∀ {l:List (Nat × List UInt8)} {css:List (List Value)},RelL (fun (y:Nat × List UInt8) cs=>∃ s,cs=[.int .u32 y.1,s]∧OctA w s y.2∧y.1 < 4294967296) l css→UsA w l css.flatten∧∀ y∈l,y.1 < 4294967296:=by
   intro l css hr
   induction hr with
   | nil=>exact⟨rfl,fun y hy=>by cases hy⟩
   | cons h _ ih=>
    obtain⟨s,rfl,h1,h2⟩:=h
    refine⟨⟨s,_,rfl,h1,ih.1⟩,fun y hy=>?_⟩
    rcases List.mem_cons.1 hy with e | hy
    ·rw[e]; exact h2
    ·exact ih.2 y hy
  obtain⟨k1,k2⟩:=hcs g2
  refine⟨l,?_,k2,by rw[hB.slice]; unfold szU; omega⟩
  by_cases h0:len=0
  ·exact .inl ⟨some a,cap,by rw[hc,h0],List.length_eq_zero_iff.1 (by omega)⟩
  ·obtain⟨b,o,ha,hr⟩:=g4 (fun e=>by rw[e] at hlen; simp at hlen; omega)
   have ha:a=⟨b,o,none⟩:=by simpa [Addr.add] using ha
   exact .inr ⟨b,o,cap,css.flatten,by rw[hc,ha,g1,hlen],by omega,k1,hr⟩
theorem tree_open (T:TreeO P N) (Bs:Base P N) (hT:zsr P N N.zf N.zal N.zak N.zp) (hB:BulkF B BA):∀ (fuel:Nat) (cs:List Value) (x:DataW H × List MemPlace),DataW.trod enc P w 0 (fun _=>true) true fuel N.zf cs=some x→∃ t,RepA w t cs∧wfT t∧szT t≤B x.1:=by
 intro fuel
 induction fuel using Nat.strongRecOn with
 | _ fuel ih=>
 intro cs x h
 obtain⟨fs,hu,hfs⟩:=T.tree
 obtain⟨xs,n',rfl,hx,hcl,hxl,hfi⟩:=DataW.trod_struct hu h
 rw[T.cTree] at hcl
 have hfl:fs.toList.length=5:=by have:=congrArg List.length hfs; simpa using this
 have hf:∀ (k:Nat) (o:Nat) (t:TypeId),[(0,N.zcv),(1,N.za),(2,N.zay),(3,N.zak),(4,N.zp)][k]?=some (o,t)→∃ f,fs[k]?=some f∧f.offset=o∧f.type=t:=by
  intro k o t hk
  have:=congrArg (fun l=>l[k]?) hfs
  simp only [List.getElem?_map,Array.getElem?_toList] at this
  rw[hk] at this
  cases hf:fs[k]? with
  | none=>rw[hf] at this; simp at this
  | some f=>rw[hf] at this; simp at this; exact⟨f,rfl,this.1,this.2⟩
 have hx5:xs.length=5:=by rw[hxl,← Array.length_toList,hfl]
 match cs,hcl,xs,hx5 with
 | [c0,c1,c2,c3,c4],_,[x0,x1,x2,x3,x4],_=>
  obtain⟨f0,e0,o0,t0⟩:=hf 0 _ _ rfl
  obtain⟨f1,e1,o1,t1⟩:=hf 1 _ _ rfl
  obtain⟨f2,e2,o2,t2⟩:=hf 2 _ _ rfl
  obtain⟨f3,e3,o3,t3⟩:=hf 3 _ _ rfl
  obtain⟨f4,e4,o4,t4⟩:=hf 4 _ _ rfl
  have h0:=hfi 0 f0 e0
  have h1:=hfi 1 f1 e1
  have h2:=hfi 2 f2 e2
  have h3:=hfi 3 f3 e3
  have h4:=hfi 4 f4 e4
  rw[o0,t0,T.c1.1] at h0
  rw[o1,t1,T.c1.2.1] at h1
  rw[o2,t2,T.c1.2.2.1] at h2
  rw[o3,t3,T.c1.2.2.2.1] at h3
  rw[o4,t4,T.c1.2.2.2.2.1] at h4
  have h0:DataW.trod enc P w 0 (fun _=>true) true n' N.zcv [c0]=some x0:=h0
  have h1:DataW.trod enc P w 0 (fun _=>true) true n' N.za [c1]=some x1:=h1
  have h2:DataW.trod enc P w 0 (fun _=>true) true n' N.zay [c2]=some x2:=h2
  have h3:DataW.trod enc P w 0 (fun _=>true) true n' N.zak [c3]=some x3:=h3
  have h4:DataW.trod enc P w 0 (fun _=>true) true n' N.zp [c4]=some x4:=h4
  obtain⟨m,hm1,hm2,hm3⟩:=DataW.trod_int Bs.int64.und h0
  obtain⟨s,hs1,hs2⟩:=oct_open T Bs hB h1
  obtain⟨nl,hn1,hn2⟩:=DataW.trod_bool Bs.bool.und h2
  obtain⟨u,hu1,hu2,hu3⟩:=tags_open T Bs hT hB h4
  have hc0:c0=.int .i64 m:=by simpa using hm1
  have hc2:c2=.bool nl:=by simpa using hn1
  have hb0:1≤B x0.1:=by rw[hm2]; exact hB.lit _
  have trees:∃ l,zij w c3 l∧(∀ y∈l,wfT y)∧szTs l+1≤B x3.1:=by
   rcases DataW.trod_slice hT.lt.und h3 with⟨hc,hx3⟩ | ⟨a,len,cap,elems,rest,n,hn',hc,hx3,hb,hl,hm,hlen,hel,hsp,_⟩
   ·injection hc with hc
    exact⟨[],.inl ⟨none,0,hc,rfl⟩,(fun y hy=>by cases hy),by rw[hx3,hB.nil]; simp [szTs]⟩
   ·injection hc with hc
    rw[T.cTree] at hel
    obtain⟨l,css,g1,g2,g3,g4⟩:=zoi (a:=a) (sz:=5) (by decide) (fun (y:Tr) cs=>RepA w y cs∧wfT y) szT hB elems 0 fun i hi=>by
     have h1:=hel i (by omega)
     rw[List.getElem?_eq_getElem hi,Option.bind_eq_some_iff] at h1
     obtain⟨cs,hcs,hy⟩:=h1
     obtain⟨y,y1,y2,y3⟩:=ih n (by omega) cs _ hy
     exact⟨cs,y,by rw[Nat.zero_add]; exact hcs,⟨y1,y2⟩,y3⟩
    have hcs:∀ {l:List Tr} {css:List (List Value)},RelL (fun (y:Tr) cs=>RepA w y cs∧wfT y) l css→zks w l css∧∀ y∈l,wfT y:=by
     intro l css hr
     induction hr with
     | nil=>exact⟨rfl,fun y hy=>by cases hy⟩
     | cons h _ ih=>
      refine⟨⟨_,_,rfl,h.1,ih.1⟩,fun y hy=>?_⟩
      rcases List.mem_cons.1 hy with e | hy
      ·rw[e]; exact h.2
      ·exact ih.2 y hy
    obtain⟨k1,k2⟩:=hcs g2
    have hsum:∀ l:List Tr,(l.map szT).sum=szTs l:=by
     intro l
     induction l with
     | nil=>rfl
     | cons y l ih=>rw[List.map_cons,List.sum_cons,szTs,ih]
    rw[hsum] at g3
    refine⟨l,?_,k2,by rw[hx3,hB.slice]; omega⟩
    by_cases h0:len=0
    ·exact .inl ⟨some a,cap,by rw[hc,h0],List.length_eq_zero_iff.1 (by omega)⟩
    ·obtain⟨b,o,ha,hr⟩:=g4 (fun e=>by rw[e] at hlen; simp at hlen; omega)
     have ha:a=⟨b,o,none⟩:=by simpa [Addr.add] using ha
     exact .inr ⟨b,o,cap,css,by rw[hc,ha,g1,hlen],by omega,k1,hr⟩
  obtain⟨l,hl1,hl2,hl3⟩:=trees
  have hwfs:∀ l:List Tr,(∀ y∈l,wfT y)→wfTs l:=by
   intro l
   induction l with
   | nil=>intro _; trivial
   | cons y l ih=>intro h; exact⟨h y (by simp),ih fun z hz=>h z (List.mem_cons_of_mem _ hz)⟩
  refine⟨.mk m s nl l u,?_,⟨wf_i64 hm3,hu2,hwfs l hl2⟩,?_⟩
  ·rw[hc0,hc2]
   exact RepA.mk' (t:=.mk m s nl l u) hs1 hl1 hu1
  ·rw[hx,hB.agg]
   simp only [List.map_cons,List.map_nil,hB.acons,hB.anil,szT]
   omega
end
end
inductive SC where
 | mk (parts:List (Nat × Int)) (sub:Option FuncId) (fs:List SC)
def zzr (parts:List (Nat × Int)):List Int:=parts.foldl (fun l p=>l.set p.1 p.2) [0,0,0,0,0,0,0]
def mkF (l:List Int) (sub:List Fld):Fld:=.mk (l.getD 0 0) (l.getD 1 0) (l.getD 2 0) (l.getD 3 0) (l.getD 4 0) (l.getD 5 0) (l.getD 6 0) sub
mutual
def SC.fld:SC→Fld
 | .mk parts _ fs=>mkF (zzr parts) (SC.flds fs)
def SC.flds:List SC→List Fld
 | []=>[]
 | s :: l=>s.fld :: SC.flds l
end
def SC.parts:SC→List (Nat × Int) | .mk p _ _=>p
def SC.fs:SC→List SC | .mk _ _ l=>l
theorem SC.flds_len:∀ l:List SC,(SC.flds l).length=l.length
 | []=>rfl
 | _ :: l=>by simp [SC.flds,SC.flds_len l]
section
variable (N:Nums) (M:zdd)
def partO (p:Nat × Int):Nat × Operand:=(p.1,.const (.int .i64 p.2))
def scOps:List SC→Nat→List ROp
 | [],_=>[]
 | .mk parts none _ :: l,k=>⟨some k,.build M.zn (parts.map partO).toArray,0,none,[]⟩ :: scOps l (k+1)
 | .mk parts (some f) _ :: l,k=>⟨some k,.call ⟨.value (.func f),#[],#[]⟩,M.zaz,none,[]⟩ :: ⟨some (k+1),.build M.zn (parts.map partO++[(7,T k)]).toArray,0,none,[]⟩ :: scOps l (k+2)
def scSl:List SC→Nat→List Nat
 | [],_=>[]
 | .mk _ none _ :: l,k=>k :: scSl l (k+1)
 | .mk _ (some _) _ :: l,k=>(k+1) :: scSl l (k+2)
def zqg:List SC→Nat→Nat
 | [],k=>k
 | .mk _ none _ :: l,k=>zqg l (k+1)
 | .mk _ (some _) _ :: l,k=>zqg l (k+2)
def zabk (l:List SC) (k:Nat):ROp:=⟨some (zqg l k),.buildSlice M.zaz l.length ((scSl l k).zipIdx.map fun p=>(p.2,T p.1)).toArray,0,none,[]⟩
def c_msg (l:List SC) (fl:Int):C:=seqs [.ops [⟨some 100,.alloc M.zam,0,none,[]⟩],
 .ops (scOps M l 0++[zabk M l 0,⟨some (zqg l 0+1),.build M.zam #[(1,.const (.int .i64 fl)),(0,T (zqg l 0))],0,none,[]⟩,⟨none,.store M.zam (V 0) (T (zqg l 0+1)),0,none,[]⟩]),.ret]
end
def SC.partsB (s:SC):Bool:=s.parts.all fun p=>Nat.blt p.1 7
def scB (l:List SC):Bool:=l.all SC.partsB && Nat.blt (zqg l 0) 90 && Nat.blt 0 l.length && Nat.blt l.length 1000
theorem zsz:∀ (l:List SC) (k:Nat),k≤zqg l k
 | [],k=>Nat.le_refl _
 | .mk _ none _ :: l,k=>Nat.le_trans (Nat.le_succ k) (zsz l (k+1))
 | .mk _ (some _) _ :: l,k=>Nat.le_trans (by omega) (zsz l (k+2))
theorem zxe:∀ (l:List SC) (k:Nat),(scSl l k).length=l.length
 | [],k=>rfl
 | .mk _ none _ :: l,k=>by simp [scSl,zxe l]
 | .mk _ (some _) _ :: l,k=>by simp [scSl,zxe l]
def zkm (l:List Int) (v:Value):List Value:=l.map (fun n=>Value.int .i64 n)++[v]
def zxm:Array (Nat × Nat):=[(0,1),(1,1),(2,1),(3,1),(4,1),(5,1),(6,1),(7,1)].toArray
theorem zwg:∀ i,i < 8→zxm[i]?=some (i,1)
 | 0,_=>rfl | 1,_=>rfl | 2,_=>rfl | 3,_=>rfl | 4,_=>rfl | 5,_=>rfl | 6,_=>rfl | 7,_=>rfl
 | n+8,h=>by omega
theorem zxr (rest:List (Nat × Value)):∀ (parts:List (Nat × Int)) (l:List Int) (v:Value),l.length=7→(parts.all fun p=>Nat.blt p.1 7)=true→
  Instr.fill (zxm[·]?) (zkm l v).toArray (parts.map (fun (p:Nat × Int)=>(p.1,Value.int .i64 p.2))++rest)=Instr.fill (zxm[·]?) (zkm (parts.foldl (fun l p=>l.set p.1 p.2) l) v).toArray rest
 | [],l,v,_,_=>rfl
 | (i,n) :: parts,l,v,hl,h=>by
  simp only [List.all_cons,Bool.and_eq_true] at h
  have hi:i < 7:=by simpa using h.1
  rw[List.map_cons,List.cons_append,Instr.fill,zwg i (by omega)]
  simp only
  have hc:(Value.int .i64 n).cells=#[.int .i64 n]:=rfl
  rw[hc,if_neg (by simp [zkm,hl]; omega)]
  have e:(((#[Value.int .i64 n]:Array Value).zipIdx.foldl (fun cs x=>cs.setIfInBounds (i+x.2) x.1) (zkm l v).toArray))=(zkm (l.set i n) v).toArray:=by
   have:(#[Value.int .i64 n]:Array Value).zipIdx=#[(Value.int .i64 n,0)]:=rfl
   rw[this]
   simp only [List.foldl_toArray',List.foldl_cons,List.foldl_nil,Nat.add_zero,zkm,List.setIfInBounds_toArray]
   congr 1
   rw[List.set_append_left _ _ (by simp [hl]; exact hi),List.map_set]
  rw[e,List.foldl_cons]
  exact zxr rest parts (l.set i n) v (by simp [hl]) h.2
theorem ztc:∀ (parts:List (Nat × Int)) (l:List Int),(parts.foldl (fun l p=>l.set p.1 p.2) l).length=l.length
 | [],l=>rfl
 | p :: parts,l=>by rw[List.foldl_cons,ztc]; simp
section
variable {P:Program} {N:Nums} {M:zdd}
theorem zwn {w:World} {l:List Int} (hl:l.length=7) {v:Value} {sub:List Fld} (h:zik w v sub):RepF w (mkF l sub) (zkm l v):=by
 match l,hl with
 | [a,b,c,d,e,f,g],_=>exact RepF.mk' (f:=mkF [a,b,c,d,e,f,g] sub) h
theorem build_num (S:SpT P N M) {w:World} {parts:List (Nat × Int)} (h:(parts.all fun p=>Nat.blt p.1 7)=true) :
  (Instr.build M.zn ((parts.map fun (p:Nat × Int)=>(p.1,Value.int .i64 p.2)).toArray)).run P w=.ok (.agg (zkm (zzr parts) (.slice none 0 0)).toArray) w:=
 S.fld.run_build (by
  have:=zxr [] parts [0,0,0,0,0,0,0] (.slice none 0 0) rfl h
  rw[List.append_nil] at this
  exact this)
theorem build_sub (S:SpT P N M) {w:World} {parts:List (Nat × Int)} (h:(parts.all fun p=>Nat.blt p.1 7)=true) {v:Value} (hv:v.oneCell'=true) :
  (Instr.build M.zn ((parts.map (fun (p:Nat × Int)=>(p.1,Value.int .i64 p.2))++[(7,v)]).toArray)).run P w=.ok (.agg (zkm (zzr parts) v).toArray) w:=
 S.fld.run_build (by
  have:=zxr [(7,v)] parts [0,0,0,0,0,0,0] (.slice none 0 0) rfl h
  refine this.trans ?_
  have hl:=ztc parts [0,0,0,0,0,0,0]
  show Instr.fill (zxm[·]?) (zkm (zzr parts) (.slice none 0 0)).toArray [(7,v)]=_
  have hl:(zzr parts).length=7:=hl
  rw[Instr.fill,zwg 7 (by decide)]
  simp only
  rw[zds hv,if_neg (by simp [zkm,hl])]
  have e:(#[v]:Array Value).zipIdx=#[(v,0)]:=rfl
  rw[e]
  simp only [List.foldl_toArray',List.foldl_cons,List.foldl_nil,Nat.add_zero,zkm,List.setIfInBounds_toArray,Instr.fill]
  congr 2
  rw[List.set_append_right _ _ (by simp [hl])]
  simp [hl])
def MkOk (P:Program) (f:FuncId) (l:List Fld):Prop:=∀ w,Call P f #[] w fun r w'=>zik w' r l∧Mod w w' zy
def scOk (P:Program):List SC→Prop
 | []=>True
 | .mk parts none fs :: l=>fs=[]∧scOk P l
 | .mk parts (some f) fs :: l=>(MkOk P f (SC.flds fs)∧zcp P f)∧scOk P l
theorem step_callZ {f:FuncId} {d:Option Nat} {ty:TypeId} {af:List Nat} {ρ:Env} {w:World} {K:Env→World→Prop} (hf:zcp P f):zcn P ⟨d,.call ⟨.value (.func f),#[],#[]⟩,ty,none,af⟩ ρ w K=Call P f #[] w fun v w'=>K (put ρ d v) w':=zlo hf
theorem zts (S:SpT P N M) {K:Env→World→Prop}:∀ (l:List SC) (k:Nat) (ρ:Env) (w w0:World),(l.all SC.partsB)=true→scOk P l→Mod w0 w zy→
  (∀ (ρ':Env) (w':World) (css:List (List Value)),(∀ t,t < k∨100≤t→ρ' t=ρ t)→zhf w' (SC.flds l) css→(∀ (j s:Nat),(scSl l k)[j]?=some s→∃ c:List Value,css[j]?=some c∧ρ' s=.agg c.toArray)→Mod w0 w' zy→K ρ' w')→zqg l k < 90→
  runR P (scOps M l k) ρ w K
 | [],k,ρ,w,w0,_,_,m,hK,_=>hK ρ w [] (fun _ _=>rfl) rfl (fun j s h=>by simp [scSl] at h) m
 | .mk parts none fs :: l,k,ρ,w,w0,hp,⟨hfs,hok⟩,m,hK,he=>by
  subst hfs
  simp only [List.all_cons,Bool.and_eq_true] at hp
  have he2:=zsz l (k+1)
  rw[scOps,runR]
  have e1:((parts.map partO).toArray.map fun (p:Nat × Operand)=>(p.1,ev ρ p.2))=(parts.map fun (p:Nat × Int)=>(p.1,Value.int .i64 p.2)).toArray:=by
   simp [partO,Function.comp_def]
  rw[zlp,e1,build_num S (parts:=parts) hp.1]
  simp only [stepV_ok]
  have hrep:∀ w',RepF w' (SC.fld (.mk parts none [])) (zkm (zzr parts) (.slice none 0 0)):=fun w'=>zwn (ztc _ _) (.inl ⟨_,_,rfl,rfl⟩)
  refine zts S l (k+1) _ w w0 hp.2 hok m (fun ρ' w' css h1 h2 h3 h4=>?_) he
  refine hK ρ' w' (zkm (zzr parts) (.slice none 0 0) :: css) (fun t ht=>?_) ⟨_,_,rfl,hrep w',h2⟩ (fun j s hs=>?_) h4
  ·rw[h1 t (by omega),zin]
   have:(t == k)=false:=beq_eq_false_iff_ne.2 (by have:zqg l (k+1) < 90:=he; omega)
   rw[this]; rfl
  ·cases j with
   | zero=>
    simp [scSl] at hs
    subst hs
    exact⟨_,rfl,by rw[h1 k (by omega),zin]; simp [sel]⟩
   | succ j=>exact h3 j s (by simpa [scSl] using hs)
 | .mk parts (some f) fs :: l,k,ρ,w,w0,hp,⟨⟨hmk,hbody⟩,hok⟩,m,hK,he=>by
  simp only [List.all_cons,Bool.and_eq_true] at hp
  have he2:=zsz l (k+2)
  have he3:zqg l (k+2) < 90:=he
  rw[scOps,runR,step_callZ hbody]
  refine(hmk w).mono ?_
  rintro r w1 ⟨hr,m1⟩
  rw[runR]
  have e1:(((parts.map partO++[((7:Nat),T k)]).toArray:Array (Nat × Operand)).map fun (p:Nat × Operand)=>(p.1,ev (put ρ (some k) r) p.2))=(parts.map (fun (p:Nat × Int)=>(p.1,Value.int .i64 p.2))++[(7,r)]).toArray:=by
   simp [partO,Function.comp_def,zin,sel]
  rw[zlp,e1,build_sub S (parts:=parts) hp.1 hr.one]
  simp only [stepV_ok]
  have m01:=m.trans' m1
  refine zts S l (k+2) _ w1 w1 hp.2 hok (.refl _ _) (fun ρ' w' css h1 h2 h3 h4=>?_) he
  refine hK ρ' w' (zkm (zzr parts) r :: css) (fun t ht=>?_) ⟨_,_,rfl,zwn (ztc _ _) (hr.stay h4),h2⟩ (fun j s hs=>?_) (m01.trans' h4)
  ·rw[h1 t (by omega),zin,zin]
   have:(t == k+1)=false:=beq_eq_false_iff_ne.2 (by omega)
   have h2:(t == k)=false:=beq_eq_false_iff_ne.2 (by omega)
   rw[this,h2]; rfl
  ·cases j with
   | zero=>
    simp [scSl] at hs
    subst hs
    exact⟨_,rfl,by rw[h1 (k+1) (by omega),zin]; simp [sel]⟩
   | succ j=>exact h3 j s (by simpa [scSl] using hs)
end
theorem zzz (off:Nat):∀ (l:List Value) (k:Nat) (arr:Array Value),(l.zipIdx k).foldl (fun cs (x:Value × Nat)=>cs.setIfInBounds (off+x.2) x.1) arr=(l.zipIdx (off+k)).foldl (fun cs (x:Value × Nat)=>cs.setIfInBounds x.2 x.1) arr
 | [],k,arr=>rfl
 | v :: l,k,arr=>by
  rw[List.zipIdx_cons,List.zipIdx_cons,List.foldl_cons,List.foldl_cons,zzz off l (k+1),Nat.add_assoc]
theorem zaaa (sz:Nat):∀ (css:List (List Value)) (k:Nat) (arr:Array Value),(∀ c∈css,c.length=sz)→(k+css.length) * sz≤arr.size→
  ∃ out,Instr.fill (fun i=>some (i * sz,sz)) arr ((css.zipIdx k).map fun p=>(p.2,Value.agg p.1.toArray))=some out∧out.toList=arr.toList.take (k * sz)++css.flatten++arr.toList.drop ((k+css.length) * sz)
 | [],k,arr,_,h=>⟨arr,rfl,by simp⟩
 | c :: css,k,arr,hc,h=>by
  have hcl:=hc c (by simp)
  have h1:(k+1) * sz+css.length * sz≤arr.size:=by
   rw[← Nat.add_mul]; simp only [List.length_cons] at h; rwa [show k+1+css.length=k+(css.length+1) by omega]
  have h2:(k+1) * sz=k * sz+sz:=by rw[Nat.add_mul,Nat.one_mul]
  rw[List.zipIdx_cons,List.map_cons,Instr.fill]
  simp only
  have hcells:(Value.agg c.toArray).cells=c.toArray:=rfl
  rw[hcells,if_neg (by simp [hcl]; omega)]
  have e:c.toArray.zipIdx=(c.zipIdx 0).toArray:=by simp
  obtain⟨arr1,harr1⟩:∃ arr1,arr1=c.toArray.zipIdx.foldl (fun cs (x:Value × Nat)=>cs.setIfInBounds (k * sz+x.2) x.1) arr:=⟨_,rfl⟩
  have hl1:arr1.toList=arr.toList.take (k * sz)++c++arr.toList.drop (k * sz+c.length):=by
   rw[harr1,e,List.foldl_toArray,zzz,Nat.add_zero]
   exact zrq c (k * sz) arr (by rw[hcl]; omega)
  have hs1:arr1.size=arr.size:=by
   have:=congrArg List.length hl1
   simp only [Array.length_toList,List.length_append,List.length_take,List.length_drop] at this
   omega
  obtain⟨out,g1,g2⟩:=zaaa sz css (k+1) arr1 (fun x hx=>hc x (List.mem_cons_of_mem _ hx)) (by rw[hs1,Nat.add_mul]; exact h1)
  refine⟨out,?_,?_⟩
  ·rw[← harr1]; exact g1
  ·rw[g2,hl1,List.flatten_cons]
   have t1:(arr.toList.take (k * sz)++c++arr.toList.drop (k * sz+c.length)).take ((k+1) * sz)=arr.toList.take (k * sz)++c:=by
    rw[List.take_append_of_le_length (by simp [hcl]; omega),List.take_of_length_le (by simp [hcl]; omega)]
   have t2:(arr.toList.take (k * sz)++c++arr.toList.drop (k * sz+c.length)).drop ((k+1+css.length) * sz)=arr.toList.drop ((k+(c :: css).length) * sz):=by
    have hm:(k+1+css.length) * sz=k * sz+sz+css.length * sz:=by rw[Nat.add_mul,Nat.add_mul,Nat.one_mul]
    have hm2:(k+(c :: css).length) * sz=k * sz+sz+css.length * sz:=by rw[← hm,List.length_cons]; congr 1; omega
    have hle:(arr.toList.take (k * sz)++c).length=k * sz+sz:=by simp [hcl]; omega
    rw[List.drop_append,hle,List.drop_of_length_le (by rw[hle]; omega),List.nil_append,List.drop_drop,hm,hm2,hcl]
    congr 1; omega
   rw[t1,t2]
   simp
theorem zwk {w w':World} {k b o:Nat} {fs:List Fld} {css:List (List Value)} (hm:Mod w w' (blk k)) (hk:∀ i,7≤i→w.cell? ⟨k,i,none⟩=none) (hr:zhf w fs css) (h:w.rangeAt b o css.flatten):w'.rangeAt b o css.flatten:=by
 cases fs with
 | nil=>simp only [zhf] at hr; subst hr; intro j v hj; simp at hj
 | cons f fs=>
  obtain⟨c,r,rfl,hc,hr⟩:=hr
  have h8:=hc.len
  match c,h8 with
  | [x0,x1,x2,x3,x4,x5,x6,x7],_=>
   have h7:=h 7 x7 (by simp)
   have hne:b≠k:=fun e=>by
    subst e
    rw[hk (o+7) (by omega)] at h7; cases h7
   have hb:b < w.heap.size:=zde (by rw[h7]; rfl)
   exact hm.rangeAt hb (fun i _ _ e=>hne e) h
mutual
theorem RepF.but {w w':World} {k:Nat} (hm:Mod w w' (blk k)) (hk:∀ i,7≤i→w.cell? ⟨k,i,none⟩=none):∀ (t:Fld) {cs:List Value},RepF w t cs→RepF w' t cs
 | .mk _ _ _ _ _ _ _ sub,_,⟨v,h1,h3⟩=>⟨v,h1,h3.imp id fun ⟨b,o,c,css,g1,g2,g3,g4⟩=>⟨b,o,c,css,g1,g2,zhf.but hm hk sub g3,zwk hm hk g3 g4⟩⟩
theorem zhf.but {w w':World} {k:Nat} (hm:Mod w w' (blk k)) (hk:∀ i,7≤i→w.cell? ⟨k,i,none⟩=none):∀ (l:List Fld) {css:List (List Value)},zhf w l css→zhf w' l css
 | [],_,hr=>hr
 | t :: l,_,⟨c,r,h1,h2,h3⟩=>⟨c,r,h1,RepF.but hm hk t h2,zhf.but hm hk l h3⟩
end
theorem zik.but {w w':World} {k:Nat} (hm:Mod w w' (blk k)) (hk:∀ i,7≤i→w.cell? ⟨k,i,none⟩=none) {v:Value} {fs:List Fld} (hs:zik w v fs):zik w' v fs:=
 hs.imp id fun ⟨b,o,c,css,h1,h2,h3,h4⟩=>⟨b,o,c,css,h1,h2,zhf.but hm hk fs h3,zwk hm hk h3 h4⟩
section
variable {P:Program} {N:Nums} {M:zdd}
theorem run_bsFs (S:SpT P N M) {w:World} {l:List Fld} {css:List (List Value)} (h:zhf w l css) (h0:0 < l.length) (h1:l.length < 1000) :
  ∃ w1,(Instr.buildSlice M.zaz l.length ((css.zipIdx 0).map fun p=>(p.2,Value.agg p.1.toArray)).toArray).run P w=.ok (.slice (some ⟨w.heap.size,0,none⟩) l.length l.length) w1∧Mod w w1 zy∧zik w1 (.slice (some ⟨w.heap.size,0,none⟩) l.length l.length) l:=by
 obtain⟨fs',hti⟩:=S.fld.out
 obtain⟨i,hi,hsz,_,hz⟩:=hti.1.info
 have hsz:i.size=8:=hsz
 have hlen:css.length=l.length:=by
  have:∀ (l:List Fld) (css:List (List Value)),zhf w l css→css.length=l.length:=by
   intro l
   induction l with
   | nil=>intro css h; simp only [zhf] at h; subst h; rfl
   | cons f l ih=>rintro _ ⟨c,r,rfl,_,hr⟩; simp [ih r hr]
  exact this l css h
 have h8:=h.len8
 have hlz:((Array.range (l.length * 8)).map ((Value.agg ([Value.int .i64 0,.int .i64 0,.int .i64 0,.int .i64 0,.int .i64 0,.int .i64 0,.int .i64 0,.slice none 0 0]:List Value).toArray).cells[· % (Value.agg ([Value.int .i64 0,.int .i64 0,.int .i64 0,.int .i64 0,.int .i64 0,.int .i64 0,.int .i64 0,.slice none 0 0]:List Value).toArray).cells.size]!)).size=l.length * 8:=by simp
 obtain⟨out,g1,g2⟩:=zaaa 8 css 0 _ h8 (by rw[hlz,Nat.zero_add,hlen]; exact Nat.le_refl _)
 have hr:=run_buildSlice (P:=P) w M.zaz M.zn l.length ((css.zipIdx 0).map fun p=>(p.2,Value.agg p.1.toArray)).toArray out i _ S.lf.und hi hz (by rw[hsz]; omega) (by rw[hsz]; omega) (by rw[hsz]; exact g1)
 have hout:out=css.flatten.toArray:=by
  apply Array.ext'
  rw[g2]
  rw[Nat.zero_mul,List.take_zero,List.nil_append,Nat.zero_add,hlen,List.drop_of_length_le (by rw[Array.length_toList,hlz]; exact Nat.le_refl _)]
  simp
 rw[hout] at hr
 have m:Mod w (w.alloc (.cells css.flatten.toArray M.zn)) zy:=Mod.alloc _ _ _
 refine⟨_,hr,m,.inr ⟨w.heap.size,0,l.length,css,rfl,Nat.le_refl _,zhf.stay m _ h,?_⟩⟩
 have:=zr w css.flatten.toArray M.zn (0,0)
 simpa using this
theorem zabm (S:SpT P N M) {l:List SC} {k:Nat} {ρ:Env} {w:World} {css:List (List Value)} {K:Env→World→Prop} (hr:zhf w (SC.flds l) css) (hs:∀ (j s:Nat),(scSl l k)[j]?=some s→∃ c:List Value,css[j]?=some c∧ρ s=.agg c.toArray) (h0:0 < l.length) (h1:l.length < 1000)
  (hK:∀ (r:Value) (w1:World),Mod w w1 zy→zik w1 r (SC.flds l)→K (put ρ (some (zqg l k)) r) w1):zcn P (zabk M l k) ρ w K:=by
 unfold zabk
 have hfl:=SC.flds_len l
 obtain⟨w1,hb,m1,hf1⟩:=run_bsFs S hr (by omega) (by omega)
 have hcl:css.length=l.length:=by
  have:∀ (l:List Fld) (css:List (List Value)),zhf w l css→css.length=l.length:=by
   intro l
   induction l with
   | nil=>intro css h; simp only [zhf] at h; subst h; rfl
   | cons f l ih=>rintro _ ⟨c,r,rfl,_,hr⟩; simp [ih r hr]
  rw[this _ _ hr,hfl]
 have e:(((scSl l k).zipIdx.map fun p=>(p.2,T p.1)).toArray.map fun (p:Nat × Operand)=>(p.1,ev ρ p.2))=((css.zipIdx 0).map fun p=>(p.2,Value.agg p.1.toArray)).toArray:=by
  rw[List.map_toArray,List.map_map]
  congr 1
  apply List.ext_getElem?
  intro j
  rw[List.getElem?_map,List.getElem?_map,List.getElem?_zipIdx,List.getElem?_zipIdx]
  cases hj:(scSl l k)[j]? with
  | none=>
   have:css[j]?=none:=by
    rw[List.getElem?_eq_none_iff] at hj ⊢
    rw[zxe] at hj; omega
   rw[this]; rfl
  | some s=>
   obtain⟨c,hc,hv⟩:=hs j s hj
   rw[hc]
   simp [hv]
 rw[hfl] at hb
 rw[zkd,e,hb]
 simp only [stepV_ok]
 rw[hfl] at hf1
 exact hK _ _ m1 hf1
theorem zabl {l:List SC} (h:scB l=true):(l.all SC.partsB)=true∧zqg l 0 < 90∧0 < l.length∧l.length < 1000:=by
 unfold scB at h
 simp only [Bool.and_eq_true] at h
 obtain⟨⟨⟨h1,h2⟩,h3⟩,h4⟩:=h
 exact⟨h1,by simpa using h2,by simpa using h3,by simpa using h4⟩
theorem mk_msg (S:SpT P N M) {l:List SC} {fl:Int} (hB:scB l=true) (hok:scOk P l) {f:FuncId} (hf:FOk P f 0 (c_msg M l fl) [.cell 0 M.zam]) (w:World) :
  Call P f #[] w fun r w'=>∃ fv,r=.agg [fv,.int .i64 fl].toArray∧zik w' fv (SC.flds l)∧Mod w w' zy:=by
 obtain⟨b1,b2,b3,b4⟩:=zabl hB
 refine hf.call rfl fun loc N' hlo=>?_
 unfold c_msg seqs seqs seqs
 obtain⟨fs',hti,_⟩:=S.msg.out
 obtain⟨w0,hw0⟩:∃ w0,w0=w.alloc (.cells (Value.cells (.agg ([.slice none 0 0,.int .i64 0]:List Value).toArray)) M.zam):=⟨_,rfl⟩
 have hal:=fun old=>hti.run_alloc (P:=P) (w:=w) old
 rw[← hw0] at hal
 have m0:Mod w w0 zy:=by rw[hw0]; exact Mod.alloc _ _ _
 have s0:w0.heap.size=w.heap.size+1:=by rw[hw0]; exact zav _ _
 have t0:w0.there w.heap.size 0 2:=by rw[hw0]; exact zbq w _ M.zam
 have r0:w0.rangeAt w.heap.size 0 [.slice none 0 0,.int .i64 0]:=by rw[hw0]; exact zr w _ _ _
 have c0:∀ i,2≤i→w0.cell? ⟨w.heap.size,i,none⟩=none:=by
  intro i hi
  rw[hw0]
  simp only [World.cell?,zoe]
  have:(Value.cells (.agg ([.slice none 0 0,.int .i64 0]:List Value).toArray)).size=2:=rfl
  simp [this]; omega
 clear hw0
 refine zd fun K hK=>zi fun τ=>?_
 simp +decide only [runR,zrd,hal,stepV_ok]
 refine hK _ _ (zb fun σ1 hσ=>?_)
 have a0:=hσ 0
 simp +decide only [bE,BEq.rfl,Nat.zero_add] at a0
 clear hσ hK K
 refine zd fun K hK=>zi fun τ=>ztw _ _ _ _ (zts S l 0 _ w0 w0 b1 hok (.refl _ _) (fun ρ w1 css h1 h2 h3 m1=>?_) b2)
 rw[runR]
 refine zabm S h2 h3 b3 b4 fun r w2 m2 hr=>?_
 have hv0:ρ 100=.pointer (some ⟨w.heap.size,0,none⟩):=by
  rw[h1 100 (.inr (Nat.le_refl _)),znq]; simp +decide only [bE,decide_false,Nat.reduceSub,a0]
 obtain⟨n,hn⟩:∃ n,n=zqg l 0:=⟨_,rfl⟩
 rw[← hn] at b2 ⊢
 have hbuild:(Instr.build M.zam #[(1,.int .i64 fl),(0,r)]).run P w2=.ok (.agg [r,.int .i64 fl].toArray) w2:=S.msg.run_build (by simp [Instr.fill,zds hr.one,zds (show (Value.int .i64 fl).oneCell'=true from rfl)])
 have m02:=m1.trans' m2
 have hst:=hti.run_store (w:=w2) (b:=w.heap.size) (o:=0) (v:=.agg [r,.int .i64 fl].toArray) (cs:=[r,.int .i64 fl]) rfl rfl (m02.there (by omega) t0) (by
  intro c hc; simp at hc; rcases hc with rfl | rfl
  ·exact hr.one
  ·rfl)
 obtain⟨w3,hw3⟩:∃ w3,w3=w2.setCells w.heap.size 0 [r,.int .i64 fl]:=⟨_,rfl⟩
 have m3:Mod w2 w3 (blk w.heap.size):=by rw[hw3]; exact Mod.setCells _ _ _ fun _ _ _ _=>rfl
 have r3:w3.rangeAt w.heap.size 0 [r,.int .i64 fl]:=by
  rw[hw3]
  exact zax [r,.int .i64 fl] 0 w2 _ (zad m02 r0) (Nat.le_refl _)
 rw[← hw3] at hst
 clear hw3
 have e1:(n == n+1)=false:=beq_eq_false_iff_ne.2 (by omega)
 have e2:(100 == n+1)=false:=beq_eq_false_iff_ne.2 (by omega)
 have e3:(100 == n)=false:=beq_eq_false_iff_ne.2 (by omega)
 have ep:(#[(1,Operand.const (.int .i64 fl)),(0,T n)].map fun (p:Nat × Operand)=>(p.1,ev (put ρ (some n) r) p.2))=#[(1,.int .i64 fl),(0,r)]:=by simp [zin,sel]
 simp +decide only [runR,zlp,ep,hbuild,stepV_ok,zrc,ev_tmp,zin,sel_true,sel_false,BEq.rfl,e2,e3,hv0,hst,stepU_ok]
 have m03:Mod w w3 zy:=(m0.trans' m02).fresh m3 fun k o h=>by have:k=w.heap.size:=h; omega
 refine hK _ _ (zb fun σ' hσ=>zbb ⟨.inr rfl,.agg [r,.int .i64 fl].toArray,?_,r,rfl,?_,m03⟩)
 ·have q:=hσ 0
  rw[show (0+100:Nat)=100 from rfl] at q
  simp +decide only [zin,e2,e3,sel_false,hv0] at q
  refine⟨_,q,?_⟩
  have:=hti.run_load (w:=w3) (b:=w.heap.size) (o:=0) r3 rfl (fun h=>by cases h)
  have e:(Instr.loadAt M.zam (.pointer (some ⟨w.heap.size,0,none⟩))).run P w3=(loadVar M.zam ⟨w.heap.size,0,none⟩).run P w3:=by simp [Instr.loadAt,Instr.sureAddr]
  rw[← e,this]; rfl
 ·refine hr.but m3 fun i hi=>?_
  have h1:=m02.isCell w.heap.size i (by omega)
  have h2:w0.cell? ⟨w.heap.size,i,none⟩=none:=c0 i (by omega)
  rw[h2] at h1
  cases hc:w2.cell? ⟨w.heap.size,i,none⟩ with
  | none=>rfl
  | some x=>rw[hc] at h1; cases h1
end
section
variable {P:Program} {N:Nums} {M:zdd}
theorem OctA.argOct {w:World} {v:Value} {s:List UInt8} (h:OctA w v s):zrb w v s:=by
 rcases h with⟨ad,c,e,h⟩ | ⟨b,o,c,e,h1,h2⟩
 ·exact .inl ⟨ad,c,e,h⟩
 ·cases s with
  | nil=>exact .inl ⟨_,c,e,rfl⟩
  | cons x s=>
   have h0:=h2 0 (zz x) rfl
   refine .inr ⟨_,c,e,h1,zde (by rw[h0]; rfl),fun j y hj=>?_⟩
   rw[Addr.add_mid]
   exact h2 j (zz y) (by rw[List.getElem?_map,hj]; rfl)
def verB (m:Msg) (fx:Bool) (sf:List Fld) (fl:Int) (k:Nat):Bool:=
 (List.range (k+1)).all fun v=>m.fs.matB (fx && decide ((v:Int) ≥ m.fl)) v sf && (fx && decide ((v:Int) ≥ m.fl) || (sf.any fun f=>f.has v) || m.fs.offB (fx && decide ((v:Int) ≥ m.fl)) v) && (zlg fl v == (fx && decide ((v:Int) ≥ m.fl)))
theorem verB_at {m:Msg} {fx:Bool} {sf:List Fld} {fl:Int} {k:Nat} (h:verB m fx sf fl k=true) {v:Nat} (hv:v≤k):m.fs.matB (fx && decide ((v:Int) ≥ m.fl)) v sf=true∧(((fx && decide ((v:Int) ≥ m.fl))=true∨(sf.any fun f=>f.has v)=true)∨m.fs.offB (fx && decide ((v:Int) ≥ m.fl)) v=true)∧zlg fl v=(fx && decide ((v:Int) ≥ m.fl)):=by
 unfold verB at h
 rw[List.all_eq_true] at h
 have:=h v (List.mem_range.2 (by omega))
 simp only [Bool.and_eq_true,Bool.or_eq_true,beq_iff_eq] at this
 obtain⟨⟨h1,h2⟩,h3⟩:=this
 exact⟨h1,by simpa using h2,h3⟩
theorem fits_of {t:Tr} (h:szT t≤1048576):fitsT t:=by
 have h1:=zvu t
 have hl:∀ l:List Tr,l.length≤szTs l:=by
  intro l
  induction l with
  | nil=>simp
  | cons x l ih=>have:=zabb x; simp only [szTs,List.length_cons]; omega
 have hu:∀ u:List (Nat × List UInt8),u.length≤szU u∧∀ x∈u,x.2.length≤szU u:=by
  intro u
  induction u with
  | nil=>exact⟨by simp,fun x hx=>by cases hx⟩
  | cons x u ih=>
   have e:szU (x :: u)=1+x.2.length+szU u:=by simp [szU]
   refine⟨by rw[e,List.length_cons]; omega,fun y hy=>?_⟩
   rcases List.mem_cons.1 hy with hy | hy
   ·rw[hy,e]; omega
   ·have:=ih.2 y hy; rw[e]; omega
 have h2:=hl t.l
 have h3:=hu t.u
 exact⟨by omega,by omega,by omega,fun x hx=>by have:=h3.2 x hx; omega⟩
end
section
open Go Go.RowKit Go.ChangeShapes Go.WideShapes
theorem treeArg_of {P:Program} {N:Nums} {H:Type} {enc:TypeId × Value→H} {B:DataW H→Nat} {BA:List (DataW H)→Nat} {W:World} {v:Value} {d:DataW H} {p:List MemPlace} {base:Nat} (T:TreeO P N) (Bs:Base P N) (hT:zsr P N N.zf N.zal N.zak N.zp) (hB:BulkF B BA)
  (hok:Value.okWide P W .any base N.zf v) (h:DataW.Trod enc P W 0 (fun _=>true) true N.zf v d p):∃ t ct,v=.agg ct.toArray∧RepA W t ct∧wfT t∧szT t≤B d:=by
 obtain⟨fs,hu,_⟩:=T.tree
 unfold Value.okWide at hok
 rw[hu] at hok
 obtain⟨cs,rfl,_⟩:=hok
 obtain⟨fuel,hf⟩:=h
 obtain⟨t,h1,h2,h3⟩:=tree_open T Bs hT hB fuel cs.toList (d,p) hf
 exact⟨t,cs.toList,by simp,h1,h2,h3⟩
end
section
variable {P:Program} {N:Nums}
end
section
variable (N:Nums)
end
section
variable {P:Program} {N:Nums}
end
section
variable {P:Program} {N:Nums} {M:zdd}
end
section
variable {P:Program} {N:Nums} {M:zdd}
end
def PK.wr:PK→Value→List UInt8
 | .bool,.bool b=>[if b then 1 else 0]
 | .i8,.int _ n=>fixB n 1
 | .i16,.int _ n=>fixB n 2
 | .u16,.int _ n=>fixB n 2
 | .i32,.int _ n=>fixB n 4
 | .i64,.int _ n=>fixB n 8
 | .uuid,v=>zgk v
 | _,_=>[]
def Txt.wr (fl:Bool):Txt→Val→List UInt8
 | .str,.num v=>zae fl false (zgk v).length 2++zgk v
 | .nstr,.nstr none=>zae fl true 0 2
 | .nstr,.nstr (some l)=>zae fl false l.length 2++l
 | .byt,.oct o=>zae fl false (o.getD []).length 4++o.getD []
 | .nbyt,.oct none=>zae fl true 0 4
 | .nbyt,.oct (some l)=>zae fl false l.length 4++l
 | _,_=>[]
def tvW (fl:Bool):Val→List UInt8
 | .nstr o=>zae fl false (o.getD []).length 2++o.getD []
 | _=>[]
def tagW (x:Nat × List UInt8):List UInt8:=uvB x.1++(uvB x.2.length++x.2)
def zyv (l:List (Nat × List UInt8)):List UInt8:=uvB l.length++(zdz l).flatMap tagW
section
variable (ver:Int) (fl:Bool)
def nulAt:Option Int→Bool
 | none=>false
 | some k=>decide (k≤ver)
mutual
def Ty.wr:Ty→Val→List UInt8
 | .pr k _,.num v=>k.wr v
 | .txt k,v=>k.wr fl v
 | .arr _ nul _,.nilA=>zae fl (nulAt ver nul) 0 4
 | .arr _ _ e,.arr _ l=>zae fl false l.length 4++l.flatMap e.wr
 | .row _ _ _ fs,.row l=>fs.wr l
 | .tv k,v=>if ver < k then tvW fl v else Txt.nstr.wr fl v
 | .ptr ..,.nilP=>fixB (-1) 1
 | .ptr _ _ _ fs,.ptr l=>fixB 1 1++fs.wr l
 | _,_=>[]
def El.wr:El→Val→List UInt8
 | .pr k,.num v=>k.wr v
 | .txt k,v=>k.wr fl v
 | .row _ _ _ fs,.row l=>fs.wr l
 | _,_=>[]
def Fds.wr:Fds→List Val→List UInt8
 | .tags _,[.tags l]=>if fl then zyv l else []
 | .cons g ty r,v :: l=>(if g.on ver then ty.wr v else [])++r.wr l
 | _,_=>[]
end
end
theorem be_lt:∀ l:List UInt8,be l < 256 ^ l.length
 | []=>by simp [be]
 | x :: l=>by
  rw[zyb,List.length_cons,Nat.pow_succ]
  have h1:=be_lt l
  have h2:x.toNat < 256:=x.toNat_lt
  have:x.toNat * 256 ^ l.length≤255 * 256 ^ l.length:=Nat.mul_le_mul_right _ (by omega)
  omega
theorem be_inj:∀ {l l':List UInt8},l.length=l'.length→be l=be l'→l=l'
 | [],[],_,_=>rfl
 | [],_ :: _,h,_=>by simp at h
 | _ :: _,[],h,_=>by simp at h
 | x :: l,y :: l',h,e=>by
  have hl:l.length=l'.length:=by simpa using h
  rw[zyb,zyb,← hl] at e
  have h1:=be_lt l
  have h2:=be_lt l'
  rw[← hl] at h2
  obtain⟨p,hp⟩:∃ p,p=256 ^ l.length:=⟨_,rfl⟩
  rw[← hp] at e h1 h2
  have ex:x.toNat=y.toNat:=by
   have d1:(x.toNat * p+be l) / p=x.toNat:=by
    rw[Nat.mul_comm,Nat.mul_add_div (by omega),Nat.div_eq_of_lt h1]; omega
   have d2:(y.toNat * p+be l') / p=y.toNat:=by
    rw[Nat.mul_comm,Nat.mul_add_div (by omega),Nat.div_eq_of_lt h2]; omega
   rw[← d1,e,d2]
  rw[ex] at e
  rw[UInt8.toNat_inj.1 ex,be_inj hl (by omega)]
theorem zrp {a b:Int} {k:Nat} (h:a % (256 ^ k:Nat)=b % (256 ^ k:Nat)):fixB a k=fixB b k:=by
 refine be_inj (by rw[zaw,zaw]) ?_
 have h1:=zjq a k
 have h2:=zjq b k
 rw[h] at h1
 have:(be (fixB a k):Int)=be (fixB b k):=h1.trans h2.symm
 exact Int.ofNat_inj.1 this
theorem zqo {K:IntKind} {k:Nat} (hk:K.bits=8 * k) (n:Int):fixB (K.wrap (be (fixB n k))) k=fixB n k:=by
 refine zrp ?_
 rw[zjq]
 have hp:(2:Int) ^ K.bits=((256 ^ k:Nat):Int):=by
  rw[hk,show (256:Nat)=2 ^ 8 from rfl,← Nat.pow_mul,Int.natCast_pow]; rfl
 rw[← hp,zme]
 have hm:∀ m:Int,K.wrap m % 2 ^ K.bits=m % 2 ^ K.bits:=by
  intro m
  unfold IntKind.wrap
  simp only
  split
  ·rw[Int.sub_emod,Int.emod_self,Int.sub_zero,Int.emod_emod_of_dvd _ (Int.dvd_refl _),Int.emod_emod_of_dvd _ (Int.dvd_refl _)]
  ·rw[Int.emod_emod_of_dvd _ (Int.dvd_refl _)]
 exact hm n
theorem pr_wr {k:PK} {kind:Int} (h:zhb k kind=true) (fl:Bool) (pt:Tr→List UInt8) (null:Bool) {t:Tr} {r r':List UInt8} {v:Value} (hr:k.rd (rs (valB fl kind pt null t++r))=(v,rs r')):k.wr v=valB fl kind pt null t:=by
 cases k with
 | en t=>simp [zhb] at h
 | bool=>
  have h:kind=0:=by simpa [zhb] using h
  subst h
  have e:valB fl 0 pt null t=[UInt8.ofNat (t.n % 2).toNat]:=by simp [valB]
  rw[e] at hr ⊢
  have hr:zeh 1 (fun l=>Value.bool (be l != 0)) (.bool false) (rs ([UInt8.ofNat (t.n % 2).toNat]++r))=(v,rs r'):=hr
  rw[zgs (c:=1) rfl] at hr
  injection hr with hr _
  subst hr
  have hm:t.n % 2=0∨t.n % 2=1:=by omega
  rcases hm with hm | hm<;>rw[hm]<;>rfl
 | i8=>
  have h:kind=1:=by simpa [zhb] using h
  subst h
  have e:valB fl 1 pt null t=fixB t.n 1:=by simp [valB,zge]
  rw[e] at hr ⊢
  have hr:zeh 1 (fun l=>Value.int .i8 (IntKind.i8.wrap (be l))) (.int .i8 0) (rs (fixB t.n 1++r))=(v,rs r'):=hr
  rw[zgs (zaw t.n 1)] at hr
  injection hr with hr _
  subst hr
  exact zqo rfl _
 | i16=>
  have h:kind=2:=by simpa [zhb] using h
  subst h
  have e:valB fl 2 pt null t=fixB t.n 2:=by simp [valB,zge]
  rw[e] at hr ⊢
  have hr:zeh 2 (fun l=>Value.int .i16 (IntKind.i16.wrap (be l))) (.int .i16 0) (rs (fixB t.n 2++r))=(v,rs r'):=hr
  rw[zgs (zaw t.n 2)] at hr
  injection hr with hr _
  subst hr
  exact zqo rfl _
 | u16=>
  have h:kind=5:=by simpa [zhb] using h
  subst h
  have e:valB fl 5 pt null t=fixB t.n 2:=by simp [valB,zge]
  rw[e] at hr ⊢
  have hr:zeh 2 (fun l=>Value.int .u16 (be l)) (.int .u16 0) (rs (fixB t.n 2++r))=(v,rs r'):=hr
  rw[zgs (zaw t.n 2)] at hr
  injection hr with hr _
  subst hr
  show fixB (be (fixB t.n 2)) 2=_
  refine zrp ?_
  rw[zjq,Int.emod_emod_of_dvd _ (Int.dvd_refl _)]
 | i32=>
  have h:kind=3:=by simpa [zhb] using h
  subst h
  have e:valB fl 3 pt null t=fixB t.n 4:=by simp [valB,zge]
  rw[e] at hr ⊢
  have hr:zeh 4 (fun l=>Value.int .i32 (IntKind.i32.wrap (be l))) (.int .i32 0) (rs (fixB t.n 4++r))=(v,rs r'):=hr
  rw[zgs (zaw t.n 4)] at hr
  injection hr with hr _
  subst hr
  exact zqo rfl _
 | i64=>
  have h:kind=4:=by simpa [zhb] using h
  subst h
  have e:valB fl 4 pt null t=fixB t.n 8:=by simp [valB,zge]
  rw[e] at hr ⊢
  have hr:zeh 8 (fun l=>Value.int .i64 (IntKind.i64.wrap (be l))) (.int .i64 0) (rs (fixB t.n 8++r))=(v,rs r'):=hr
  rw[zgs (zaw t.n 8)] at hr
  injection hr with hr _
  subst hr
  exact zqo rfl _
 | uuid=>
  have h:kind=7:=by simpa [zhb] using h
  subst h
  have e:valB fl 7 pt null t=idB t.s:=by simp [valB,idB]
  have hl:=zaca t.s
  have h1:zeu 16 (rs (idB t.s++r))=idB t.s:=by have:=zog (idB t.s) r; rwa [hl] at this
  rw[e] at hr ⊢
  have hr:(zww (zeu 16 (rs (idB t.s++r))),zjn 16 (rs (idB t.s++r)))=(v,rs r'):=hr
  rw[h1] at hr
  injection hr with hr _
  subst hr
  show zgk (zww (idB t.s))=idB t.s
  unfold zww zgk
  rw[hl,Nat.sub_self,List.replicate_zero,List.append_nil,List.take_of_length_le (by omega)]
  exact ztb _
theorem zml (l:List UInt8):zgk (strV l)=l:=by simp [zgk,strV]
theorem zyo (k:Txt) (fl null:Bool) (hn:k=.str∨k=.byt→null=false) (pt:Tr→List UInt8) (t:Tr) (r r':List UInt8) (kind:Int) (hk:kind=k.kind) (v:Val) (hr:k.rd fl (rs (valB fl kind pt null t++r))=(v,rs r')):k.wr fl v=valB fl kind pt null t:=by
 obtain⟨v',h1,h2,h3,_,_⟩:=txt_rs k fl null hn pt t r kind hk
 rw[h1] at hr
 injection hr with hr _
 subst hr
 have hw:=zir t.s
 cases k with
 | str=>
  have hk:kind=8:=hk
  subst hk
  have hn:=hn (.inl rfl)
  subst hn
  rw[zst]
  have e:∃ x,v'=.num (strV x):=⟨_,(congrArg Prod.fst h1).symm⟩
  obtain⟨x,rfl⟩:=e
  have h3:zgk (strV x)=zbv t.s:=h3 rfl
  simp only [Txt.wr,h3,Bool.false_eq_true,if_false]
 | nstr=>
  have hk:kind=8:=hk
  subst hk
  rw[zst]
  have e:∃ x,v'=.nstr x:=⟨_,(congrArg Prod.fst h1).symm⟩
  obtain⟨x,rfl⟩:=e
  have h2:x.isNone=null:=h2
  cases x with
  | none=>
   have h2:true=null:=h2
   subst h2
   simp only [Txt.wr,if_true,List.length_nil,List.append_nil]
  | some x=>
   have h2:false=null:=h2
   subst h2
   have h3:x=zbv t.s:=h3 rfl
   subst h3
   simp only [Txt.wr,Bool.false_eq_true,if_false]
 | byt=>
  have hk:kind=9:=hk
  subst hk
  have hn:=hn (.inr rfl)
  subst hn
  rw[zsu]
  have e:∃ x,v'=.oct x:=⟨_,(congrArg Prod.fst h1).symm⟩
  obtain⟨x,rfl⟩:=e
  have h3:x.getD []=zbv t.s:=h3 rfl
  simp only [Txt.wr,h3,Bool.false_eq_true,if_false]
 | nbyt=>
  have hk:kind=9:=hk
  subst hk
  rw[zsu]
  have e:∃ x,v'=.oct x:=⟨_,(congrArg Prod.fst h1).symm⟩
  obtain⟨x,rfl⟩:=e
  have h2:x.isNone=null:=h2
  cases x with
  | none=>
   have h2:true=null:=h2
   subst h2
   simp only [Txt.wr,if_true,List.length_nil,List.append_nil]
  | some x=>
   have h2:false=null:=h2
   subst h2
   have h3:x=zbv t.s:=h3 rfl
   subst h3
   simp only [Txt.wr,Bool.false_eq_true,if_false]
theorem tags_wr (u:List (Nat × List UInt8)):zyv ((unkT u).map fun x=>(x.1,zbv x.2))=uvB (unkT u).length++(unkT u).flatMap tagB:=by
 unfold zyv
 rw[ztq,List.length_map,List.flatMap_map]
 ·rfl
 ·have:=zpl u
  rw[List.map_map]
  exact this
theorem rdN_wr {e:El} {fl:Bool} {ver o:Int} {sub:List Fld} (he:ElRd fl ver e o sub) (hw:∀ (t:Tr) (r:List UInt8) (v:Val),wfT t→e.rd ver fl (rs (valB fl o (zci fl ver sub) false t++r))=some (v,rs r)→e.wr ver fl v=valB fl o (zci fl ver sub) false t) :
  ∀ (l:List Tr) (r:List UInt8) (vs:List Val),(∀ x∈l,wfT x)→rdN (e.rd ver fl) l.length (rs (l.flatMap (valB fl o (zci fl ver sub) false)++r))=some (vs,rs r)→vs.flatMap (e.wr ver fl)=l.flatMap (valB fl o (zci fl ver sub) false)∧vs.length=l.length
 | [],r,vs,_,h=>by
  simp only [List.length_nil,rdN,Option.some.injEq,Prod.mk.injEq] at h
  rw[← h.1]; exact⟨rfl,rfl⟩
 | x :: l,r,vs,hwf,h=>by
  obtain⟨v,h1,_,_⟩:=he x (l.flatMap (valB fl o (zci fl ver sub) false)++r) (hwf x (by simp))
  rw[List.length_cons,rdN,List.flatMap_cons,List.append_assoc,h1] at h
  simp only at h
  split at h
  ·cases h
  ·rename_i l' s' h2
   simp only [Option.some.injEq,Prod.mk.injEq] at h
   obtain⟨rfl,rfl⟩:=h
   have:=rdN_wr he hw l r l' (fun y hy=>hwf y (by simp [hy])) h2
   rw[List.flatMap_cons,List.flatMap_cons,this.1,hw x _ v (hwf x (by simp)) h1]
   exact⟨rfl,by simp [this.2]⟩
mutual
theorem Ty.wr_of {fl:Bool} {ver:Int}:∀ (ty:Ty) (f:Fld),ty.matB fl ver f=true→∀ (t:Tr) (r:List UInt8) (v:Val),wfT t→ty.rd ver fl (rs (zeo fl ver f t++r))=some (v,rs r)→ty.wr ver fl v=zeo fl ver f t
 | .pr k d,f,h,t,r,v,hw,hr=>by
  simp only [Ty.matB,Bool.and_eq_true,Bool.not_eq_true'] at h
  rw[zgm (zxo h.1).1 (zxo h.1).2.2.1] at hr ⊢
  simp only [Ty.rd,Option.some.injEq] at hr
  obtain⟨rfl,h2⟩:=Prod.mk.inj hr
  exact pr_wr h.1 fl _ _ (r:=r) (r':=r) (by rw[← h2])
 | .txt .str,f,h,t,r,v,hw,hr=>by
  simp only [Ty.matB,Bool.and_eq_true,Bool.not_eq_true',decide_eq_true_eq] at h
  rw[zgm (by omega) (by omega)] at hr ⊢
  simp only [Ty.rd,Option.some.injEq] at hr
  exact zyo .str fl _ (fun _=>zhy h.2) _ t r r _ h.1 v hr
 | .txt .nstr,f,h,t,r,v,hw,hr=>by
  simp only [Ty.matB,decide_eq_true_eq] at h
  rw[zgm (by omega) (by omega)] at hr ⊢
  simp only [Ty.rd,Option.some.injEq] at hr
  exact zyo .nstr fl _ (fun hc=>by rcases hc with hc | hc<;>cases hc) _ t r r _ h v hr
 | .txt .byt,f,h,t,r,v,hw,hr=>by
  simp only [Ty.matB,Bool.and_eq_true,Bool.not_eq_true',decide_eq_true_eq] at h
  rw[zgm (by omega) (by omega)] at hr ⊢
  simp only [Ty.rd,Option.some.injEq] at hr
  exact zyo .byt fl _ (fun _=>zhy h.2) _ t r r _ h.1 v hr
 | .txt .nbyt,f,h,t,r,v,hw,hr=>by
  simp only [Ty.matB,decide_eq_true_eq] at h
  rw[zgm (by omega) (by omega)] at hr ⊢
  simp only [Ty.rd,Option.some.injEq] at hr
  exact zyo .nbyt fl _ (fun hc=>by rcases hc with hc | hc<;>cases hc) _ t r r _ h v hr
 | .arr st nul e,f,h,t,r,v,hw,hr=>by
  simp only [Ty.matB,Bool.and_eq_true,decide_eq_true_eq] at h
  obtain⟨⟨h11,hnul⟩,he⟩:=h
  have hewr:=El.wr_of e f.of f.sub he
  have he:=El.rd_of e f.of f.sub he
  rw[zki h11] at hr ⊢
  have hlz:(zef t.l).length≤32767:=by simp [zef,most]; omega
  cases hnb:f.nullB ver t with
  | true=>
   have hmay:f.may ver=true:=by
    cases hm:f.may ver with
    | true=>rfl
    | false=>rw[zhy hm] at hnb; cases hnb
   have hk:∃ k,nul=some k∧k≤ver:=by
    cases nul with
    | none=>simp [hmay] at hnul
    | some k=>exact⟨k,rfl,by simpa [hmay] using hnul⟩
   obtain⟨k,rfl,hk⟩:=hk
   rw[hnb] at hr
   simp only [if_true,List.length_nil,List.flatMap_nil,List.append_nil] at hr ⊢
   have hx:(if fl then zlj (rs (zae fl true 0 4++r)) else arrR (rs (zae fl true 0 4++r)))=(-1,rs r):=by
    unfold zae
    cases fl with
    | true=>simp only [Bool.and_true,if_true]; exact zxu r
    | false=>simp only [Bool.false_and,Bool.false_eq_true,if_false,if_true]; exact zacm r
   unfold Ty.rd at hr; rw[hx] at hr
   simp only [rs,Bool.false_eq_true,if_false] at hr
   rw[if_neg (by decide)] at hr
   rw[if_neg (by omega)] at hr
   injection hr with hr
   obtain⟨rfl,_⟩:=Prod.mk.inj hr
   simp only [Ty.wr,nulAt,hk,decide_true]
  | false=>
   rw[hnb] at hr
   simp only [Bool.false_eq_true,if_false] at hr ⊢
   obtain⟨l,hl⟩:∃ l,l=zef t.l:=⟨_,rfl⟩
   rw[← hl] at hlz hr ⊢
   have hwl:∀ x∈l,wfT x:=fun x hx=>hw.l x (by rw[hl] at hx; exact List.mem_of_mem_take hx)
   obtain⟨vs,g1,g2,g3,g4⟩:=rdN_rs he l r hwl
   have g5:=rdN_wr he hewr l r vs hwl g1
   rw[List.append_assoc] at hr
   have hx:(if fl then zlj (rs (zae fl false l.length 4++(l.flatMap (valB fl f.of (zci fl ver f.sub) false)++r))) else arrR (rs (zae fl false l.length 4++(l.flatMap (valB fl f.of (zci fl ver f.sub) false)++r))))=((l.length:Int),rs (l.flatMap (valB fl f.of (zci fl ver f.sub) false)++r)):=by
    unfold zae
    cases fl with
    | true=>simp only [Bool.and_false,Bool.false_eq_true,if_false,if_true]; exact zacg hlz (by rw[List.length_append]; omega)
    | false=>simp only [Bool.and_false,Bool.false_eq_true,if_false]; exact arr_rs hlz (by rw[List.length_append]; omega)
   unfold Ty.rd at hr
   rw[hx] at hr
   simp only [rs,Bool.false_eq_true,if_false] at hr
   by_cases h0:l.length=0
   ·have hl0:l=[]:=List.length_eq_zero_iff.1 h0
    subst hl0
    rw[if_neg (by simp)] at hr
    injection hr with hr
    obtain⟨rfl,_⟩:=Prod.mk.inj hr
    cases nul with
    | none=>simp only [Ty.wr,nulAt,List.length_nil,List.flatMap_nil,List.append_nil]
    | some k=>
     have e1:(if ver < k∨((([]:List Tr).length:Nat):Int)=0 then Val.arr e.sz [] else Val.nilA)=.arr e.sz []:=if_pos (.inr rfl)
     show Ty.wr ver fl (.arr st (some k) e) (if ver < k∨((([]:List Tr).length:Nat):Int)=0 then Val.arr e.sz [] else Val.nilA)=_
     rw[e1]
     simp only [Ty.wr,List.length_nil,List.flatMap_nil,List.append_nil]
   ·rw[if_pos (by omega)] at hr
    have:((l.length:Nat):Int).toNat=l.length:=by omega
    simp only [rs] at g1
    rw[this,g1] at hr
    injection hr with hr
    obtain⟨rfl,_⟩:=Prod.mk.inj hr
    simp only [Ty.wr]
    rw[g5.1,g5.2]
 | .row ..,f,h,_,_,_,_,_=>by simp [Ty.matB] at h
 | .tv _,f,h,_,_,_,_,_=>by simp [Ty.matB] at h
 | .ptr T pT d fs,f,h,t,r,v,hw,hr=>by
  simp only [Ty.matB,Bool.and_eq_true,decide_eq_true_eq] at h
  obtain⟨⟨h10,hn⟩,hfs⟩:=h
  rw[zlv ⟨h10,hn⟩] at hr ⊢
  have hpt:zci fl ver f.sub t=zdx fl ver f.sub 0 t:=by simp [zci,endB,zdx]
  cases hnb:f.nullB ver t with
  | true=>
   rw[hnb] at hr
   simp only [if_true] at hr ⊢
   rw[Ty.rd,if_pos (.inl (by rw[zwj]; decide))] at hr
   simp only [Option.some.injEq] at hr
   obtain⟨rfl,_⟩:=Prod.mk.inj hr
   simp only [Ty.wr]
  | false=>
   rw[hnb] at hr
   simp only [Bool.false_eq_true,if_false] at hr ⊢
   rw[List.append_assoc,Ty.rd,if_neg (by rw[zwj,zzx]; exact fun h=>h.elim (by decide) fun h=>nomatch (show (false:Bool)=true from h)),zzx,hpt] at hr
   simp only at hr
   split at hr
   ·cases hr
   ·rename_i l s h1
    injection hr with hr
    obtain⟨rfl,rfl⟩:=Prod.mk.inj hr
    simp only [Ty.wr]
    rw[Fds.wr_of fs f.sub hfs 0 t r l hw h1,hpt]
theorem El.wr_of {fl:Bool} {ver:Int}:∀ (e:El) (o:Int) (sub:List Fld),e.matB fl ver o sub=true→∀ (t:Tr) (r:List UInt8) (v:Val),wfT t→e.rd ver fl (rs (valB fl o (zci fl ver sub) false t++r))=some (v,rs r)→e.wr ver fl v=valB fl o (zci fl ver sub) false t
 | .pr k,o,sub,h,t,r,v,hw,hr=>by
  simp only [El.matB] at h
  simp only [El.rd,Option.some.injEq] at hr
  obtain⟨rfl,h2⟩:=Prod.mk.inj hr
  exact pr_wr h fl _ _ (r:=r) (r':=r) (by rw[← h2])
 | .txt k,o,sub,h,t,r,v,hw,hr=>by
  have hk:o=k.kind:=by cases k<;>simpa [El.matB,Txt.kind] using h
  simp only [El.rd,Option.some.injEq] at hr
  exact zyo k fl _ (fun _=>rfl) _ t r r _ hk v hr
 | .row T pT d fs,o,sub,h,t,r,v,hw,hr=>by
  simp only [El.matB,Bool.and_eq_true,decide_eq_true_eq] at h
  obtain⟨⟨h10,hfs⟩,hne⟩:=h
  have hv:valB fl o (zci fl ver sub) false t=zdx fl ver sub 0 t:=by rw[h10]; simp [valB,zci,endB,zdx]
  rw[hv] at hr ⊢
  rw[El.rd] at hr
  have hkt:=Fds.matB_kt fs sub hfs
  split at hr
  ·cases hr
  ·rename_i l s h1
   injection hr with hr
   obtain⟨rfl,rfl⟩:=Prod.mk.inj hr
   split at h1
   ·cases h1
   ·rename_i l2 s2 h2
    simp only [hkt] at h1
    injection h1 with h1
    obtain⟨rfl,rfl⟩:=Prod.mk.inj h1
    exact Fds.wr_of fs sub hfs 0 t r l2 hw h2
theorem Fds.wr_of {fl:Bool} {ver:Int}:∀ (fs:Fds) (sf:List Fld),fs.matB fl ver sf=true→∀ (i:Nat) (t:Tr) (r:List UInt8) (l:List Val),wfT t→fs.rd ver fl (rs (zdx fl ver sf i t++r))=some (l,rs r)→fs.wr ver fl l=zdx fl ver sf i t
 | .nil,[],h,i,t,r,l,hw,hr=>by
  have h:fl=false:=by simpa [Fds.matB] using h
  subst h
  simp [zdx,zcm,Fds.wr]
 | .tags (some _),[],h,_,_,_,_,_,_=>by simp [Fds.matB] at h
 | .tags none,[],_,i,t,r,l,hw,hr=>by
  cases fl with
  | true=>
   simp only [zdx,zcm,Fds.rd,if_true,List.nil_append] at hr ⊢
   rw[zxa t.u hw.u r] at hr
   injection hr with hr
   obtain⟨rfl,_⟩:=Prod.mk.inj hr
   simp only [Fds.wr,if_true]
   exact tags_wr t.u
  | false=>
   simp only [zdx,zcm,Fds.rd,Bool.false_eq_true,if_false,List.nil_append] at hr ⊢
   injection hr with hr
   obtain⟨rfl,_⟩:=Prod.mk.inj hr
   simp [Fds.wr]
 | .cons g ty r',f :: sf,h,i,t,r,l,hw,hr=>by
  simp only [Fds.matB,Bool.and_eq_true,beq_iff_eq] at h
  obtain⟨⟨hg,hty⟩,hfr⟩:=h
  rw[Fds.rd] at hr
  cases hh:f.has ver with
  | true=>
   rw[hh] at hty hg
   simp only [if_true] at hty
   have e:zdx fl ver (f :: sf) i t=zeo fl ver f (atT t i)++zdx fl ver sf (i+1) t:=by
    unfold zdx; rw[zcm,hh]; simp only [if_true,List.append_assoc]
   obtain⟨v,g1,g2,_⟩:=Ty.rd_of ty f hty (atT t i) (zdx fl ver sf (i+1) t++r) (hw.at i)
   rw[e,List.append_assoc,hg,if_pos rfl,g1] at hr
   simp only at hr
   split at hr
   ·cases hr
   ·rename_i l' s' h1
    injection hr with hr
    obtain⟨rfl,rfl⟩:=Prod.mk.inj hr
    rw[e,Fds.wr,hg,if_pos rfl,Fds.wr_of r' sf hfr (i+1) t r l' hw h1,Ty.wr_of ty f hty (atT t i) _ v (hw.at i) g1]
  | false=>
   rw[hh] at hty hg
   have e:zdx fl ver (f :: sf) i t=zdx fl ver sf (i+1) t:=by
    unfold zdx; rw[zcm,hh]; simp
   rw[e,hg] at hr
   simp only [Bool.false_eq_true,if_false] at hr
   split at hr
   ·cases hr
   ·rename_i l' s' h1
    injection hr with hr
    obtain⟨rfl,rfl⟩:=Prod.mk.inj hr
    rw[e,Fds.wr,hg,if_neg (by decide),List.nil_append]
    exact Fds.wr_of r' sf hfr (i+1) t r l' hw h1
 | .nil,_ :: _,h,_,_,_,_,_,_=>by simp [Fds.matB] at h
 | .tags _,_ :: _,h,_,_,_,_,_,_=>by simp [Fds.matB] at h
 | .cons ..,[],h,_,_,_,_,_,_=>by simp [Fds.matB] at h
end
theorem msg_wr {m:Msg} {fx:Bool} {ver:Int} {sf:List Fld} {t:Tr} (hw:wfT t) (hm:m.fs.matB (fx && decide (ver ≥ m.fl)) ver sf=true) {l:List Val} (hr:m.rd fx ver (rs (zci (fx && decide (ver ≥ m.fl)) ver sf t))=some l) :
  m.fs.wr ver (fx && decide (ver ≥ m.fl)) l=zci (fx && decide (ver ≥ m.fl)) ver sf t:=by
 obtain⟨fl,hfl⟩:∃ fl,fl=(fx && decide (ver ≥ m.fl)):=⟨_,rfl⟩
 unfold Msg.rd at hr
 rw[← hfl] at hm hr ⊢
 have hp:zci fl ver sf t=zdx fl ver sf 0 t:=by simp [zci,endB,zdx]
 obtain⟨l',h1,_⟩:=Fds.rd_of m.fs sf hm 0 t [] hw
 rw[List.append_nil] at h1
 rw[hp] at hr ⊢
 rw[Fds.rdR,h1] at hr
 simp only [Fds.matB_kt m.fs sf hm] at hr
 have hr:some l'=some l:=hr
 injection hr with hr
 subst hr
 refine Fds.wr_of m.fs sf hm 0 t [] l' hw ?_
 rw[List.append_nil]; exact h1
end Go.Kf
