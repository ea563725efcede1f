/- A part of the calculus by which the claim's proof goes: over any program and any numbering of its functions; no condition beyond those that each theorem names. -/
import Derived.Shelf.GgSortFunc.Whole
import Derived.Shelf.GgSortFunc.Tiny
import Derived.Sort.LotA
import Derived.ProofKit
import Derived.OpenShut
import Derived.ChangeSlices
import Derived.WideShapes
import Derived.Carry
import Derived.Laws.IdiomCopy
import Derived.Test.YtapclkhkldikeaaGreatDoorKc
set_option linter.unusedSimpArgs false
set_option linter.unusedVariables false
namespace Go.Kf
open Go Go.RowKit
def zdz (l:List (Nat × List UInt8)):List (Nat × List UInt8):=l.mergeSort fun x y=>decide (x.1≤y.1)
theorem zjw (l:List (Nat × List UInt8)):(zdz l).Perm l:=List.mergeSort_perm l _
theorem zabj (l:List (Nat × List UInt8)):((zdz l).map Prod.fst).Pairwise (·≤·):=by
 have:=List.pairwise_mergeSort (le:=fun x y:Nat × List UInt8=>decide (x.1≤y.1)) (fun a b c h1 h2=>by simp at *; omega) (fun a b=>by simp; omega) l
 rw[List.pairwise_map]
 exact this.imp fun h=>by simpa using h
theorem zzc:∀ {l m:List Nat},l.Perm m→l.Pairwise (·≤·)→m.Pairwise (·≤·)→l=m
 | [],m,h,_,_=>by rw[List.nil_perm.1 h]
 | x :: l,[],h,_,_=>by simp at h
 | x :: l,y :: m,h,h1,h2=>by
  have a:=List.pairwise_cons.1 h1
  have b:=List.pairwise_cons.1 h2
  have hxy:x=y:=by
   have hx:x∈y :: m:=h.mem_iff.1 (by simp)
   have hy:y∈x :: l:=h.mem_iff.2 (by simp)
   rcases List.mem_cons.1 hx with e | hx
   ·exact e
   ·rcases List.mem_cons.1 hy with e | hy
    ·exact e.symm
    ·have:=a.1 y hy; have:=b.1 x hx; omega
  subst hxy
  rw[zzc (List.perm_cons x |>.1 h) a.2 b.2]
def keyV (k:Nat):Value:=.int .u32 (k:Int)
structure SortOk (P:Program) (N:Nums):Prop where
 has:zcp P N.zhm
 ok:∀ (w:World) (bv bs c:Nat) (ks:List Nat),w.cell? ⟨bv,0,none⟩=some (.slice (some ⟨bs,0,none⟩) ks.length c)→bv≠bs→bs < w.heap.size→ks≠[]→ks.length < 4611686018427387904→w.rangeAt bs 0 (ks.map keyV)→w.there bs 0 ks.length→
  Call P N.zhm #[.iface N.zbo (.slice (some ⟨bs,0,none⟩) ks.length c),.func (.func N.zdp) #[] #[.pointer (some ⟨bv,0,none⟩)]] w fun _ w'=>
   ∃ ks':List Nat,ks'.Perm ks∧ks'.Pairwise (·≤·)∧w'.rangeAt bs 0 (ks'.map keyV)∧Mod w w' (blk bs)
section
variable {P:Program} {N:Nums}
theorem find_val {w:World} {G:Nat→Prop} {k:Nat} {vl:List UInt8}:∀ (l:List (Nat × List UInt8)) (es:List MapEntry) (i0:Nat),zcf w G l es→(l.map Prod.fst).Nodup→(k,vl)∈l→
  ∃ i val,Instr.findNow (.int .u32) (.int .u32 k) es i0=some (some (i,val))∧tagV w G val vl
 | [],es,i0,he,_,hm=>by simp at hm
 | (k',l') :: l,es,i0,he,hnd,hm=>by
  obtain⟨v',b,rest,rfl,h2,h3⟩:=he
  simp only [List.map_cons,List.nodup_cons] at hnd
  by_cases hk:k'=k
  ·subst hk
   have e:l'=vl:=by
    rcases List.mem_cons.1 hm with e | hm
    ·injection e with _ e; exact e.symm
    ·exact absurd (List.mem_map.2 ⟨_,hm,rfl⟩) hnd.1
   subst e
   exact⟨i0,v',by simp [Instr.findNow,Instr.sameNow],h2⟩
  ·have hk2:((k:Int) == (k':Int))=false:=by
    have:(k:Int)≠(k':Int):=by omega
    simpa using this
   have hm':(k,vl)∈l:=by
    rcases List.mem_cons.1 hm with e | hm
    ·injection e with e _; exact absurd e.symm hk
    ·exact hm
   obtain⟨i,val,g1,g2⟩:=find_val l rest (i0+1) h3 hnd.2 hm'
   exact⟨i,val,by simp only [Instr.findNow,Instr.sameNow,if_true,hk2,g1],g2⟩
theorem zxg (B:Base P N) (hT:N.zcy≠0) {w:World} {G:Nat→Prop} {mr k:Nat} {l:List (Nat × List UInt8)} {es:Array MapEntry} {ck:Nat} {vl:List UInt8} (hb:w.heap[mr]?=some (.map es ck)) (h6:zcf w G l es.toList) (h7:(l.map Prod.fst).Nodup) (hm:(k,vl)∈l) :
  ∃ val,(Instr.lookup N.zab (.map (some mr)) (.int .u32 k) false).run P w=.ok val w∧tagV w G val vl:=by
 obtain⟨_,_,hmap⟩:=B.tags hT
 obtain⟨i,val,g1,g2⟩:=find_val (k:=k) l es.toList 0 h6 h7 hm
 have hck:=MapKept.run_checkKey (P:=P) (w:=w) (k:=.int .u32 k) B.uint32.und rfl es.isEmpty 9999
 have hgo:=MapKept.run_getObj_map (P:=P) hb
 have hfk:=MapKept.run_findKey (P:=P) (w:=w) (k:=.int .u32 k) B.uint32.und g1
 refine⟨val,?_,g2⟩
 simp only [Instr.lookup,Sem.run_bind,hmap.run_und,Result.andThen_ok,hgo,Sem.run_pure,hck,hfk]
 rfl
theorem run_mkIface (hL:LU P N) {w:World} {v:Value}:(Instr.makeInterface N.zbo v).run P w=.ok (.iface N.zbo v) w:=by
 simp only [Instr.makeInterface,Sem.run_bind,hL.lu.run_und,Result.andThen_ok]
 rfl
theorem zre {fn:Fn} {a b:Array Value} {w:World}:(Instr.makeFunc fn a b).run P w=.ok (.func fn a b) w:=rfl
structure ET (S:List (Nat × List UInt8)) (wS:World) (lo:Nat) (Mo:Nat→Nat→Prop) (I:Nat→List (Nat × List UInt8)→World→Prop) (v0 v1 vr:Value) (j:Nat) (σ:Env) (w:World):Prop where
 f0:σ 0=v0
 f1:σ 1=v1
 f7:σ 7=vr
 f8:σ 8=.int .i64 S.length
 f9:σ 9=.int .i64 j
 le:j≤S.length
 mod:Mod wS w fun k o=>Mo k o∨lo≤k
 inv:I lo (S.take j) w
def cTellTag (N:Nums):C:=
 .seq (.ops [⟨some 0,.indexAddr N.zbo (V 7) (V 9),0,none,[]⟩,⟨some 1,.load N.zc (T 0),0,none,[]⟩,⟨some (11+100),.assign (T 1),0,none,[]⟩])
  (.ops [⟨some 0,.move (V 1),0,none,[]⟩,⟨some 1,.move (V 11),0,none,[]⟩,⟨some 2,.move (V 0),0,none,[]⟩,⟨some 3,.nilCheck (T 2),0,none,[]⟩,⟨some 4,.fieldAddr N.zcy (T 3) 0,0,none,[]⟩,
   ⟨some 5,.load N.zab (T 4),0,none,[]⟩,⟨some 6,.move (V 11),0,none,[]⟩,⟨some 7,.lookup N.zab (T 5) (T 6) false,0,none,[]⟩,⟨some 8,.call ⟨.value (T 0),#[T 1,T 7],#[N.zc,N.za]⟩,N.t_,none,[]⟩])
def CbOk (P:Program) (f:FuncId) (cap:Value) (lo:Nat) (G:Nat→Prop) (Mo:Nat→Nat→Prop) (I:Nat→List (Nat × List UInt8)→World→Prop) (S:List (Nat × List UInt8)):Prop:=
 ∀ (j:Nat) (x:Nat × List UInt8) (w1:World) (v:Value),S[j]?=some x→I lo (S.take j) w1→lo≤w1.heap.size→tagV w1 G v x.2→Call P f #[.int .u32 x.1,v,cap] w1 fun _ w2=>I lo (S.take (j+1)) w2∧Mod w1 w2 fun k o=>Mo k o∨lo≤k
theorem tell_round (B:Base P N) (hT:N.zcy≠0) (hL:LU P N) {loc:List Nat} {N':Nat} {Q:Exit→Env→World→Prop} {S l:List (Nat × List UInt8)} {wS w:World} {lo:Nat} {Mo:Nat→Nat→Prop} {I:Nat→List (Nat × List UInt8)→World→Prop} {G:Nat→Prop}
  {b o bs c mr f j:Nat} {es:Array MapEntry} {ck:Nat} {cap:Value} {σ:Env}
  (hS:∀ x∈S,x∈l) (hf:zcp P f) (hcb:CbOk P f cap lo G Mo I S) (hloS:lo≤wS.heap.size) (hbs:bs < lo) (hMbs:∀ o,¬ Mo bs o) (hblt:b < lo) (hMb:¬ Mo b o) (hmr:mr < lo) (hMm:∀ o,¬ Mo mr o) (hMG:∀ k,G k→k < lo∧∀ o,¬ Mo k o)
  (hrow:wS.rangeAt bs 0 (S.map fun x=>keyV x.1)) (hcell:wS.cell? ⟨b,o,none⟩=some (.map (some mr))) (hmap:wS.heap[mr]?=some (.map es ck)) (hent:zcf wS G l es.toList) (hnd:(l.map Prod.fst).Nodup)
  (hj:j < S.length) (h:ET S wS lo Mo I (.pointer (some ⟨b,o,none⟩)) (.func (.func f) #[] #[cap]) (.slice (some ⟨bs,0,none⟩) S.length c) j σ w)
  (hQ:∀ σ' w',σ' 9=.int .i64 j→ET S wS lo Mo I (.pointer (some ⟨b,o,none⟩)) (.func (.func f) #[] #[cap]) (.slice (some ⟨bs,0,none⟩) S.length c) (j+1) (upd σ' 9 (.int .i64 ((j+1:Nat):Int))) w'→Q .normal σ' w') :
  W P loc N' (cTellTag N) Q σ w:=by
 obtain⟨f0,f1,f7,f8,f9,_,mod,inv⟩:=h
 obtain⟨_,hHF,hmt⟩:=B.tags hT
 have hs:=mod.size
 have no:∀ {k o:Nat},k < lo→¬ Mo k o→¬ (Mo k o∨lo≤k):=fun h1 h2 h=>h.elim h2 fun h=>by omega
 have hx:S[j]?=some S[j]:=List.getElem?_eq_getElem hj
 have hrow':w.rangeAt bs 0 (S.map fun x=>keyV x.1):=mod.rangeAt (by omega) (fun i _ _=>no hbs (hMbs i)) hrow
 have hk:w.cell? ⟨bs,j,none⟩=some (.int .u32 ((S[j]).1:Int)):=by
  have:=hrow' j _ (by rw[List.getElem?_map,hx]; rfl)
  simpa [keyV] using this
 have hcell':w.cell? ⟨b,o,none⟩=some (.map (some mr)):=by rw[mod.cell _ _ (by omega) (no hblt hMb)]; exact hcell
 have hmap':w.heap[mr]?=some (.map es ck):=by rw[mod.block _ (by omega) (fun o=>no hmr (hMm o))]; exact hmap
 have hent':zcf w G l es.toList:=hent.mod mod fun k hk=>⟨by have:=(hMG k hk).1; omega,fun o=>no (hMG k hk).1 ((hMG k hk).2 o),hk⟩
 obtain⟨val,hlk,htv⟩:=zxg B hT hmap' hent' hnd (show ((S[j]).1,(S[j]).2)∈l from hS _ (List.getElem_mem hj))
 unfold cTellTag
 refine zd fun K hK=>zi fun τ=>?_
 simp +decide only [bK,bE,BEq.rfl,Nat.reduceAdd,Nat.zero_add,Nat.mul_one,f7,f9,zcb hL.lu B.uint32 hj,B.uint32.run_load1 rfl,hk]
 refine hK _ _ (zb fun σ2 hσ=>?_)
 have g0:=hσ 0
 have g1:=hσ 1
 have g7:=hσ 7
 have g8:=hσ 8
 have g9:=hσ 9
 have g11:=hσ 11
 simp +decide only [bE,Nat.reduceBeqDiff,BEq.rfl,Nat.reduceAdd,Nat.zero_add,f0,f1,f7,f8,f9] at g0 g1 g7 g8 g9 g11
 clear hσ hK K
 refine zi fun τ=>?_
 simp +decide only [bK,bE,Nat.reduceBeqDiff,BEq.rfl,Nat.reduceAdd,Nat.zero_add,g0,g1,g11]
 rw[zw rfl]
 simp +decide only [bK,bE,Nat.reduceBeqDiff,BEq.rfl,Nat.add_zero,hHF.run,hmt.run_load1 rfl,hcell',g11,zabf,hlk]
 rw[zvy (f:=f) (cap:=#[cap]) (by simp +decide only [bE,Nat.reduceBeqDiff,BEq.rfl,ev_tmp]) hf]
 have e2:∀ ρ:Env,(#[T 1,T 7]:Array Operand).map (ev ρ)++#[cap]=#[ρ 1,ρ 7,cap]:=fun ρ=>by simp
 rw[e2]
 simp +decide only [bE,Nat.reduceBeqDiff,BEq.rfl]
 have:=hcb j S[j] w val hx inv (by omega) htv
 refine Call.mono (Rt':=_) this ?_
 rintro v w2 ⟨hi2,hm2⟩
 refine zb (K:=fun σ' w'=>Q .normal σ' w') fun σ3 hσ=>hQ _ _ ?_ ?_
 ·have:=hσ 9
  simp +decide only [bE,Nat.reduceBeqDiff,Nat.reduceAdd,g9] at this
  exact this
 ·have p0:=hσ 0
  have p1:=hσ 1
  have p7:=hσ 7
  have p8:=hσ 8
  simp +decide only [bE,Nat.reduceBeqDiff,Nat.reduceAdd,Nat.zero_add,g0,g1,g7,g8] at p0 p1 p7 p8
  exact⟨by rw[zg (by decide)]; exact p0,by rw[zg (by decide)]; exact p1,by rw[zg (by decide)]; exact p7,by rw[zg (by decide)]; exact p8,upd_same _ _ _,by omega,mod.trans' hm2,hi2⟩
end
section
variable {P:Program} {N:Nums}
theorem zcf.keys {w:World} {G:Nat→Prop}:∀ {l:List (Nat × List UInt8)} {es:List MapEntry},zcf w G l es→es.map MapEntry.key=l.map (fun x=>keyV x.1)
 | [],es,h=>by simp only [zcf] at h; subst h; rfl
 | (k,x) :: l,es,⟨v,b,rest,h1,h2,h3⟩=>by subst h1; simp only [List.map_cons,keyV]; rw[zcf.keys h3]; rfl
theorem call_Each (B:Base P N) (F:Fns P N) (hN:N.zhn≠0) (hT:N.zcy≠0) (hL:LU P N) (hS:SortOk P N) {w:World} {b o f:Nat} {v cap:Value} {G:Nat→Prop} {l:List (Nat × List UInt8)}
  (hc:w.cell? ⟨b,o,none⟩=some v) (hG:∀ k,G k→k < w.heap.size) (ht:zpx w G v l) (hf:zcp P f) (hsz:l.length < 1099511627776) (I:Nat→List (Nat × List UInt8)→World→Prop) (Mo:Nat→Nat→Prop)
  (hMo:∀ k o,Mo k o→k < w.heap.size) (hMb:¬ Mo b o) (hMG:∀ k,G k→∀ o,¬ Mo k o) (hI0:∀ w',Mod w w' zy→I w'.heap.size [] w') (hcb:∀ lo,w.heap.size≤lo→CbOk P f cap lo G Mo I (zdz l)) :
  Call P N.zhn #[.pointer (some ⟨b,o,none⟩),.func (.func f) #[] #[cap]] w fun _ w'=>∃ lo,w.heap.size≤lo∧lo≤w'.heap.size∧I lo (zdz l) w'∧Mod w w' Mo:=by
 obtain⟨_,hHF,hmt⟩:=B.tags hT
 have hb:b < w.heap.size:=zde (by rw[hc]; rfl)
 refine(F.PTags_Each hN).1.call rfl fun loc N' hlo=>?_
 unfold zsl
 obtain⟨σ,hσ⟩:∃ σ,σ=zdf #[.pointer (some ⟨b,o,none⟩),.func (.func f) #[] #[cap]]:=⟨_,rfl⟩
 have f0:σ 0=.pointer (some ⟨b,o,none⟩):=by rw[hσ]; rfl
 have f1:σ 1=.func (.func f) #[] #[cap]:=by rw[hσ]; rfl
 rw[← hσ]
 clear hσ
 have emptyS:∀ σ':Env,l=[]→retQ P [] (fun _ w'=>∃ lo,w.heap.size≤lo∧lo≤w'.heap.size∧I lo (zdz l) w'∧Mod w w' Mo) .ret σ' w:=by
  intro σ' e
  subst e
  exact⟨.inr rfl,.tuple #[],rfl,w.heap.size,Nat.le_refl _,Nat.le_refl _,by simpa [zdz] using hI0 w (.refl _ _),.refl _ _⟩
 rcases ht with⟨rfl,hl⟩ | ⟨mr,es,ck,rfl,hGm,hmap,hborn,hbnd,hent,hknd,hkb⟩
 ·refine zd fun K hK=>zd fun K1 hK1=>zi fun τ=>?_
  simp +decide only [bK,bE,BEq.rfl,Nat.reduceAdd,Nat.zero_add,f0]
  rw[zw rfl]
  simp +decide only [bK,bE,BEq.rfl,Nat.add_zero,hHF.run,hmt.run_load1 rfl,hc,ztt hmt.und]
  refine hK1 _ _ (zb fun σ1 hσ=>?_)
  have g2:=hσ 2
  simp +decide only [bE,BEq.rfl,Nat.reduceAdd] at g2
  refine W_if hlo g2 ?_
  rw[if_pos rfl]
  exact zbb (emptyS _ hl)
 have hlen:es.size=l.length:=by
  have:=congrArg List.length hent.keys
  simpa using this
 refine zd fun K hK=>zd fun K1 hK1=>zi fun τ=>?_
 simp +decide only [bK,bE,BEq.rfl,Nat.reduceAdd,Nat.zero_add,f0]
 rw[zw rfl]
 simp +decide only [bK,bE,BEq.rfl,Nat.add_zero,hHF.run,hmt.run_load1 rfl,hc,zrf hmt.und hmap]
 refine hK1 _ _ (zb fun σ1 hσ=>?_)
 have g0:=hσ 0
 have g1:=hσ 1
 have g2:=hσ 2
 simp +decide only [bE,Nat.reduceBeqDiff,BEq.rfl,Nat.reduceAdd,Nat.zero_add,f0,f1] at g0 g1 g2
 clear hσ hK1 K1
 refine W_if hlo g2 ?_
 by_cases h0:l=[]
 ·have:(((es.size:Nat):Int) == 0)=true:=by rw[hlen,h0]; rfl
  rw[if_pos this]
  exact zbb (emptyS _ h0)
 have hpos:0 < l.length:=List.length_pos_iff.2 h0
 have:(((es.size:Nat):Int) == 0)=false:=by rw[hlen]; simp; omega
 rw[if_neg (by rw[this]; simp)]
 refine zbd (hK _ _ ?_)
 clear hK K emptyS
 obtain⟨w1,hmk,ho1,m1,s1⟩:=zze (w:=w) (n:=es.size) hL.lu B.uint32 rfl (by omega) (by omega)
 obtain⟨w2,hw2⟩:∃ w2,w2=w1.alloc (.cells (Value.cells (.slice none 0 0)) N.zbo):=⟨_,rfl⟩
 have m2:Mod w1 w2 zy:=by rw[hw2]; exact Mod.alloc _ _ _
 have s2:w2.heap.size=w1.heap.size+1:=by rw[hw2]; exact zav _ _
 have r2:w2.rangeAt w1.heap.size 0 [.slice none 0 0]:=by rw[hw2]; exact zr w1 _ _ _
 have t2:w2.there w1.heap.size 0 1:=by rw[hw2]; exact zbq w1 _ _
 have hst:=hL.lu.run_store1 (w:=w2) (b:=w1.heap.size) (o:=0) (v:=.slice (some ⟨w.heap.size,0,none⟩) 0 es.size) rfl t2
 obtain⟨w3,hw3⟩:∃ w3,w3=w2.setCell ⟨w1.heap.size,0,none⟩ (.slice (some ⟨w.heap.size,0,none⟩) 0 es.size):=⟨_,rfl⟩
 have m3:Mod w2 w3 (blk w1.heap.size):=by rw[hw3]; exact Mod.setCell fun _=>rfl
 have s3:w3.heap.size=w2.heap.size:=by rw[hw3]; simp [World.setCell]
 have c3:w3.cell? ⟨w1.heap.size,0,none⟩=some (.slice (some ⟨w.heap.size,0,none⟩) 0 es.size):=by rw[hw3]; exact World.cell?_setCell_same _ _ _ (r2 0 _ rfl)
 have hal:=hL.lu.run_alloc (w:=w1) (.tuple #[])
 refine zd fun K hK=>zi fun τ=>?_
 simp +decide only [bK,bE,Nat.reduceBeqDiff,BEq.rfl,Nat.reduceAdd,Nat.zero_add,g0]
 rw[zw rfl]
 simp +decide only [bK,bE,BEq.rfl,Nat.add_zero,hHF.run,hmt.run_load1 rfl,hc,zrf hmt.und hmap,zpb,hmk,hal,← hw2,hst,← hw3]
 obtain⟨b3,hb3⟩:∃ b3,b3=w1.heap.size:=⟨_,rfl⟩
 rw[← hb3] at c3 m3 t2 ⊢
 refine hK _ _ (zb fun σ2 hσ=>?_)
 have p0:=hσ 0
 have p1:=hσ 1
 have p3:=hσ 3
 simp +decide only [bE,Nat.reduceBeqDiff,BEq.rfl,Nat.reduceAdd,Nat.zero_add,g0,g1] at p0 p1 p3
 clear hσ hK K hmk hal hst hw3 hw2 r2
 have m03:Mod w w3 zy:=(m1.trans' m2).fresh m3 fun k o e=>by have:k=b3:=e; omega
 have hc3:w3.cell? ⟨b,o,none⟩=some (.map (some mr)):=by rw[m03.cell _ _ hb (fun h=>h)]; exact hc
 have hmrlt:=hG mr hGm
 have hmap3:w3.heap[mr]?=some (.map es ck):=by rw[m03.block _ hmrlt (fun o h=>h)]; exact hmap
 refine zd fun K hK=>zd fun K1 hK1=>zi fun τ=>?_
 simp +decide only [bK,bE,BEq.rfl,Nat.reduceAdd,Nat.zero_add,p0]
 rw[zw rfl]
 simp +decide only [bK,bE,BEq.rfl,Nat.add_zero,hHF.run,hmt.run_load1 rfl,hc3,step_range,run_range_map w3 _ _ _ mr es ck hmt.und hmap3]
 obtain⟨w4,hw4⟩:∃ w4,w4=w3.alloc (.mapIter (some mr) ck #[] ck):=⟨_,rfl⟩
 have m4:Mod w3 w4 zy:=by rw[hw4]; exact Mod.alloc _ _ _
 have s4:w4.heap.size=w3.heap.size+1:=by rw[hw4]; exact zav _ _
 have i4:w4.heap[w3.heap.size]?=some (.mapIter (some mr) ck #[] ck):=by rw[hw4]; exact zoe _ _
 rw[← hw4]
 clear hw4
 refine hK1 _ _ (zb fun σ4 hσ=>?_)
 have q0:=hσ 0
 have q1:=hσ 1
 have q3:=hσ 3
 have q4:=hσ 4
 simp +decide only [bE,Nat.reduceBeqDiff,BEq.rfl,Nat.reduceAdd,Nat.zero_add,p0,p1,p3] at q0 q1 q3 q4
 clear hσ hK1 K1
 have m04:Mod w w4 zy:=m03.trans' m4
 have m14:Mod w1 w4 zy:=(m2.fresh m3 fun k o e=>by have:k=b3:=e; omega).trans' m4
 have hEC:EC es.toList ck mr w w.heap.size b3 w3.heap.size (.pointer (some ⟨b,o,none⟩)) (.func (.func f) #[] #[cap]) [] σ4 w4:=by
  refine⟨q0,q1,q3,q4,m04,by rw[m04.block _ hmrlt (fun o h=>h)]; simpa using hmap,⟨#[],i4,rfl⟩,fun e he=>by simp at he,by simp,⟨.slice (some ⟨w.heap.size,0,none⟩) 0 es.size,?_,m4.there (by omega) (m3.there (by omega) t2),ho1.stay m14 fun _ _ _ h=>h,?_,?_⟩,by omega,by omega,by omega,by omega,by omega,by omega,by omega,by omega⟩
  ·rw[m4.cell _ _ (by omega) (fun h=>h)]; exact c3
  ·intro b' o' s' n' c' e; injection e with e1 _ _; injection e1 with e2; injection e2 with e3; omega
  ·intro b' o' s' n' c' e; injection e with e1 _ _; injection e1 with e2; injection e2 with e3; omega
 have hkey1:∀ e∈es.toList,e.key.oneCell'=true:=fun e he=>by
  have:e.key∈es.toList.map MapEntry.key:=List.mem_map.2 ⟨e,he,rfl⟩
  rw[hent.keys] at this
  obtain⟨x,_,hx⟩:=List.mem_map.1 this
  rw[← hx]; rfl
 refine zem (zpk (fun n σ w'=>∃ picked,n=es.toList.length - picked.length∧EC es.toList ck mr w w.heap.size b3 w3.heap.size (.pointer (some ⟨b,o,none⟩)) (.func (.func f) #[] #[cap]) picked σ w') (n:=es.toList.length - [].length) ⟨[],rfl,hEC⟩ ?_)
 rintro n σ5 w5 ⟨picked,rfl,h5⟩
 refine zxs B hL hlo hborn hbnd hkey1 (by simp; omega) h5 (fun σ6 w6 h6 hperm=>?_) fun σ6 w6 e hlt h6=>⟨_,by simp at hlt ⊢; omega,picked++[e],rfl,h6⟩
 simp only [zfd,inB,if_true]
 refine hK _ _ ?_
 clear hK K h5 hEC i4 ho1
 obtain⟨r0,r1,r3,_,m06,map6,_,_,_,⟨v6,hc6,ht6,ho6,nb3,_⟩,_,_,_,_,_,_,_,_⟩:=h6
 obtain⟨ks,hks,hkp⟩:∃ ks:List Nat,picked.map MapEntry.key=ks.map keyV∧ks.Perm (l.map Prod.fst):=by
  have hp2:(picked.map MapEntry.key).Perm ((l.map Prod.fst).map keyV):=by
   have:=hperm.map MapEntry.key
   rw[hent.keys] at this
   simpa [Function.comp_def] using this
  refine⟨picked.map fun e=>match e.key with | .int _ k=>k.toNat | _=>0,?_,?_⟩
  ·rw[List.map_map]
   refine List.map_congr_left fun e he=>?_
   have:e.key∈(l.map Prod.fst).map keyV:=hp2.mem_iff.1 (List.mem_map.2 ⟨e,he,rfl⟩)
   obtain⟨k,_,hk⟩:=List.mem_map.1 this
   simp only [Function.comp,← hk,keyV]
   simp
  ·have:=hp2.map fun v:Value=>match v with | .int _ k=>k.toNat | _=>0
   simpa [Function.comp_def,keyV] using this
 have hpl:picked.length=l.length:=by have:=hperm.length_eq; simpa [hlen] using this
 have hkl:ks.length=l.length:=by have:=hkp.length_eq; simpa using this
 rw[hks,hpl] at ho6
 obtain⟨bs,cs,rfl,hb1,hb2,hnc,hth,hrg,_⟩:∃ bs c,v6=.slice (some ⟨bs,0,none⟩) l.length c∧w.heap.size≤bs∧bs < w6.heap.size∧l.length≤c∧w6.there bs 0 (c * 1)∧w6.rangeAt bs 0 (ks.map keyV)∧(ks.map keyV).length=l.length * 1:=by
  rcases ho6 with⟨_,h,_⟩ | h
  ·omega
  ·exact h
 have hb3s:b3≠bs:=nb3 bs 0 none _ _ rfl
 have s6:=m06.size
 have hso:=hS.ok w6 b3 bs cs ks (by rw[hkl]; exact hc6) hb3s hb2 (fun e=>by rw[e] at hkl; simp at hkl; omega) (by omega) hrg (fun i hi=>hth i (by omega))
 rw[hkl] at hso
 refine zd fun K hK=>zi fun τ=>?_
 simp +decide only [bK,bE,BEq.rfl,Nat.reduceAdd,r3,hL.lu.run_load1 rfl,hc6,zhs,run_mkIface hL,zmg,zre]
 have e3:∀ ρ:Env,ρ 103=.pointer (some ⟨b3,0,none⟩)→(#[V 3]:Array Operand).map (ev ρ)=#[.pointer (some ⟨b3,0,none⟩)]:=fun ρ h=>by simp [h]
 have e4:∀ ρ:Env,(#[]:Array Operand).map (ev ρ)=#[]:=fun ρ=>by simp
 rw[zah hS.has]
 simp +decide only [bK,bE,Nat.reduceBeqDiff,BEq.rfl,e4]
 rw[e3 _ (by simp +decide only [bE,Nat.reduceBeqDiff,r3])]
 refine Call.mono (Rt':=_) hso ?_
 rintro _ w7 ⟨ks',hkp',hks',hrg7,m7⟩
 refine zb (K:=fun σ' w'=>zfd K _ .normal σ' w') fun σ7 hσ=>hK _ _ ?_
 have u0:=hσ 0
 have u1:=hσ 1
 have u3:=hσ 3
 simp +decide only [bE,Nat.reduceBeqDiff,Nat.reduceAdd,Nat.zero_add,r0,r1,r3] at u0 u1 u3
 clear hσ hK K hso
 have s7:=m7.size
 have m07:Mod w w7 zy:=m06.fresh m7 fun k o e=>by have:k=bs:=e; omega
 have hc7:w7.cell? ⟨b3,0,none⟩=some (.slice (some ⟨bs,0,none⟩) l.length cs):=by
  rw[m7.cell _ _ (zde (by rw[hc6]; rfl)) (fun h=>hb3s h)]; exact hc6
 have hkeq:ks'=(zdz l).map Prod.fst:=zzc (hkp'.trans (hkp.trans ((zjw l).map Prod.fst).symm)) hks' (zabj l)
 have hSl:(zdz l).length=l.length:=(zjw l).length_eq
 refine zd fun K hK=>zi fun τ=>?_
 simp +decide only [bK,bE,BEq.rfl,Nat.reduceAdd,u3,hL.lu.run_load1 rfl,hc7,hL.lu.run_len]
 refine hK _ _ (zb fun σ8 hσ=>?_)
 have k0:=hσ 0
 have k1:=hσ 1
 have k7:=hσ 7
 have k8:=hσ 8
 have k9:=hσ 9
 simp +decide only [bE,Nat.reduceBeqDiff,BEq.rfl,Nat.reduceAdd,Nat.zero_add,u0,u1] at k0 k1 k7 k8 k9
 clear hσ hK K
 have no:∀ {k:Nat} {o:Nat},Mo k o→w.heap.size≤k→False:=fun h1 h2=>by have:=hMo _ _ h1; omega
 rw[← hSl] at k7 k8
 refine ztg (i:=9) (l:=8) (c:=10) (k:=2) hlo (L:=(zdz l).length) (by omega) (ET (zdz l) w7 w7.heap.size Mo I (.pointer (some ⟨b,o,none⟩)) (.func (.func f) #[] #[cap]) (.slice (some ⟨bs,0,none⟩) (zdz l).length cs)) (fun j σ w h=>⟨h.f9,h.f8,h.le⟩) (fun j σ w b h=>?_) ?_ (fun σ9 w9 h=>?_) (fun j σ' w' hj h=>?_)
 ·exact⟨by rw[zg (by decide)]; exact h.f0,by rw[zg (by decide)]; exact h.f1,by rw[zg (by decide)]; exact h.f7,by rw[zg (by decide)]; exact h.f8,by rw[zg (by decide)]; exact h.f9,h.le,h.mod,h.inv⟩
 ·exact⟨k0,k1,k7,k8,k9,Nat.zero_le _,.refl _ _,hI0 w7 m07⟩
 ·have hinv:=h.inv
  rw[List.take_length] at hinv
  exact⟨.inl rfl,.tuple #[],rfl,w7.heap.size,m07.size,h.mod.size,hinv,m07.trans h.mod fun k o hk h=>h.elim False.elim fun h=>h.elim id fun h=>by have:=m07.size; omega⟩
 ·refine tell_round B hT hL (l:=l) (G:=G) (mr:=mr) (es:=es) (ck:=ck) (fun x hx=>(zjw l).mem_iff.1 hx) hf (hcb w7.heap.size m07.size) (Nat.le_refl _) (by omega) (fun o h=>no h (by omega)) (by omega) hMb (by omega) (hMG mr hGm) (fun k hk=>⟨by have:=hG k hk; omega,hMG k hk⟩) ?_ ?_ ?_ ?_ hknd hj h fun σ' w' h1 h2=>⟨h1,h2⟩
  ·rw[hkeq] at hrg7
   simpa [Function.comp_def] using hrg7
  ·rw[m07.cell _ _ hb (fun h=>h)]; exact hc
  ·rw[m07.block _ hmrlt (fun o h=>h)]; exact hmap
  ·exact hent.mod m07 fun k hk=>⟨hG k hk,fun _ h=>h,hk⟩
end
structure SortT (P:Program) (N:Nums):Prop where
 has:zcp P N.zhm
 out:∃ (ρ:Go.Shelf.Ren) (i ie:TypeInfo) (f6 f2:Nat),Go.Proofs.LaysGg.n6 P ρ∧ρ.f 6=N.zhm∧P.info? N.zbo=some i∧i.desc=.slice N.zc∧P.packed N.zbo=false∧P.info? N.zc=some ie ∧
  (∀ w,(Extern.Rtype.kind N.zc).run P w=.ok 10 w)∧ie.hasPointers=false∧ie.bytes=4∧ie.size=1 ∧
  P.funcs.findIdx? (·.name == "internal/reflectlite" ++ ".Swapper$" ++ toString 6)=some f6∧P.funcs.findIdx? (·.name == "internal/reflectlite" ++ ".Swapper$" ++ toString 2)=some f2 ∧
  ∀ args W,(callFunc f6 args).run P W=((Extern.ReflectliteSwapper.swap true args).run P W).andThen fun v w'=>.ok (.value v) w'
section
variable {P:Program} {N:Nums}
theorem Mod.grow (w:World) (os:Array Obj) (M:Nat→Nat→Prop):Mod w (Go.Sort.grow w os) M:=
 .of_blocks rfl rfl rfl (by rw[Go.Sort.size_grow]; omega) fun k hk=>Go.Sort.heap_grow_old w os hk
theorem Mod.ahead (w:World) (n:Nat) (M:Nat→Nat→Prop):Mod w (Go.Sort.ahead w n) M:=.of_blocks rfl rfl rfl (Nat.le_refl _) fun _ _=>rfl
theorem zug (enc:Int→Value) (w:World) (bs:Nat) (d:Array Int) (k:Nat):(Go.Sort.putRow enc w bs 0 d).heap[k]?=if bs=k then (w.heap[k]?).map (Go.Sort.onCells (Go.Sort.putCells enc 0 d)) else w.heap[k]?:=by
 simp only [Go.Sort.putRow,Go.Sort.mapBlock,Array.getElem?_modify]
theorem Mod.putRow (enc:Int→Value) (w:World) (bs:Nat) (d:Array Int):Mod w (Go.Sort.putRow enc w bs 0 d) (blk bs):=by
 have hne:∀ k,k≠bs→(Go.Sort.putRow enc w bs 0 d).heap[k]?=w.heap[k]?:=fun k hk=>by rw[zug,if_neg (fun e=>hk e.symm)]
 have hsame:(Go.Sort.putRow enc w bs 0 d).heap[bs]?=(w.heap[bs]?).map (Go.Sort.onCells (Go.Sort.putCells enc 0 d)):=by rw[zug,if_pos rfl]
 refine⟨rfl,rfl,rfl,by rw[Go.Sort.size_putRow]; exact Nat.le_refl _,fun k hk hn=>hne k fun e=>hn 0 e,fun k o hk hn=>World.cell?_of_block (hne k fun e=>hn e),fun k o hk=>?_,fun k o hk=>Go.Sort.frozen?_putRow enc w bs 0 d _,fun k hk=>?_⟩
 ·by_cases e:k=bs
  ·subst e
   simp only [World.cell?,hsame]
   cases w.heap[k]? with
   | none=>rfl
   | some ob=>
    cases ob<;>simp [Go.Sort.onCells,Go.Sort.putCells]
  ·rw[World.cell?_of_block (hne k e)]
 ·by_cases e:k=bs
  ·subst e
   simp only [World.shape?,hsame]
   cases w.heap[k]? with
   | none=>rfl
   | some ob=>
    cases ob<;>simp [Go.Sort.onCells,Go.Sort.putCells]
  ·simp only [World.shape?,hne k e]
theorem sortOk (B:Base P N) (F:Fns P N) (hN:N.zdp≠0) (hL:LU P N) (hT:SortT P N):SortOk P N:=by
 refine⟨hT.has,fun w bv bs c ks hv hne hbs hks0 hkl hrg hth=>?_⟩
 obtain⟨ρ,i,ie,f6,f2,L,hρ,hi,hd,hpk,hie,hke,hp,hby,hs1,hf6,hf2,hx⟩:=hT.out
 have hless1:=(F.PTags_Each_1 hN).has
 obtain⟨ks0,hks⟩:∃ d:Array Int,d=(ks.map fun k:Nat=>(k:Int)).toArray:=⟨_,rfl⟩
 have hsz:ks0.size=ks.length:=by rw[hks]; simp
 have hget:∀ t,t < ks.length→ks0[t]! = ((ks.getD t 0:Nat):Int):=fun t ht=>by
  rw[hks,getElem!_pos _ t (by simpa using ht)]
  simp [List.getD,ht]
 unfold Call
 rw[← hρ]
 by_cases h2:2≤ks.length
 ·have hH:Go.Sort.Holds (Value.int .u32) w bs 0 ks0:=by
   intro j hj
   rw[hsz] at hj
   refine⟨?_,by have:=(hth j hj).2; simpa using this⟩
   have:=hrg j (keyV (ks.getD j 0)) (by rw[List.getElem?_map,List.getElem?_eq_getElem hj]; simp [List.getD,hj])
   rw[hget j hj]
   exact this
  have hless:Go.Proofs.LessReads P N.zdp #[.pointer (some ⟨bv,0,none⟩)] (Value.int .u32) Go.Sort.ltInt bs 0 ks0.size w:=by
   intro m os dk hdk a b ha hb
   have e:Go.Proofs.sortWorld (Value.int .u32) w bs 0 m dk os=Go.Sort.putRow (Value.int .u32) (Go.Sort.grow (Go.Sort.ahead w m) os) bs 0 dk:=by
    unfold Go.Proofs.sortWorld; rw[Go.Sort.putRow_grow _ (Go.Sort.ahead w m) _ bs 0 _ hbs]
   have hHg:Go.Sort.Holds (Value.int .u32) (Go.Sort.grow (Go.Sort.ahead w m) os) bs 0 ks0:=Go.Sort.holds_grow _ _ _ bs 0 ks0 hbs (Go.Sort.holds_ahead _ _ _ _ _ _ hH)
   have hvl:bv < w.heap.size:=zde (by rw[hv]; rfl)
   have hc:=call_less (st:=hL.lu) (w:=Go.Proofs.sortWorld (Value.int .u32) w bs 0 m dk os) (bv:=bv) (blk:=bs) (n:=ks.length) (c:=c) B F hN (by
    rw[e,Go.Sort.cell?_putRow_other _ _ bs 0 dk _ (.inl hne),Go.Sort.cell?_grow _ _ _ hvl]; exact hv) (g:=fun t=>dk[t]!) (fun t ht=>by
    rw[e]
    have:=Go.Sort.cell?_putRow (Value.int .u32) _ bs 0 ks0 dk hHg hdk t (by rw[hdk,hsz]; exact ht)
    simpa using this) (show a < ks.length by rw[← hsz]; exact ha) (show b < ks.length by rw[← hsz]; exact hb)
   refine Calls.mono hc ?_
   rintro ex w' ⟨v,rfl,rfl,rfl⟩
   exact⟨rfl,1,rfl⟩
  have hsw:Go.Lib.swapperK ks0.size ie 10=6:=by
   have a:(ks0.size == 0)=false:=beq_eq_false_iff_ne.2 (by omega)
   have b:(ks0.size == 1)=false:=beq_eq_false_iff_ne.2 (by omega)
   simp [Go.Lib.swapperK,hp,hby,a,b]
  have hS:=Go.Proofs.Any.sort_Slice_sorted L N.zbo N.zc i ie hi hd hpk hie 10 hke hs1 (fun w=>B.uint32.run_isAgg) (Value.int .u32) (fun _=>rfl) Go.Sort.ltInt Go.Sort.swo_ltInt N.zdp #[.pointer (some ⟨bv,0,none⟩)]
   (fun args w=>znf hless1) bs 0 c ks0 (by omega) (by omega) f6 (by rw[hsw]; exact hf6) true hx w hless hH hbs
  rw[hsz] at hS
  refine Calls.mono hS ?_
  rintro e w' ⟨rfl,d',n,os,hperm,hso,rfl⟩
  obtain⟨hd's,_,hpm⟩:=hperm
  rw[show d'.extract 0 ks.length=d' by rw[← hsz,← hd's]; simp,show ks0.extract 0 ks.length=ks0 by rw[← hsz]; simp] at hpm
  refine⟨_,rfl,d'.toList.map Int.toNat,?_,?_,?_,?_⟩
  ·have:=hpm.map Int.toNat
   rw[hks] at this
   simpa [Function.comp_def] using this
  ·have hnn:∀ x∈d'.toList,0≤x:=fun x hx=>by
    have:=hpm.mem_iff.1 hx
    rw[hks] at this
    simp at this
    obtain⟨k,_,rfl⟩:=this
    omega
   rw[List.pairwise_map,List.pairwise_iff_getElem]
   intro a b ha hb hab
   have h3:=hso a b (Nat.zero_le _) hab (by rw[← hsz,← hd's]; simpa using hb)
   rw[getElem!_pos d' a (by simpa using ha),getElem!_pos d' b (by simpa using hb)] at h3
   simp only [Go.Sort.ltInt,decide_eq_false_iff_not] at h3
   simp only [Array.getElem_toList]
   omega
  ·have hds:d'.size=ks.length:=by omega
   intro j v hj
   have hjl:j < d'.size:=by
    have:=(List.getElem?_eq_some_iff.1 hj).1
    simpa using this
   have hH2:Go.Sort.Holds (Value.int .u32) (Go.Sort.ahead w n) bs 0 ks0:=Go.Sort.holds_ahead _ _ _ _ _ _ hH
   have hc:=Go.Sort.cell?_putRow (Value.int .u32) (Go.Sort.ahead w n) bs 0 ks0 d' hH2 hd's j hjl
   rw[Go.Sort.cell?_grow _ _ _ (by rw[Go.Sort.size_putRow]; exact hbs),hc]
   rw[List.getElem?_map,List.getElem?_map] at hj
   have hnn:0≤d'[j]:=by
    have:=hpm.mem_iff.1 (show d'[j]∈d'.toList by simp)
    rw[hks] at this
    simp at this
    obtain⟨k,_,h⟩:=this
    omega
   rw[getElem!_pos d' j hjl]
   have:d'.toList[j]?=some d'[j]:=by simp [hjl]
   rw[this] at hj
   simp [keyV] at hj
   rw[← hj,Int.max_eq_left hnn]
  ·exact(((Mod.ahead w n _).trans' (Mod.putRow _ _ bs d')).trans' (Mod.grow _ os _))
 ·obtain⟨k,rfl⟩:∃ k,ks=[k]:=by
   match ks,hks0,h2 with
   | [k],_,_=>exact⟨k,rfl⟩
   | a :: b :: l,_,h=>simp at h
  have hS:=Go.Proofs.Any.sort_Slice_tiny L N.zbo N.zc i ie hi hd hpk hie 10 hke (some ⟨bs,0,none⟩) 1 c (Nat.le_refl _) f2 (by simpa [Go.Lib.swapperK] using hf2) (.func N.zdp) #[] #[.pointer (some ⟨bv,0,none⟩)] w
  refine Calls.mono hS ?_
  rintro e w' ⟨rfl,os,rfl⟩
  exact⟨_,rfl,[k],List.Perm.refl _,by simp,(Mod.grow w os zy).rangeAt hbs (fun _ _ _ h=>h) hrg,Mod.grow _ _ _⟩
end
section
variable {P:Program} {N:Nums}
end
def zgk:Value→List UInt8
 | .agg a=>a.toList.map fun v=>match v with
  | .int _ n=>UInt8.ofNat n.toNat
  | _=>0
 | .string s=>s.data.toList
 | _=>[]
def PK.tr:PK→Value→Tr
 | .bool,v=>zro (match v with | .bool true=>1 | _=>0) [] false
 | .uuid,v=>zro 0 (zgk v) false
 | _,v=>zro (match v with | .int _ n=>n | _=>0) [] false
mutual
def Ty.tr:Ty→Val→Tr
 | .pr k _,.num v=>k.tr v
 | .txt _,.num v=>zro 0 (zgk v) false
 | .txt _,.nstr o=>zro 0 (o.getD []) o.isNone
 | .txt _,.oct o=>zro 0 (o.getD []) o.isNone
 | .arr ..,.nilA=>.mk 0 [] true [] []
 | .arr _ _ e,.arr _ l=>.mk 0 [] false (l.map e.tr) []
 | .row _ _ _ fs,.row l=>.mk 0 [] false (fs.trs l) (fs.tgs l)
 | .tv _,.nstr o=>zro 0 (o.getD []) o.isNone
 | .ptr ..,.nilP=>zro 0 [] true
 | .ptr _ _ _ fs,.ptr l=>.mk 0 [] false (fs.trs l) (fs.tgs l)
 | _,_=>zro 0 [] false
def El.tr:El→Val→Tr
 | .pr k,.num v=>k.tr v
 | .txt _,.num v=>zro 0 (zgk v) false
 | .txt _,.nstr o=>zro 0 (o.getD []) o.isNone
 | .txt _,.oct o=>zro 0 (o.getD []) o.isNone
 | .row _ _ _ fs,.row l=>.mk 0 [] false (fs.trs l) (fs.tgs l)
 | _,_=>zro 0 [] false
def Fds.trs:Fds→List Val→List Tr
 | .cons _ ty r,v :: l=>ty.tr v :: r.trs l
 | _,_=>[]
def Fds.tgs:Fds→List Val→List (Nat × List UInt8)
 | .tags _,[.tags l]=>zdz l
 | .cons _ _ r,_ :: l=>r.tgs l
 | _,_=>[]
end
def Fds.tr (fs:Fds) (l:List Val):Tr:=.mk 0 [] false (fs.trs l) (fs.tgs l)
def big:Nat:=1099511627776
def PK.okV:PK→Value→Prop
 | .bool,v=>∃ b,v=.bool b
 | .i8,v=>∃ n,v=.int .i8 n∧IntKind.i64.wrap n=n
 | .i16,v=>∃ n,v=.int .i16 n∧IntKind.i64.wrap n=n
 | .u16,v=>∃ n,v=.int .u16 n∧IntKind.i64.wrap n=n
 | .i32,v=>∃ n,v=.int .i32 n∧IntKind.i64.wrap n=n
 | .i64,v=>∃ n,v=.int .i64 n∧IntKind.i64.wrap n=n
 | .uuid,v=>∃ l:List UInt8,v=.agg (l.map zz).toArray∧l.length=16
 | .en _,v=>∃ n,v=.int .i8 n∧IntKind.i64.wrap n=n
def Txt.okV:Txt→Val→Prop
 | .str,.num v=>∃ l,v=strV l∧l.length < big
 | .nstr,.nstr o=>(o.getD []).length < big
 | .byt,.oct o=>(o.getD []).length < big
 | .nbyt,.oct o=>(o.getD []).length < big
 | _,_=>False
mutual
def Ty.okV:Ty→Val→Prop
 | .pr k _,.num v=>k.okV v
 | .txt k,v=>k.okV v
 | .arr ..,.nilA=>True
 | .arr _ _ e,.arr sz l=>sz=e.sz∧l.length < big∧∀ v∈l,e.okV v
 | .row _ _ _ fs,.row l=>fs.okV l
 | .tv _,v=>Txt.nstr.okV v
 | .ptr ..,.nilP=>True
 | .ptr _ _ _ fs,.ptr l=>fs.okV l
 | _,_=>False
def El.okV:El→Val→Prop
 | .pr k,.num v=>k.okV v
 | .txt k,v=>k.okV v
 | .row _ _ _ fs,.row l=>fs.okV l
 | _,_=>False
def Fds.okV:Fds→List Val→Prop
 | .nil,l=>l=[]
 | .tags _,[.tags l]=>l.length < big∧∀ x∈l,x.2.length < big
 | .cons _ ty r,v :: l=>ty.okV v∧r.okV l
 | _,_=>False
end
theorem str_octs (l:List UInt8):zgk (strV l)=l:=by simp [zgk,strV]
section
variable {P:Program} {N:Nums}
end
section
variable {P:Program} {N:Nums}
def cTNum (N:Nums) (Tt idx ft i:Nat):C:=.draw [
 ⟨some 0,.fieldAddr N.zbe (V 2) 3,0,none,[]⟩,⟨some 1,.load N.zag (T 0),0,none,[0]⟩,⟨some 2,.move (V 0),0,none,[]⟩,⟨some 3,.nilCheck (T 2),0,none,[2]⟩,⟨some 4,.fieldAddr Tt (T 3) idx,0,none,[3]⟩,⟨some 5,.load ft (T 4),0,none,[4]⟩,
 ⟨some 6,.convert ft N.zcv (T 5),0,none,[5]⟩,⟨some 7,.build N.zbe #[(0,T 6)],0,none,[6]⟩,
 ⟨some 8,.indexAddr N.zag (T 1) (.const (.int .i64 i)),0,none,[1,0,1,2,3,4,5,6,7]⟩,⟨none,.store N.zbe (T 8) (T 7),0,none,[8,7,0,1,2,3,4,5,6,7]⟩]
def cTNum64 (N:Nums) (Tt idx ft i:Nat):C:=.draw [
 ⟨some 0,.fieldAddr N.zbe (V 2) 3,0,none,[]⟩,⟨some 1,.load N.zag (T 0),0,none,[0]⟩,⟨some 2,.move (V 0),0,none,[]⟩,⟨some 3,.nilCheck (T 2),0,none,[2]⟩,⟨some 4,.fieldAddr Tt (T 3) idx,0,none,[3]⟩,⟨some 5,.load ft (T 4),0,none,[4]⟩,
 ⟨some 6,.build N.zbe #[(0,T 5)],0,none,[5]⟩,
 ⟨some 7,.indexAddr N.zag (T 1) (.const (.int .i64 i)),0,none,[1,0,1,2,3,4,5,6]⟩,⟨none,.store N.zbe (T 7) (T 6),0,none,[7,6,0,1,2,3,4,5,6]⟩]
def cTStr (N:Nums) (Tt idx i:Nat):C:=.draw [
 ⟨some 0,.fieldAddr N.zbe (V 2) 3,0,none,[]⟩,⟨some 1,.load N.zag (T 0),0,none,[0]⟩,⟨some 2,.move (V 0),0,none,[]⟩,⟨some 3,.nilCheck (T 2),0,none,[2]⟩,⟨some 4,.fieldAddr Tt (T 3) idx,0,none,[3]⟩,⟨some 5,.load N.zac (T 4),0,none,[4]⟩,
 ⟨some 6,.convert N.zac N.za (T 5),0,none,[5]⟩,⟨some 7,.build N.zbe #[(1,T 6)],0,none,[6]⟩,
 ⟨some 8,.indexAddr N.zag (T 1) (.const (.int .i64 i)),0,none,[1,0,1,2,3,4,5,6,7]⟩,⟨none,.store N.zbe (T 8) (T 7),0,none,[8,7,0,1,2,3,4,5,6,7]⟩]
def cTBool (N:Nums) (Tt idx i:Nat):C:=.draw [
 ⟨some 0,.fieldAddr N.zbe (V 2) 3,0,none,[]⟩,⟨some 1,.load N.zag (T 0),0,none,[0]⟩,⟨some 2,.move (V 0),0,none,[]⟩,⟨some 3,.nilCheck (T 2),0,none,[2]⟩,⟨some 4,.fieldAddr Tt (T 3) idx,0,none,[3]⟩,⟨some 5,.load N.zay (T 4),0,none,[4]⟩,
 ⟨some 6,.call ⟨.value (.func N.zrt),#[T 5],#[N.zay]⟩,N.zbe,none,[5]⟩,
 ⟨some 7,.indexAddr N.zag (T 1) (.const (.int .i64 i)),0,none,[1,0,1,2,3,4,5,6]⟩,⟨none,.store N.zbe (T 7) (T 6),0,none,[7,6,6,0,1,2,3,4,5,6]⟩]
def cTOct (N:Nums) (Tt idx i:Nat):C:=.draw [
 ⟨some 0,.fieldAddr N.zbe (V 2) 3,0,none,[]⟩,⟨some 1,.load N.zag (T 0),0,none,[0]⟩,⟨some 2,.move (V 0),0,none,[]⟩,⟨some 3,.nilCheck (T 2),0,none,[2]⟩,⟨some 4,.fieldAddr Tt (T 3) idx,0,none,[3]⟩,⟨some 5,.load N.za (T 4),0,none,[4]⟩,
 ⟨some 6,.call ⟨.value (.func N.zno),#[T 5],#[N.za]⟩,N.zbe,none,[5]⟩,
 ⟨some 7,.indexAddr N.zag (T 1) (.const (.int .i64 i)),0,none,[1,0,1,2,3,4,5,6]⟩,⟨none,.store N.zbe (T 7) (T 6),0,none,[7,6,6,0,1,2,3,4,5,6]⟩]
def cTNstr (N:Nums) (Tt idx i:Nat):C:=.draw [
 ⟨some 0,.fieldAddr N.zbe (V 2) 3,0,none,[]⟩,⟨some 1,.load N.zag (T 0),0,none,[0]⟩,⟨some 2,.move (V 0),0,none,[]⟩,⟨some 3,.nilCheck (T 2),0,none,[2]⟩,⟨some 4,.fieldAddr Tt (T 3) idx,0,none,[3]⟩,⟨some 5,.load N.zbc (T 4),0,none,[4]⟩,
 ⟨some 6,.call ⟨.value (.func N.zrs),#[T 5],#[N.zbc]⟩,N.zbe,none,[5]⟩,
 ⟨some 7,.indexAddr N.zag (T 1) (.const (.int .i64 i)),0,none,[1,0,1,2,3,4,5,6]⟩,⟨none,.store N.zbe (T 7) (T 6),0,none,[7,6,6,0,1,2,3,4,5,6]⟩]
end
section
variable {P:Program} {N:Nums}
end
section
variable {P:Program} {N:Nums}
end
section
variable {P:Program} {N:Nums}
def lApp (N:Nums) (Tt idx ft f pT i p:Nat):List ROp:=[
 ⟨some 0,.fieldAddr N.zbe (V 2) 3,0,none,[]⟩,⟨some 1,.load N.zag (T 0),0,none,[0]⟩,⟨some 2,.fieldAddr N.zbe (V 2) 3,0,none,[]⟩,⟨some 3,.load N.zag (T 2),0,none,[2]⟩,
 ⟨some 4,.indexAddr N.zag (T 3) (.const (.int .i64 i)),0,none,[3]⟩,⟨some 5,.fieldAddr N.zbe (T 4) 3,0,none,[4]⟩,⟨some 6,.load N.zag (T 5),0,none,[5]⟩,
 ⟨some 7,.move (V 0),0,none,[]⟩,⟨some 8,.nilCheck (T 7),0,none,[7]⟩,⟨some 9,.fieldAddr Tt (T 8) idx,0,none,[8]⟩,⟨some 10,.load ft (T 9),0,none,[9]⟩,⟨some 11,.move (V p),0,none,[]⟩,⟨some 12,.indexAddr ft (T 10) (T 11),0,none,[10,11]⟩,
 ⟨some 13,.call ⟨.value (.func f),#[T 12],#[pT]⟩,N.zbe,none,[12]⟩,⟨some 14,.buildSlice N.zag 1 #[(0,T 13)],0,none,[13]⟩,⟨some 15,.call ⟨.builtin .append,#[T 6,T 14],#[N.zag,N.zag]⟩,N.zag,none,[6,14,13]⟩,
 ⟨some 16,.indexAddr N.zag (T 1) (.const (.int .i64 i)),0,none,[1,0,1,2,3,4,5,6,7,8,9,10,11,12,13,14,15]⟩,⟨some 17,.fieldAddr N.zbe (T 16) 3,0,none,[16,0,1,2,3,4,5,6,7,8,9,10,11,12,13,14,15]⟩,
 ⟨none,.store N.zag (T 17) (T 15),0,none,[17,15,15,0,1,2,3,4,5,6,7,8,9,10,11,12,13,14,15]⟩]
end
section
variable {P:Program} {N:Nums}
def zTop:Operand:=.const (.agg #[(.int .i64 0),(.slice none 0 0),(.bool false),(.slice none 0 0),(.slice none 0 0)])
def lApp0 (N:Nums) (Tt idx ft f pT i p:Nat):List ROp:=[
 ⟨some 0,.fieldAddr N.zbe (V 2) 3,0,none,[]⟩,⟨some 1,.load N.zag (T 0),0,none,[0]⟩,⟨some 2,.indexAddr N.zag (T 1) (.const (.int .i64 i)),0,none,[1]⟩,⟨some 3,.fieldAddr N.zbe (T 2) 3,0,none,[2]⟩,⟨some 4,.load N.zag (T 3),0,none,[3]⟩,
 ⟨some 5,.move (V 0),0,none,[]⟩,⟨some 6,.nilCheck (T 5),0,none,[5]⟩,⟨some 7,.fieldAddr Tt (T 6) idx,0,none,[6]⟩,⟨some 8,.load ft (T 7),0,none,[7]⟩,⟨some 9,.move (V p),0,none,[]⟩,⟨some 10,.indexAddr ft (T 8) (T 9),0,none,[8,9]⟩,
 ⟨some (p+2+100),.call ⟨.value (.func f),#[T 10],#[pT]⟩,N.zbe,none,[10]⟩,⟨some (p+3+100),.call ⟨.builtin .len,#[T 4],#[N.zag]⟩,N.ze,none,[4]⟩,⟨some 13,.buildSlice N.zag 1 #[(0,zTop)],0,none,[]⟩,
 ⟨some (p+4+100),.call ⟨.builtin .append,#[T 4,T 13],#[N.zag,N.zag]⟩,N.zag,none,[4,13,11,0,1,2,3,4,5,6,7,8,9,10,11,12,13]⟩,
 ⟨some 15,.indexAddr N.zag (T 1) (.const (.int .i64 i)),0,none,[1,0,1,2,3,4,5,6,7,8,9,10,11,12,13,14]⟩,⟨some 16,.fieldAddr N.zbe (T 15) 3,0,none,[15,0,1,2,3,4,5,6,7,8,9,10,11,12,13,14]⟩,
 ⟨none,.store N.zag (T 16) (V (p+4)),0,none,[16,14,14,0,1,2,3,4,5,6,7,8,9,10,11,12,13,14]⟩]
def cPut (N:Nums) (p:Nat):C:=.ops [⟨some 0,.indexAddr N.zag (V (p+4)) (V (p+3)),0,none,[]⟩,⟨none,.store N.zbe (T 0) (V (p+2)),0,none,[]⟩]
end
section
variable {P:Program} {N:Nums}
def lBool (N:Nums) (p:Nat):List ROp:=[⟨some 0,.alloc N.zay,0,none,[]⟩,⟨none,.store N.zay (T 0) (.const (.bool true)),0,none,[0]⟩,⟨none,.store N.zay (T 0) (.const (.bool false)),0,none,[0]⟩,⟨some (p+1+100),.load N.zay (T 0),0,none,[0,0,1,2]⟩]
def cTList (N:Nums) (Tt idx ft q k:Nat) (app0 app:C):C:=
 .seq (.ops [⟨some 0,.move (V 0),0,none,[]⟩,⟨some 1,.nilCheck (T 0),0,none,[]⟩,⟨some 2,.fieldAddr Tt (T 1) idx,0,none,[]⟩,⟨some 3,.load ft (T 2),0,none,[]⟩,⟨some (q+3+100),.call ⟨.builtin .len,#[T 3],#[ft]⟩,N.ze,none,[]⟩,⟨some (q+4+100),.move (.const (.int .i64 0)),0,none,[]⟩])
  (zqs N (q+4) (q+3) (q+5) k (.seq (.ops [⟨some 0,.move (V (q+4)),0,none,[]⟩,⟨some (q+6+100),.assign (T 0),0,none,[]⟩])
   (.seq (.draw (lBool N (q+6))) (.cond (q+7) app0 app))))
end
section
variable {P:Program} {N:Nums}
def cTNull (N:Nums) (Tt idx ft i:Nat):C:=.draw [
 ⟨some 0,.fieldAddr N.zbe (V 2) 3,0,none,[]⟩,⟨some 1,.load N.zag (T 0),0,none,[0]⟩,⟨some 2,.move (V 0),0,none,[]⟩,⟨some 3,.nilCheck (T 2),0,none,[2]⟩,⟨some 4,.fieldAddr Tt (T 3) idx,0,none,[3]⟩,⟨some 5,.load ft (T 4),0,none,[4]⟩,
 ⟨some 6,.binOp .eql ft (T 5) (.const (.slice none 0 0)) ft,0,none,[5]⟩,⟨some 7,.indexAddr N.zag (T 1) (.const (.int .i64 i)),0,none,[1,0,1,2,3,4,5,6]⟩,⟨some 8,.fieldAddr N.zbe (T 7) 2,0,none,[7,0,1,2,3,4,5,6]⟩,⟨none,.store N.zay (T 8) (T 6),0,none,[8,6,0,1,2,3,4,5,6]⟩]
def lAppN (N:Nums) (Tt idx ft et i p:Nat):List ROp:=[
 ⟨some 0,.fieldAddr N.zbe (V 2) 3,0,none,[]⟩,⟨some 1,.load N.zag (T 0),0,none,[0]⟩,⟨some 2,.fieldAddr N.zbe (V 2) 3,0,none,[]⟩,⟨some 3,.load N.zag (T 2),0,none,[2]⟩,
 ⟨some 4,.indexAddr N.zag (T 3) (.const (.int .i64 i)),0,none,[3]⟩,⟨some 5,.fieldAddr N.zbe (T 4) 3,0,none,[4]⟩,⟨some 6,.load N.zag (T 5),0,none,[5]⟩,
 ⟨some 7,.move (V 0),0,none,[]⟩,⟨some 8,.nilCheck (T 7),0,none,[7]⟩,⟨some 9,.fieldAddr Tt (T 8) idx,0,none,[8]⟩,⟨some 10,.load ft (T 9),0,none,[9]⟩,⟨some 11,.move (V p),0,none,[]⟩,⟨some 12,.indexAddr ft (T 10) (T 11),0,none,[10,11]⟩,
 ⟨some 13,.load et (T 12),0,none,[12]⟩,⟨some 14,.convert et N.zcv (T 13),0,none,[13]⟩,⟨some 15,.build N.zbe #[(0,T 14)],0,none,[14]⟩,⟨some 16,.buildSlice N.zag 1 #[(0,T 15)],0,none,[15]⟩,⟨some 17,.call ⟨.builtin .append,#[T 6,T 16],#[N.zag,N.zag]⟩,N.zag,none,[6,16]⟩,
 ⟨some 18,.indexAddr N.zag (T 1) (.const (.int .i64 i)),0,none,[1,0,1,2,3,4,5,6,7,8,9,10,11,12,13,14,15,16,17]⟩,⟨some 19,.fieldAddr N.zbe (T 18) 3,0,none,[18,0,1,2,3,4,5,6,7,8,9,10,11,12,13,14,15,16,17]⟩,
 ⟨none,.store N.zag (T 19) (T 17),0,none,[19,17,17,0,1,2,3,4,5,6,7,8,9,10,11,12,13,14,15,16,17]⟩]
def lAppS (N:Nums) (Tt idx ft i p:Nat):List ROp:=[
 ⟨some 0,.fieldAddr N.zbe (V 2) 3,0,none,[]⟩,⟨some 1,.load N.zag (T 0),0,none,[0]⟩,⟨some 2,.fieldAddr N.zbe (V 2) 3,0,none,[]⟩,⟨some 3,.load N.zag (T 2),0,none,[2]⟩,
 ⟨some 4,.indexAddr N.zag (T 3) (.const (.int .i64 i)),0,none,[3]⟩,⟨some 5,.fieldAddr N.zbe (T 4) 3,0,none,[4]⟩,⟨some 6,.load N.zag (T 5),0,none,[5]⟩,
 ⟨some 7,.move (V 0),0,none,[]⟩,⟨some 8,.nilCheck (T 7),0,none,[7]⟩,⟨some 9,.fieldAddr Tt (T 8) idx,0,none,[8]⟩,⟨some 10,.load ft (T 9),0,none,[9]⟩,⟨some 11,.move (V p),0,none,[]⟩,⟨some 12,.indexAddr ft (T 10) (T 11),0,none,[10,11]⟩,
 ⟨some 13,.load N.zac (T 12),0,none,[12]⟩,⟨some 14,.convert N.zac N.za (T 13),0,none,[13]⟩,⟨some 15,.build N.zbe #[(1,T 14)],0,none,[14]⟩,⟨some 16,.buildSlice N.zag 1 #[(0,T 15)],0,none,[15]⟩,⟨some 17,.call ⟨.builtin .append,#[T 6,T 16],#[N.zag,N.zag]⟩,N.zag,none,[6,16]⟩,
 ⟨some 18,.indexAddr N.zag (T 1) (.const (.int .i64 i)),0,none,[1,0,1,2,3,4,5,6,7,8,9,10,11,12,13,14,15,16,17]⟩,⟨some 19,.fieldAddr N.zbe (T 18) 3,0,none,[18,0,1,2,3,4,5,6,7,8,9,10,11,12,13,14,15,16,17]⟩,
 ⟨none,.store N.zag (T 19) (T 17),0,none,[19,17,17,0,1,2,3,4,5,6,7,8,9,10,11,12,13,14,15,16,17]⟩]
def lApp0N (N:Nums) (Tt idx ft et i p:Nat):List ROp:=[
 ⟨some 0,.fieldAddr N.zbe (V 2) 3,0,none,[]⟩,⟨some 1,.load N.zag (T 0),0,none,[0]⟩,⟨some 2,.indexAddr N.zag (T 1) (.const (.int .i64 i)),0,none,[1]⟩,⟨some 3,.fieldAddr N.zbe (T 2) 3,0,none,[2]⟩,⟨some 4,.load N.zag (T 3),0,none,[3]⟩,
 ⟨some 5,.move (V 0),0,none,[]⟩,⟨some 6,.nilCheck (T 5),0,none,[5]⟩,⟨some 7,.fieldAddr Tt (T 6) idx,0,none,[6]⟩,⟨some 8,.load ft (T 7),0,none,[7]⟩,⟨some 9,.move (V p),0,none,[]⟩,⟨some 10,.indexAddr ft (T 8) (T 9),0,none,[8,9]⟩,
 ⟨some 11,.load et (T 10),0,none,[10]⟩,⟨some 12,.convert et N.zcv (T 11),0,none,[11]⟩,⟨some (p+2+100),.build N.zbe #[(0,T 12)],0,none,[12]⟩,⟨some (p+3+100),.call ⟨.builtin .len,#[T 4],#[N.zag]⟩,N.ze,none,[4]⟩,⟨some 15,.buildSlice N.zag 1 #[(0,zTop)],0,none,[]⟩,
 ⟨some (p+4+100),.call ⟨.builtin .append,#[T 4,T 15],#[N.zag,N.zag]⟩,N.zag,none,[4,15,0,1,2,3,4,5,6,7,8,9,10,11,12,13,14,15]⟩,
 ⟨some 17,.indexAddr N.zag (T 1) (.const (.int .i64 i)),0,none,[1,0,1,2,3,4,5,6,7,8,9,10,11,12,13,14,15,16]⟩,⟨some 18,.fieldAddr N.zbe (T 17) 3,0,none,[17,0,1,2,3,4,5,6,7,8,9,10,11,12,13,14,15,16]⟩,
 ⟨none,.store N.zag (T 18) (V (p+4)),0,none,[18,16,16,0,1,2,3,4,5,6,7,8,9,10,11,12,13,14,15,16]⟩]
def lApp0S (N:Nums) (Tt idx ft i p:Nat):List ROp:=[
 ⟨some 0,.fieldAddr N.zbe (V 2) 3,0,none,[]⟩,⟨some 1,.load N.zag (T 0),0,none,[0]⟩,⟨some 2,.indexAddr N.zag (T 1) (.const (.int .i64 i)),0,none,[1]⟩,⟨some 3,.fieldAddr N.zbe (T 2) 3,0,none,[2]⟩,⟨some 4,.load N.zag (T 3),0,none,[3]⟩,
 ⟨some 5,.move (V 0),0,none,[]⟩,⟨some 6,.nilCheck (T 5),0,none,[5]⟩,⟨some 7,.fieldAddr Tt (T 6) idx,0,none,[6]⟩,⟨some 8,.load ft (T 7),0,none,[7]⟩,⟨some 9,.move (V p),0,none,[]⟩,⟨some 10,.indexAddr ft (T 8) (T 9),0,none,[8,9]⟩,
 ⟨some 11,.load N.zac (T 10),0,none,[10]⟩,⟨some 12,.convert N.zac N.za (T 11),0,none,[11]⟩,⟨some (p+2+100),.build N.zbe #[(1,T 12)],0,none,[12]⟩,⟨some (p+3+100),.call ⟨.builtin .len,#[T 4],#[N.zag]⟩,N.ze,none,[4]⟩,⟨some 15,.buildSlice N.zag 1 #[(0,zTop)],0,none,[]⟩,
 ⟨some (p+4+100),.call ⟨.builtin .append,#[T 4,T 15],#[N.zag,N.zag]⟩,N.zag,none,[4,15,0,1,2,3,4,5,6,7,8,9,10,11,12,13,14,15]⟩,
 ⟨some 17,.indexAddr N.zag (T 1) (.const (.int .i64 i)),0,none,[1,0,1,2,3,4,5,6,7,8,9,10,11,12,13,14,15,16]⟩,⟨some 18,.fieldAddr N.zbe (T 17) 3,0,none,[17,0,1,2,3,4,5,6,7,8,9,10,11,12,13,14,15,16]⟩,
 ⟨none,.store N.zag (T 18) (V (p+4)),0,none,[18,16,16,0,1,2,3,4,5,6,7,8,9,10,11,12,13,14,15,16]⟩]
end
section
variable {P:Program} {N:Nums}
def cTUuid (N:Nums) (Tt idx i:Nat):C:=.draw [
 ⟨some 0,.fieldAddr N.zbe (V 2) 3,0,none,[]⟩,⟨some 1,.load N.zag (T 0),0,none,[0]⟩,⟨some 2,.move (V 0),0,none,[]⟩,⟨some 3,.nilCheck (T 2),0,none,[2]⟩,⟨some 4,.fieldAddr Tt (T 3) idx,0,none,[3]⟩,⟨some 5,.slice N.zaq (T 4) none none none,0,none,[4]⟩,
 ⟨some 6,.call ⟨.builtin .append,#[.const (.slice none 0 0),T 5],#[N.za,N.za]⟩,N.za,none,[5]⟩,⟨some 7,.build N.zbe #[(1,T 6)],0,none,[6]⟩,
 ⟨some 8,.indexAddr N.zag (T 1) (.const (.int .i64 i)),0,none,[1,0,1,2,3,4,5,6,7]⟩,⟨none,.store N.zbe (T 8) (T 7),0,none,[8,7,6,0,1,2,3,4,5,6,7]⟩]
def cTRow (N:Nums) (Tt idx f pT i:Nat):C:=.draw [
 ⟨some 0,.fieldAddr N.zbe (V 2) 3,0,none,[]⟩,⟨some 1,.load N.zag (T 0),0,none,[0]⟩,⟨some 2,.move (V 0),0,none,[]⟩,⟨some 3,.nilCheck (T 2),0,none,[2]⟩,⟨some 4,.fieldAddr Tt (T 3) idx,0,none,[3]⟩,
 ⟨some 5,.call ⟨.value (.func f),#[T 4],#[pT]⟩,N.zbe,none,[4]⟩,⟨some 6,.indexAddr N.zag (T 1) (.const (.int .i64 i)),0,none,[1,0,1,2,3,4,5]⟩,⟨none,.store N.zbe (T 6) (T 5),0,none,[6,5,5,0,1,2,3,4,5]⟩]
end
section
variable {P:Program} {N:Nums}
def lAppU (N:Nums) (Tt idx ft i p:Nat):List ROp:=[
 ⟨some 0,.fieldAddr N.zbe (V 2) 3,0,none,[]⟩,⟨some 1,.load N.zag (T 0),0,none,[0]⟩,⟨some 2,.fieldAddr N.zbe (V 2) 3,0,none,[]⟩,⟨some 3,.load N.zag (T 2),0,none,[2]⟩,
 ⟨some 4,.indexAddr N.zag (T 3) (.const (.int .i64 i)),0,none,[3]⟩,⟨some 5,.fieldAddr N.zbe (T 4) 3,0,none,[4]⟩,⟨some 6,.load N.zag (T 5),0,none,[5]⟩,
 ⟨some 7,.move (V 0),0,none,[]⟩,⟨some 8,.nilCheck (T 7),0,none,[7]⟩,⟨some 9,.fieldAddr Tt (T 8) idx,0,none,[8]⟩,⟨some 10,.load ft (T 9),0,none,[9]⟩,⟨some 11,.move (V p),0,none,[]⟩,⟨some 12,.indexAddr ft (T 10) (T 11),0,none,[10,11]⟩,
 ⟨some 13,.slice N.zaq (T 12) none none none,0,none,[12]⟩,⟨some 14,.call ⟨.builtin .append,#[.const (.slice none 0 0),T 13],#[N.za,N.za]⟩,N.za,none,[13]⟩,⟨some 15,.build N.zbe #[(1,T 14)],0,none,[14]⟩,⟨some 16,.buildSlice N.zag 1 #[(0,T 15)],0,none,[15]⟩,⟨some 17,.call ⟨.builtin .append,#[T 6,T 16],#[N.zag,N.zag]⟩,N.zag,none,[6,16,14]⟩,
 ⟨some 18,.indexAddr N.zag (T 1) (.const (.int .i64 i)),0,none,[1,0,1,2,3,4,5,6,7,8,9,10,11,12,13,14,15,16,17]⟩,⟨some 19,.fieldAddr N.zbe (T 18) 3,0,none,[18,0,1,2,3,4,5,6,7,8,9,10,11,12,13,14,15,16,17]⟩,
 ⟨none,.store N.zag (T 19) (T 17),0,none,[19,17,17,0,1,2,3,4,5,6,7,8,9,10,11,12,13,14,15,16,17]⟩]
def lApp0U (N:Nums) (Tt idx ft i p:Nat):List ROp:=[
 ⟨some 0,.fieldAddr N.zbe (V 2) 3,0,none,[]⟩,⟨some 1,.load N.zag (T 0),0,none,[0]⟩,⟨some 2,.indexAddr N.zag (T 1) (.const (.int .i64 i)),0,none,[1]⟩,⟨some 3,.fieldAddr N.zbe (T 2) 3,0,none,[2]⟩,⟨some 4,.load N.zag (T 3),0,none,[3]⟩,
 ⟨some 5,.move (V 0),0,none,[]⟩,⟨some 6,.nilCheck (T 5),0,none,[5]⟩,⟨some 7,.fieldAddr Tt (T 6) idx,0,none,[6]⟩,⟨some 8,.load ft (T 7),0,none,[7]⟩,⟨some 9,.move (V p),0,none,[]⟩,⟨some 10,.indexAddr ft (T 8) (T 9),0,none,[8,9]⟩,
 ⟨some 11,.slice N.zaq (T 10) none none none,0,none,[10]⟩,⟨some 12,.call ⟨.builtin .append,#[.const (.slice none 0 0),T 11],#[N.za,N.za]⟩,N.za,none,[11]⟩,⟨some (p+2+100),.build N.zbe #[(1,T 12)],0,none,[12]⟩,⟨some (p+3+100),.call ⟨.builtin .len,#[T 4],#[N.zag]⟩,N.ze,none,[4]⟩,⟨some 15,.buildSlice N.zag 1 #[(0,zTop)],0,none,[]⟩,
 ⟨some (p+4+100),.call ⟨.builtin .append,#[T 4,T 15],#[N.zag,N.zag]⟩,N.zag,none,[4,15,12,0,1,2,3,4,5,6,7,8,9,10,11,12,13,14,15]⟩,
 ⟨some 17,.indexAddr N.zag (T 1) (.const (.int .i64 i)),0,none,[1,0,1,2,3,4,5,6,7,8,9,10,11,12,13,14,15,16]⟩,⟨some 18,.fieldAddr N.zbe (T 17) 3,0,none,[17,0,1,2,3,4,5,6,7,8,9,10,11,12,13,14,15,16]⟩,
 ⟨none,.store N.zag (T 18) (V (p+4)),0,none,[18,16,16,0,1,2,3,4,5,6,7,8,9,10,11,12,13,14,15,16]⟩]
end
section
variable (N:Nums) (tf:TypeId→FuncId × FuncId)
def El.app0 (Tt idx st i p:Nat):El→C
 | .pr .bool=>.skip
 | .pr .i64=>.skip
 | .pr .uuid=>.seq (.draw (lApp0U N Tt idx st i p)) (cPut N p)
 | .pr k=>.seq (.draw (lApp0N N Tt idx st (k.t N) i p)) (cPut N p)
 | .txt .str=>.seq (.draw (lApp0S N Tt idx st i p)) (cPut N p)
 | .txt _=>.skip
 | .row T' pT _ _=>.seq (.draw (lApp0 N Tt idx st (tf T').1 pT i p)) (cPut N p)
def El.app (Tt idx st i p:Nat):El→C
 | .pr .bool=>.skip
 | .pr .i64=>.skip
 | .pr .uuid=>.draw (lAppU N Tt idx st i p)
 | .pr k=>.draw (lAppN N Tt idx st (k.t N) i p)
 | .txt .str=>.draw (lAppS N Tt idx st i p)
 | .txt _=>.skip
 | .row T' pT _ _=>.draw (lApp N Tt idx st (tf T').1 pT i p)
def Ty.tgen (Tt idx i q k:Nat):Ty→List C
 | .pr .bool _=>[cTBool N Tt idx i]
 | .pr .i64 _=>[cTNum64 N Tt idx N.zcv i]
 | .pr .uuid _=>[cTUuid N Tt idx i]
 | .pr kk _=>[cTNum N Tt idx (kk.t N) i]
 | .txt .str=>[cTStr N Tt idx i]
 | .txt .nstr=>[cTNstr N Tt idx i]
 | .txt _=>[cTOct N Tt idx i]
 | .arr st _ e=>[cTNull N Tt idx st i,cTList N Tt idx st q k (e.app0 N tf Tt idx st i (q+6)) (e.app N tf Tt idx st i (q+6))]
 | .row T' pT _ _=>[cTRow N Tt idx (tf T').1 pT i]
 | .tv _=>[cTNstr N Tt idx i]
 | .ptr ..=>[]
def Ty.tq:Ty→Nat
 | .arr ..=>8
 | _=>0
def Ty.tk:Ty→Nat
 | .arr ..=>2
 | _=>0
def Fds.tgen (Tt:Nat):Fds→(idx i q k:Nat)→List C
 | .cons _ ty r,idx,i,q,k=>ty.tgen N tf Tt idx i q k++r.tgen Tt (idx+1) (i+1) (q+ty.tq) (k+ty.tk)
 | _,_,_,_,_=>[]
end
def Fds.count:Fds→Nat
 | .cons _ _ r=>r.count+1
 | _=>0
structure TellP (P:Program) (f off:Nat) (fs:Fds):Prop where
 has:zcp P f
 ok:∀ (w:World) (G:Nat→Prop) (b o:Nat) (l:List Val) (css:List (List Value)),(∀ k,G k→k < w.heap.size)→b < w.heap.size→fs.okV l→RepL w G l css→w.rangeAt b (o+off) css.flatten→Call P f #[.pointer (some ⟨b,o,none⟩)] w (Told w (fs.tr l))
section
variable {P:Program} {N:Nums} {tf:TypeId→FuncId × FuncId}
theorem WL_one {loc:List Nat} {N':Nat} {Q:Exit→Env→World→Prop} {σ:Env} {w:World} {x:C} {l:List C} (h:W P loc N' x (fun e σ w=>match e with | .normal=>WL P loc N' l Q σ w | _=>False) σ w):WL P loc N' (x :: l) Q σ w:=
 zaa fun K hK=>zii h fun e σ w hq=>by
  cases e with
  | normal=>exact hK _ _ hq
  | _=>exact hq.elim
theorem RepL.get {w:World} {G:Nat→Prop}:∀ {l:List Val} {css:List (List Value)} {j:Nat} {v:Val},RepL w G l css→l[j]?=some v→∃ c,css[j]?=some c∧Rep w G v c
 | [],_,j,v,_,hj=>by simp at hj
 | v' :: l,_,0,v,⟨c,r,h1,h2,h3⟩,hj=>by subst h1; simp at hj; subst hj; exact⟨c,rfl,h2⟩
 | v' :: l,_,j+1,v,⟨c,r,h1,h2,h3⟩,hj=>by subst h1; simpa using RepL.get h3 (by simpa using hj)
end
section
variable {P:Program} {N:Nums} {tf:TypeId→FuncId × FuncId}
mutual
theorem Ty.rep_len {w:World} {G:Nat→Prop}:∀ (t:Ty) (v:Val) {cs:List Value},t.okV v→Rep w G v cs→cs.length=t.sz
 | .pr k d,.num v,cs,hv,hr=>by
  simp only [Rep] at hr
  subst hr
  cases k with
  | bool=>obtain⟨x,rfl⟩:=hv; rfl
  | uuid=>obtain⟨x,rfl,hx⟩:=hv; simpa [Value.cells,Ty.sz,PK.sz] using hx
  | _=>obtain⟨x,rfl,_⟩:=hv; rfl
 | .txt k,v,cs,hv,hr=>by
  cases k<;>cases v<;>simp only [Ty.okV,Txt.okV] at hv
  ·obtain⟨x,rfl,_⟩:=hv; simp only [Rep] at hr; subst hr; rfl
  ·rename_i o
   cases o with
   | none=>simp only [Rep] at hr; subst hr; rfl
   | some s=>simp only [Rep] at hr; obtain⟨b,rfl,_⟩:=hr; rfl
  ·simp only [Rep] at hr; obtain⟨u,rfl,_⟩:=hr; rfl
  ·simp only [Rep] at hr; obtain⟨u,rfl,_⟩:=hr; rfl
 | .arr st nul e,v,cs,hv,hr=>by
  cases v<;>simp only [Ty.okV] at hv
  ·simp only [Rep] at hr; subst hr; rfl
  ·simp only [Rep] at hr; obtain⟨b,c,css,rfl,_⟩:=hr; rfl
 | .ptr T pT d fs,v,cs,hv,hr=>by
  cases v<;>simp only [Ty.okV] at hv
  ·simp only [Rep] at hr; subst hr; rfl
  ·simp only [Rep] at hr; obtain⟨b,css,rfl,_⟩:=hr; rfl
 | .tv k,v,cs,hv,hr=>by
  cases v<;>simp only [Ty.okV,Txt.okV] at hv
  rename_i o
  cases o with
  | none=>simp only [Rep] at hr; subst hr; rfl
  | some s=>simp only [Rep] at hr; obtain⟨b,rfl,_⟩:=hr; rfl
 | .row T pT d fs,v,cs,hv,hr=>by
  cases v<;>simp only [Ty.okV] at hv
  simp only [Rep] at hr
  obtain⟨css,rfl,hrl⟩:=hr
  simp only [Ty.sz]
  exact Fds.rep_len fs _ hv hrl
 | .pr _ _,.nstr _,_,hv,_=>by simp only [Ty.okV] at hv
 | .pr _ _,.oct _,_,hv,_=>by simp only [Ty.okV] at hv
 | .pr _ _,.nilA,_,hv,_=>by simp only [Ty.okV] at hv
 | .pr _ _,.arr _ _,_,hv,_=>by simp only [Ty.okV] at hv
 | .pr _ _,.row _,_,hv,_=>by simp only [Ty.okV] at hv
 | .pr _ _,.nilP,_,hv,_=>by simp only [Ty.okV] at hv
 | .pr _ _,.ptr _,_,hv,_=>by simp only [Ty.okV] at hv
 | .pr _ _,.tags _,_,hv,_=>by simp only [Ty.okV] at hv
theorem Fds.rep_len {w:World} {G:Nat→Prop}:∀ (fs:Fds) (l:List Val) {css:List (List Value)},fs.okV l→RepL w G l css→css.flatten.length=fs.sz
 | .nil,l,css,hv,hr=>by
  simp only [Fds.okV] at hv
  subst hv
  simp only [RepL] at hr
  subst hr; rfl
 | .tags _,l,css,hv,hr=>by
  match l,hv with
  | [.tags u],_=>
   obtain⟨c,r,rfl,h1,h2⟩:=hr
   simp only [RepL] at h2
   subst h2
   simp only [Rep] at h1
   obtain⟨v,rfl,_⟩:=h1
   rfl
 | .cons g t r,[],css,hv,hr=>by simp only [Fds.okV] at hv
 | .cons g t r,v :: l,css,hv,hr=>by
  obtain⟨c,rest,rfl,h1,h2⟩:=hr
  rw[List.flatten_cons,List.length_append,Ty.rep_len t v hv.1 h1,Fds.rep_len r l hv.2 h2]
  rfl
end
end
theorem wrap_again {k:IntKind} (hk:k=.i8∨k=.i16∨k=.i32∨k=.i64) (x:Int):IntKind.i64.wrap (k.wrap x)=k.wrap x:=by
 refine wrap_i64 ?_ ?_<;>rcases hk with rfl | rfl | rfl | rfl<;>simp [IntKind.wrap,IntKind.bits,IntKind.signed]<;>split<;>omega
mutual
def El.dOk':El→Prop
 | .row _ _ _ fs=>fs.dOk
 | _=>True
def Fds.dOk:Fds→Prop
 | .cons _ (.pr k d) r=>k.okV (d.getD k.zero)∧r.dOk
 | .cons _ (.arr _ _ e) r=>e.dOk'∧r.dOk
 | .cons _ (.row _ _ _ fs) r=>(fs.kt=none∧fs.dOk)∧r.dOk
 | .cons _ (.txt _) r=>r.dOk
 | .cons _ (.tv _) r=>r.dOk
 | .cons _ (.ptr _ _ _ fs) r=>(fs.kt=none∧fs.dOk)∧r.dOk
 | _=>True
end
theorem znd (n:Int) (s:RS):(zeu n s).length≤n.toNat:=by
 unfold zeu
 split
 ·simp
 ·rw[List.length_take]; omega
theorem be2_lt:∀ {l:List UInt8},l.length≤2→be l < 65536
 | [],_=>by decide
 | [x],_=>by have:=x.toNat_lt; simp [be]; omega
 | [x,y],_=>by have:=x.toNat_lt; have:=y.toNat_lt; simp [be]; omega
 | _ :: _ :: _ :: _,h=>by simp at h
theorem zzo (k:PK) (s:RS):k.okV (k.rd s).1:=by
 have num:∀ (ik:IntKind) (n:Nat),(ik=.i8∨ik=.i16∨ik=.i32∨ik=.i64)→∃ x,(zeh n (fun l=>.int ik (ik.wrap (be l))) (.int ik 0) s).1=.int ik x∧IntKind.i64.wrap x=x:=by
  intro ik n h
  unfold zeh
  split
  ·exact⟨0,rfl,by decide⟩
  ·exact⟨_,rfl,wrap_again h _⟩
 cases k with
 | bool=>
  simp only [PK.rd,PK.okV,zeh]
  split
  ·exact⟨_,rfl⟩
  ·exact⟨_,rfl⟩
 | i8=>exact num .i8 1 (.inl rfl)
 | en t=>exact num .i8 1 (.inl rfl)
 | i16=>exact num .i16 2 (.inr (.inl rfl))
 | u16=>
  show ∃ n,(zeh 2 (fun l=>Value.int .u16 (be l)) (.int .u16 0) s).1=.int .u16 n∧IntKind.i64.wrap n=n
  unfold zeh
  split
  ·exact⟨0,rfl,by decide⟩
  ·refine⟨_,rfl,?_⟩
   have:=be2_lt (l:=s.l.take 2) (by rw[List.length_take]; omega)
   exact wrap_i64 (by omega) (by omega)
 | i32=>exact num .i32 4 (.inr (.inr (.inl rfl)))
 | i64=>exact num .i64 8 (.inr (.inr (.inr rfl)))
 | uuid=>
  simp only [PK.rd,PK.okV,zww]
  refine⟨_,rfl,?_⟩
  rw[List.length_take,List.length_append,List.length_replicate]
  omega
theorem u_span (s:RS) (t:RS):(zeu ((uvN s).1 - 1:Int) t).length < big:=by
 have:=znd ((uvN s).1 - 1:Int) t
 have:=zlm s
 unfold big; omega
theorem i16_span (s:RS) (t:RS):(zeu (i16N s).1 t).length < big:=by
 have:=znd (i16N s).1 t
 have:=zhz s
 unfold big; omega
theorem i32_span (s:RS) (t:RS):(zeu (i32N s).1 t).length < big:=by
 have:=znd (i32N s).1 t
 have:=zkg s
 unfold big; omega
theorem zqe {n:Int} {t:RS} (h:(zeu n t).length < big):((zqf n t).getD []).length < big:=by
 unfold zqf
 split
 ·exact(by decide:([]:List UInt8).length < big)
 ·exact h
theorem zyq (fl:Bool) (k:Txt) (s:RS):k.okV (k.rd fl s).1:=by
 have hb:([]:List UInt8).length < big:=by decide
 cases k<;>cases fl<;>simp only [Txt.rd,Txt.okV,Bool.false_eq_true,if_false,if_true]
 ·exact⟨_,rfl,i16_span s _⟩
 ·exact⟨_,rfl,u_span s _⟩
 ·unfold zow strR; split
  ·exact hb
  ·exact i16_span s _
 ·unfold zju zkq; split
  ·exact hb
  ·exact u_span s _
 ·unfold bytR; split
  ·exact hb
  ·exact zqe (i32_span s _)
 ·unfold zxt; split
  ·exact hb
  ·exact zqe (u_span s _)
 ·unfold zub; split
  ·exact hb
  ·exact zqe (i32_span s _)
 ·unfold znr; split
  ·exact hb
  ·exact zqe (u_span s _)
theorem txt_ini (k:Txt):k.okV k.iniV:=by
 cases k
 ·exact⟨[],rfl,by decide⟩
 ·show ([]:List UInt8).length < big; decide
 ·show ([]:List UInt8).length < big; decide
 ·show ([]:List UInt8).length < big; decide
theorem rdN_ok {f:RS→Option (Val × RS)} {p:Val→Prop} (hf:∀ s v s',f s=some (v,s')→p v):∀ (n:Nat) (s:RS) (l:List Val) (s':RS),rdN f n s=some (l,s')→l.length=n∧∀ v∈l,p v
 | 0,s,l,s',h=>by simp [rdN] at h; obtain⟨rfl,rfl⟩:=h; simp
 | n+1,s,l,s',h=>by
  simp only [rdN] at h
  split at h
  ·cases h
  ·rename_i v s1 h1
   split at h
   ·cases h
   ·rename_i l1 s2 h2
    simp only [Option.some.injEq,Prod.mk.injEq] at h
    obtain⟨rfl,rfl⟩:=h
    obtain⟨a,b⟩:=rdN_ok hf n s1 l1 s2 h2
    refine⟨by simp [a],fun x hx=>?_⟩
    rcases List.mem_cons.1 hx with rfl | hx
    ·exact hf _ _ _ h1
    ·exact b x hx
theorem tput_len (l:List (Nat × List UInt8)) (k:Nat) (v:List UInt8):(tput l k v).length≤l.length+1:=by
 unfold tput
 split<;>simp
theorem tput_big {l:List (Nat × List UInt8)} {k:Nat} {v:List UInt8} (hl:∀ x∈l,x.2.length < big) (hv:v.length < big):∀ x∈tput l k v,x.2.length < big:=by
 intro x hx
 unfold tput at hx
 split at hx
 ·obtain⟨y,hy,rfl⟩:=List.mem_map.1 hx
  split
  ·exact hv
  ·exact hl y hy
 ·rcases List.mem_append.1 hx with h | h
  ·exact hl x h
  ·simp at h; subst h; exact hv
theorem tagsN_ok:∀ (n:Nat) (l:List (Nat × List UInt8)) (s:RS),(∀ x∈l,x.2.length < big)→(zvh n l s).1.length≤l.length+n∧∀ x∈(zvh n l s).1,x.2.length < big
 | 0,l,s,h=>⟨Nat.le_refl _,h⟩
 | n+1,l,s,h=>by
  simp only [zvh]
  have hv:(zeu ((uvN (uvN s).2).1:Int) (uvN (uvN s).2).2).length < big:=by
   have:=znd ((uvN (uvN s).2).1:Int) (uvN (uvN s).2).2
   have:=zlm (uvN s).2
   unfold big; omega
  obtain⟨a,b⟩:=tagsN_ok n (tput l (uvN s).1 (zeu ((uvN (uvN s).2).1:Int) (uvN (uvN s).2).2)) (zjn ((uvN (uvN s).2).1:Int) (uvN (uvN s).2).2) (tput_big h hv)
  have:=tput_len l (uvN s).1 (zeu ((uvN (uvN s).2).1:Int) (uvN (uvN s).2).2)
  exact⟨by omega,b⟩
theorem tagsR_ok (s:RS):(zvg s).1.length < big∧∀ x∈(zvg s).1,x.2.length < big:=by
 obtain⟨a,b⟩:=tagsN_ok (uvN s).1 [] (uvN s).2 (fun x hx=>by simp at hx)
 have:=zlm s
 simp only [List.length_nil,Nat.zero_add] at a
 exact⟨by unfold zvg big; omega,b⟩
def Fds.okW:Fds→List Val→Prop
 | .nil,l=>l=[]
 | .tags none,[.tags l]=>l.length < big∧∀ x∈l,x.2.length < big
 | .tags (some _),[.num v]=>v=.map none
 | .cons _ ty r,v :: l=>ty.okV v∧r.okW l
 | _,_=>False
def Fds.okF:Fds→List Val→Prop
 | .cons _ ty r,v :: l=>ty.okV v∧r.okF l
 | .cons ..,[]=>False
 | _,l=>l=[]
theorem Fds.okW_none:∀ (fs:Fds) {l:List Val},fs.kt=none→fs.okW l→fs.okV l
 | .nil,_,_,h=>h
 | .tags (some _),_,hk,_=>by cases hk
 | .tags none,l,_,h=>by
  match l,h with
  | [.tags u],h=>exact h
 | .cons g t r,[],_,h=>by simp only [Fds.okW] at h
 | .cons g t r,v :: l,hk,h=>⟨h.1,Fds.okW_none r hk h.2⟩
theorem Fds.okW_F:∀ (fs:Fds) {j:Nat} {l:List Val},fs.kt=some j→fs.okW l→fs.okF l.dropLast
 | .nil,_,_,hk,_=>by cases hk
 | .tags none,_,_,hk,_=>by cases hk
 | .tags (some _),_,l,_,h=>by
  match l,h with
  | [.num v],h=>rfl
 | .cons g t r,_,[],_,h=>by simp only [Fds.okW] at h
 | .cons g t r,j,v :: l,hk,h=>by
  have hk:r.kt=some j:=hk
  have:=Fds.okW_F r hk h.2
  cases l with
  | nil=>
   exfalso
   have h2:=h.2
   cases r with
   | nil=>cases hk
   | tags k=>cases k<;>simp only [Fds.okW] at h2
   | cons g t r=>simp only [Fds.okW] at h2
  | cons x l=>rw[List.dropLast_cons_cons]; exact⟨h.1,this⟩
theorem Fds.okF_V:∀ (fs:Fds) {j:Nat} {l:List Val} {u:List (Nat × List UInt8)},fs.kt=some j→fs.okF l→(u.length < big∧∀ x∈u,x.2.length < big)→fs.okV (l++[.tags u])
 | .nil,_,_,_,hk,_,_=>by cases hk
 | .tags _,_,l,u,_,h,hu=>by
  have h:l=[]:=h
  subst h
  exact hu
 | .cons g t r,_,[],_,_,h,_=>by simp only [Fds.okF] at h
 | .cons g t r,_,v :: l,u,hk,h,hu=>⟨h.1,Fds.okF_V r hk h.2 hu⟩
theorem kN_inv {X:Type} {keyR:X→RS→Option (X × RS)} {dfl:Nat→X→RS→X × RS} (I:Nat→X→Prop) (hk:∀ c x s y,I (c+1) x→keyR x s=some y→I c y.1) (hd:∀ c k x s,I (c+1) x→I c (dfl k x s).1) :
  ∀ (c:Nat) (x:X) (s:RS) (y:X × RS),I c x→kN keyR dfl c x s=some y→I 0 y.1
 | 0,x,s,y,hi,h=>by
  simp only [kN,Option.some.injEq] at h
  rw[← h]; exact hi
 | c+1,x,s,y,hi,h=>by
  rw[kN] at h
  split at h
  ·split at h
   ·cases h
   ·rename_i z hz
    exact kN_inv I hk hd c _ _ y (hk _ _ _ _ hi hz) h
  ·exact kN_inv I hk hd c _ _ y (hd _ _ _ _ hi) h
theorem ktR_ok (fl:Bool) {fs:Fds} {j:Nat} {f:Val→RS→Option (Val × RS)} (hf:∀ v s v' s' l,f v s=some (v',s')→fs.okF l→fs.okF (l.set j v')) (hk:fs.kt=some j) {l l':List Val} {s s':RS} (hw:fs.okW l) (h:ktR fl f j l s=some (l',s')):fs.okV l':=by
 have h0:=Fds.okW_F fs hk hw
 unfold ktR at h
 split at h
 ·split at h
  ·cases h
  ·rename_i y hy
   simp only [Option.some.injEq,Prod.mk.injEq] at h
   have:=kN_inv (fun c x=>fs.okF x.1∧x.2.length+c≤(uvN s).1∧∀ e∈x.2,e.2.length < big) (fun c x s y hi hy=>by
    obtain⟨h1,h2,h3⟩:=hi
    unfold kRj at hy
    split at hy
    ·cases hy
    ·rename_i v s1 hv
     split at hy
     ·cases hy
     ·simp only [Option.some.injEq] at hy
      rw[← hy]
      exact⟨hf _ _ _ _ _ hv h1,by simp only; omega,h3⟩) (fun c k x s hi=>by
    obtain⟨h1,h2,h3⟩:=hi
    have:=tput_len x.2 k (inS s).l
    refine⟨h1,by simp only [kDfl]; omega,tput_big h3 ?_⟩
    have:=znd ((uvN s).1:Int) (uvN s).2
    have:=zlm s
    simp only [inS]
    unfold big; omega) _ _ _ y ⟨h0,by simp,fun e he=>by simp at he⟩ hy
   obtain⟨h1,h2,h3⟩:=this
   rw[← h.1]
   have:=zlm s
   exact Fds.okF_V fs hk h1 ⟨by unfold big; omega,h3⟩
 ·simp only [Option.some.injEq,Prod.mk.injEq] at h
  rw[← h.1]
  exact Fds.okF_V fs hk h0 ⟨by decide,fun x hx=>by simp at hx⟩
section
variable (ver:Int) (fl:Bool)
mutual
theorem Ty.rd_ok:∀ (t:Ty) (g:Gd) (r:Fds),(Fds.cons g t r).dOk→∀ (s:RS) (v:Val) (s':RS),t.rd ver fl s=some (v,s')→t.okV v
 | .pr k d,_,_,_,s,v,s',h=>by
  simp only [Ty.rd,Option.some.injEq,Prod.mk.injEq] at h
  obtain⟨rfl,rfl⟩:=h
  exact zzo k s
 | .txt k,_,_,_,s,v,s',h=>by
  simp only [Ty.rd,Option.some.injEq] at h
  simp only [Ty.okV]
  rw[show v=(k.rd fl s).1 by rw[h]]
  exact zyq fl k s
 | .arr st nul e,_,_,hd,s,v,s',h=>by
  simp only [Ty.rd] at h
  have hbnd:=zon fl s
  simp only [lenX] at hbnd
  generalize (if fl=true then zlj s else arrR s)=X at h hbnd
  split at h
  ·cases h
  ·split at h
   ·split at h
    ·cases h
    ·rename_i l s1 hr
     simp only [Option.some.injEq,Prod.mk.injEq] at h
     obtain⟨rfl,rfl⟩:=h
     obtain⟨a,b⟩:=rdN_ok (p:=e.okV) (fun s v s' hh=>El.rd_ok e hd.1 s v s' hh) _ _ _ _ hr
     refine⟨rfl,?_,b⟩
     unfold big; omega
   ·simp only [Option.some.injEq,Prod.mk.injEq] at h
    obtain⟨rfl,rfl⟩:=h
    cases nul with
    | none=>trivial
    | some n=>
     simp only
     split
     ·exact⟨rfl,by decide,fun v hv=>by simp at hv⟩
     ·trivial
 | .ptr T pT d fs,_,_,hd,s,v,s',h=>by
  simp only [Ty.rd] at h
  split at h
  ·simp only [Option.some.injEq,Prod.mk.injEq] at h
   obtain⟨rfl,rfl⟩:=h
   exact trivial
  ·split at h
   ·cases h
   ·rename_i l s1 hr
    simp only [Option.some.injEq,Prod.mk.injEq] at h
    obtain⟨rfl,rfl⟩:=h
    exact Fds.okW_none fs hd.1.1 (Fds.rd_okW fs hd.1.2 _ l s1 hr)
 | .tv k,_,_,_,s,v,s',h=>by
  simp only [Ty.rd,Option.some.injEq] at h
  simp only [Ty.okV]
  split at h
  ·have hs:=zyq fl .str s
   simp only [Txt.rd] at hs
   simp only [Prod.mk.injEq] at h
   obtain⟨rfl,_⟩:=h
   obtain⟨l,hl,hb⟩:=hs
   have hl:strV (if fl=true then zkq s else strR s).1=strV l:=hl
   have:(if fl=true then zkq s else strR s).1=l:=by rw[← str_octs (if fl=true then zkq s else strR s).1,hl,str_octs]
   show ((some (if fl=true then zkq s else strR s).1).getD []).length < big
   rw[this]; exact hb
  ·rw[show v=(Txt.rd fl .nstr s).1 by rw[h]]
   exact zyq fl .nstr s
 | .row T pT d fs,_,_,hd,s,v,s',h=>by
  simp only [Ty.rd] at h
  split at h
  ·cases h
  ·rename_i l s1 hr
   simp only [Option.some.injEq,Prod.mk.injEq] at h
   obtain⟨rfl,rfl⟩:=h
   exact Fds.okW_none fs hd.1.1 (Fds.rd_okW fs hd.1.2 s l s1 hr)
theorem El.rd_ok:∀ (e:El),e.dOk'→∀ (s:RS) (v:Val) (s':RS),e.rd ver fl s=some (v,s')→e.okV v
 | .pr k,_,s,v,s',h=>by
  simp only [El.rd,Option.some.injEq,Prod.mk.injEq] at h
  obtain⟨rfl,rfl⟩:=h
  exact zzo k s
 | .txt k,_,s,v,s',h=>by
  simp only [El.rd,Option.some.injEq] at h
  simp only [El.okV]
  rw[show v=(k.rd fl s).1 by rw[h]]
  exact zyq fl k s
 | .row T pT d fs,hd,s,v,s',h=>by
  rw[El.rd] at h
  split at h
  ·cases h
  ·rename_i l s1 hr
   simp only [Option.some.injEq,Prod.mk.injEq] at h
   obtain⟨rfl,rfl⟩:=h
   split at hr
   ·cases hr
   ·rename_i l2 s2 hr2
    have hw:=Fds.rd_okW fs hd s l2 s2 hr2
    split at hr
    ·rename_i hkt
     simp only [Option.some.injEq,Prod.mk.injEq] at hr
     obtain⟨rfl,rfl⟩:=hr
     exact Fds.okW_none fs hkt hw
    ·rename_i j hkt
     exact ktR_ok fl (fun v s v' s' l3 h3 hf=>Fds.rdK_ok fs hd j l3 v s v' s' hf h3) hkt hw hr
theorem Fds.rd_okW:∀ (fs:Fds),fs.dOk→∀ (s:RS) (l:List Val) (s':RS),fs.rd ver fl s=some (l,s')→fs.okW l
 | .nil,_,s,l,s',h=>by
  simp only [Fds.rd,Option.some.injEq,Prod.mk.injEq] at h
  obtain⟨rfl,rfl⟩:=h
  rfl
 | .tags none,_,s,l,s',h=>by
  simp only [Fds.rd] at h
  split at h
  ·simp only [Option.some.injEq,Prod.mk.injEq] at h
   obtain⟨rfl,rfl⟩:=h
   exact tagsR_ok s
  ·simp only [Option.some.injEq,Prod.mk.injEq] at h
   obtain⟨rfl,rfl⟩:=h
   exact⟨by decide,fun x hx=>by simp at hx⟩
 | .tags (some j),_,s,l,s',h=>by
  simp only [Fds.rd,Option.some.injEq,Prod.mk.injEq] at h
  obtain⟨rfl,rfl⟩:=h
  exact rfl
 | .cons g t r,hd,s,l,s',h=>by
  simp only [Fds.rd] at h
  split at h
  ·cases h
  ·rename_i v s1 h1
   split at h
   ·cases h
   ·rename_i l1 s2 h2
    simp only [Option.some.injEq,Prod.mk.injEq] at h
    obtain⟨rfl,rfl⟩:=h
    have hr:r.dOk:=by cases t<;>first | exact hd.2 | exact hd
    refine⟨?_,Fds.rd_okW r hr s1 l1 s2 h2⟩
    split at h1
    ·exact Ty.rd_ok t g r hd s v s1 h1
    ·simp only [Option.some.injEq,Prod.mk.injEq] at h1
     obtain⟨rfl,rfl⟩:=h1
     exact Ty.ini_ok t g r hd
theorem Ty.rdK_ok:∀ (t:Ty) (g:Gd) (r:Fds),(Fds.cons g t r).dOk→∀ (v0:Val) (s:RS) (v:Val) (s':RS),t.rdK ver fl v0 s=some (v,s')→t.okV v
 | .pr k d,_,_,_,v0,s,v,s',h=>by
  simp only [Ty.rdK,Option.some.injEq,Prod.mk.injEq] at h
  obtain⟨rfl,rfl⟩:=h
  exact zzo k s
 | .txt k,_,_,_,v0,s,v,s',h=>by
  simp only [Ty.rdK,Option.some.injEq] at h
  simp only [Ty.okV]
  rw[show v=(k.rd fl s).1 by rw[h]]
  exact zyq fl k s
 | .arr st nul e,_,_,hd,v0,s,v,s',h=>by
  simp only [Ty.rdK] at h
  have hbnd:=zon fl s
  simp only [lenX] at hbnd
  generalize (if fl=true then zlj s else arrR s)=X at h hbnd
  split at h
  ·cases h
  ·split at h
   ·split at h
    ·cases h
    ·rename_i l s1 hr
     simp only [Option.some.injEq,Prod.mk.injEq] at h
     obtain⟨rfl,rfl⟩:=h
     obtain⟨a,b⟩:=rdN_ok (p:=e.okV) (fun s v s' hh=>El.rd_ok e hd.1 s v s' hh) _ _ _ _ hr
     refine⟨rfl,?_,b⟩
     unfold big; omega
   ·simp only [Option.some.injEq,Prod.mk.injEq] at h
    obtain⟨rfl,rfl⟩:=h
    split
    ·trivial
    ·exact⟨rfl,by decide,fun v hv=>by simp at hv⟩
 | .tv k,_,_,_,v0,s,v,s',h=>by simp [Ty.rdK] at h
 | .ptr ..,_,_,_,v0,s,v,s',h=>by simp [Ty.rdK] at h
 | .row T pT d fs,_,_,hd,v0,s,v,s',h=>by simp [Ty.rdK] at h
theorem Fds.rdK_ok:∀ (fs:Fds),fs.dOk→∀ (j:Nat) (l:List Val) (v0:Val) (s:RS) (v:Val) (s':RS),fs.okF l→fs.rdK ver fl j v0 s=some (v,s')→fs.okF (l.set j v)
 | .nil,_,j,l,v0,s,v,s',_,h=>by simp [Fds.rdK] at h
 | .tags _,_,j,l,v0,s,v,s',_,h=>by simp [Fds.rdK] at h
 | .cons g t r,hd,j,[],v0,s,v,s',hf,h=>by simp only [Fds.okF] at hf
 | .cons g t r,hd,j,x :: l,v0,s,v,s',hf,h=>by
  have hr:r.dOk:=by cases t<;>first | exact hd.2 | exact hd
  cases j with
  | zero=>exact⟨Ty.rdK_ok t g r hd v0 s v s' h,hf.2⟩
  | succ j=>exact⟨hf.1,Fds.rdK_ok r hr j l v0 s v s' hf.2 h⟩
theorem Ty.ini_ok:∀ (t:Ty) (g:Gd) (r:Fds),(Fds.cons g t r).dOk→t.okV t.iniV
 | .pr k d,_,_,hd=>hd.1
 | .txt k,_,_,_=>txt_ini k
 | .arr ..,_,_,_=>trivial
 | .row T pT d fs,_,_,hd=>Fds.ini_ok fs hd.1.2
 | .tv _,_,_,_=>txt_ini .nstr
 | .ptr ..,_,_,_=>trivial
theorem Fds.ini_ok:∀ (fs:Fds),fs.dOk→fs.okV fs.iniV
 | .nil,_=>rfl
 | .tags _,_=>⟨by decide,fun x hx=>by simp at hx⟩
 | .cons g t r,hd=>by
  have hr:r.dOk:=by cases t<;>first | exact hd.2 | exact hd
  exact⟨Ty.ini_ok t g r hd,Fds.ini_ok r hr⟩
end
theorem Fds.rd_ok (fs:Fds) (hd:fs.dOk) (s:RS) (l:List Val) (s':RS) (h:fs.rdR ver fl s=some (l,s')):fs.okV l:=by
 unfold Fds.rdR at h
 split at h
 ·cases h
 ·rename_i l2 s2 hr2
  have hw:=Fds.rd_okW ver fl fs hd s l2 s2 hr2
  split at h
  ·rename_i hkt
   simp only [Option.some.injEq,Prod.mk.injEq] at h
   obtain⟨rfl,rfl⟩:=h
   exact Fds.okW_none fs hkt hw
  ·rename_i j hkt
   exact ktR_ok fl (fun v s v' s' l3 h3 hf=>Fds.rdK_ok ver fl fs hd j l3 v s v' s' hf h3) hkt hw h
end
mutual
def Ty.shB:Ty→Bool
 | .arr _ _ e=>e.shB
 | .row _ _ _ fs=>Nat.blt fs.count 1048576 && fs.shB
 | .ptr _ _ _ fs=>Nat.blt fs.count 1048576 && fs.shB
 | _=>true
def El.shB:El→Bool
 | .row _ _ _ fs=>Nat.blt fs.count 1048576 && fs.shB
 | _=>true
def Fds.shB:Fds→Bool
 | .cons _ t r=>t.shB && r.shB
 | _=>true
end
structure zaax where
 newP:Nat:=0
 setV:Nat:=0
 maxV:Nat:=0
 readF:Nat:=0
 unsF:Nat:=0
 readf:Nat:=0
 tell:Nat:=0
 maxI:Nat:=0
 tellI:Nat:=0
 unsI:Nat:=0
section
variable (N:Nums)
def c_new (tT dflt:Nat):C:=seqs [zfu 0 (.pointer none),.ops [⟨some 101,.alloc tT,0,none,[]⟩],.ops [⟨some 0,.call ⟨.value (.func dflt),#[V 1],#[tT]⟩,N.t_,none,[]⟩],.ops [⟨some 100,.assign (V 1),0,none,[]⟩],.ret]
def c_set (tT:Nat):C:=.ops [⟨some 0,.move (V 0),0,none,[]⟩,⟨some 1,.move (V 1),0,none,[]⟩,⟨some 2,.nilCheck (T 0),0,none,[]⟩,⟨some 3,.fieldAddr tT (T 2) 0,0,none,[]⟩,⟨none,.store N.zbf (T 3) (T 1),0,none,[]⟩]
def c_rf (pT readf:Nat) (u:Bool):C:=seqs [zfu 2 .nilIface,.ops [⟨some 0,.move (V 0),0,none,[]⟩,⟨some 1,.move (V 1),0,none,[]⟩,⟨some 2,.call ⟨.value (.func readf),#[T 0,T 1,.const (.bool u)],#[pT,N.za,N.zay]⟩,N.zgc,none,[]⟩,⟨some 102,.assign (T 2),0,none,[]⟩],.ret]
def c_max (n:Nat):C:=seqs [zfu 1 (.int .i16 0),zfu 1 (.int .i16 n),.ret]
def c_maxI (pT newP maxV:Nat):C:=seqs [zfu 0 (.int .i64 0),.ops [⟨some 0,.call ⟨.value (.func newP),#[],#[]⟩,pT,none,[]⟩,⟨some 1,.call ⟨.value (.func maxV),#[T 0],#[pT]⟩,N.zbf,none,[]⟩,⟨some 2,.convert N.zbf N.ze (T 1),0,none,[]⟩,⟨some 100,.assign (T 2),0,none,[]⟩],.ret]
end
structure DoorT (P:Program) (N:Nums) (m:Msg) (fx:Bool) (d:zaax):Prop where
 msg:MsgT P N m fx
 vin:m.vin=false
 ti:∃ fs by',TI P m.tT (.struct fs) (m.fs.sz+1) by' (.agg (.int .i16 0 :: m.fs.zero).toArray)
 newP:FOk P d.newP 0 (c_new N m.tT m.dflt) [.var 0]
 setV:FOk P d.setV 2 (c_set N m.tT) []
 readf:FOk P d.readf 3 (m.gen N fx) [.var 3]
 tell:d.tell≠0→TellP P d.tell 1 m.fs
 dok:m.fs.dOk
 shB:m.fs.shB=true
 cnt:m.fs.count < 1048576
section
variable {P:Program} {N:Nums}
theorem call_new (B:Base P N) {m:Msg} {fx:Bool} {d:zaax} (D:DoorT P N m fx d) (w:World) :
  Call P d.newP #[] w fun v w'=>v=.pointer (some ⟨w.heap.size,0,none⟩)∧Mod w w' zy∧w'.there w.heap.size 0 (m.fs.sz+1)∧(∃ x,w'.cell? ⟨w.heap.size,0,none⟩=some x)∧w'.rangeAt w.heap.size 1 m.fs.ini∧w.heap.size < w'.heap.size:=by
 obtain⟨fs,by',hT⟩:=D.ti
 refine D.newP.call rfl fun loc N' hlo=>?_
 unfold c_new
 refine zfp (by simp) ?_
 refine zaa fun K hK=>zao (hK _ _ ?_)
 clear hK K
 obtain⟨w1,hw1⟩:∃ w1,w1=w.alloc (.cells (Value.cells (.agg (.int .i16 0 :: m.fs.zero).toArray)) m.tT):=⟨_,rfl⟩
 have m1:Mod w w1 zy:=by rw[hw1]; exact Mod.alloc _ _ _
 have s1:w1.heap.size=w.heap.size+1:=by rw[hw1]; exact zav _ _
 have r1:w1.rangeAt w.heap.size 0 ([.int .i16 0]++m.fs.zero):=by rw[hw1]; exact zr w (.int .i16 0 :: m.fs.zero).toArray m.tT (0,0)
 have t1:w1.there w.heap.size 0 (m.fs.sz+1):=by
  have:=zbq w (.int .i16 0 :: m.fs.zero).toArray m.tT
  have e:(Value.int .i16 0 :: m.fs.zero).toArray.size=m.fs.sz+1:=by simp [Fds.zero_length]
  rw[e] at this
  rw[hw1]; exact this
 refine zaa fun K hK=>zi fun τ=>?_
 have hal:=hT.run_alloc (w:=w) (.tuple #[])
 rw[← hw1] at hal
 simp +decide only [bK,hal]
 refine hK _ _ (zb fun σ1 hσ=>?_)
 have g1:=hσ 1
 simp +decide only [bE,BEq.rfl,Nat.reduceAdd] at g1
 clear hσ hK K hal hw1
 have q1:=zx.1 r1
 refine zaa fun K hK=>zi fun τ=>?_
 simp +decide only [bK]
 rw[zan D.msg.dflt.has]
 simp +decide only [bK,bE,Nat.reduceAdd,g1]
 refine(msg_dflt B D.msg t1 (by omega) (by simpa using q1.2) (zjx _ D.msg.plain)).mono ?_
 rintro _ w2 ⟨m2,r2⟩
 refine zb (K:=fun σ' w'=>zfd K _ .normal σ' w') fun σ2 hσ=>hK _ _ ?_
 have g2:=hσ 1
 simp +decide only [bE,Nat.reduceBeqDiff,Nat.reduceAdd,g1] at g2
 clear hσ hK K
 refine zaa fun K hK=>zi fun τ=>?_
 simp +decide only [bK,bE,Nat.reduceAdd,g2]
 refine hK _ _ (zb fun σ3 hσ=>zaa fun K2 hK2=>zbb ⟨.inr rfl,_,rfl,?_⟩)
 have g3:=hσ 0
 simp +decide only [bE,BEq.rfl,Nat.zero_add] at g3
 have s2:=m2.size
 refine⟨g3,m1.fresh m2 fun k o e=>by have:=e.1; omega,m2.there (by omega) t1,⟨.int .i16 0,?_⟩,r2,by omega⟩
 rw[m2.cell _ _ (by omega) (fun e=>by have:=e.2.1; omega)]
 exact q1.1 0 _ rfl
theorem call_set (B:Base P N) {m:Msg} {fx:Bool} {d:zaax} (D:DoorT P N m fx d) {w:World} {M:Nat} (x:Int) (ht:w.there M 0 (m.fs.sz+1)) {u:Value} (hu:w.cell? ⟨M,0,none⟩=some u) :
  Call P d.setV #[.pointer (some ⟨M,0,none⟩),.int .i16 x] w fun _ w'=>Mod w w' (rng M 0 1)∧w'.cell? ⟨M,0,none⟩=some (.int .i16 x)∧w'.heap.size=w.heap.size:=by
 refine D.setV.call rfl fun loc N' hlo=>?_
 unfold c_set
 refine zi fun τ=>?_
 have hst:=B.int16.run_store1 (w:=w) (b:=M) (o:=0) (v:=.int .i16 x) rfl (fun j hj=>ht j (by omega))
 simp +decide only [bK,bE,Nat.reduceBeqDiff,BEq.rfl,Nat.reduceAdd,Nat.zero_add]
 rw[zw rfl]
 simp +decide only [bK,bE,Nat.reduceBeqDiff,BEq.rfl,Nat.add_zero,D.msg.v0.run,hst]
 exact⟨.inl rfl,.tuple #[],rfl,Mod.setCell fun _=>⟨rfl,Nat.le_refl _,by omega⟩,World.cell?_setCell_same _ _ _ hu,by simp [World.setCell]⟩
theorem call_rf (B:Base P N) (F:Fns P N) {m:Msg} {fx:Bool} {d:zaax} (D:DoorT P N m fx d) {f:Nat} {u:Bool} (hf:FOk P f 2 (c_rf N m.pT d.readf u) [.var 2]) {w:World} {lo hi M:Nat} {v e:Value} {nl:Bool} {l:List UInt8} {ver:Int}
  (hb:zbz w lo hi v nl l) (hhi:hi≤w.heap.size) (ht:w.there M 0 (m.fs.sz+1)) (hM:M < w.heap.size) (hMs:M < lo∨hi≤M) (hMg:M≠N.zj) (hver:w.cell? ⟨M,0,none⟩=some (.int .i16 ver)) (hz:w.rangeAt M 1 m.fs.ini) (he:w.cell? ⟨N.zj,0,none⟩=some e) (hei:∃ te ve,e=.iface te ve) :
  Call P f #[.pointer (some ⟨M,0,none⟩),v] w (zyl N m (m.rd fx ver ⟨l,false,nl⟩) lo hi M ver e w):=by
 refine hf.call rfl fun loc N' hlo=>?_
 unfold c_rf
 refine zfp (by simp) ?_
 refine zaa fun K hK=>zao (hK _ _ ?_)
 clear hK K
 obtain⟨σ,hσ⟩:∃ σ,σ=upd (zdf #[.pointer (some ⟨M,0,none⟩),v]) 2 .nilIface:=⟨_,rfl⟩
 have f0:σ 0=.pointer (some ⟨M,0,none⟩):=by rw[hσ,zg (by decide)]; rfl
 have f1:σ 1=v:=by rw[hσ,zg (by decide)]; rfl
 rw[← hσ]
 clear hσ
 refine zaa fun K hK=>zi fun τ=>?_
 simp +decide only [bK,bE,Nat.reduceBeqDiff,Nat.reduceAdd,Nat.zero_add,f0,f1]
 rw[zit D.readf.has]
 simp +decide only [bK,bE,Nat.reduceBeqDiff,BEq.rfl]
 refine(zxv B F D.vin D.msg D.readf hb hhi ht hM hMs hMg hver hz (zni _ D.msg.plain) he hei (u:=u)).mono ?_
 intro v' w' hpost
 refine hK _ _ (zb fun σ3 hσ=>zaa fun K2 hK2=>zbb ⟨.inr rfl,_,rfl,?_⟩)
 have g3:=hσ 2
 simp +decide only [bE,BEq.rfl,Nat.reduceAdd] at g3
 rw[g3]; exact hpost
def zrb (w:World) (v:Value) (l:List UInt8):Prop:=
 (∃ ad c,v=.slice ad 0 c∧l=[])∨∃ a c,v=.slice (some a) l.length c∧l.length≤c∧a.block < w.heap.size∧∀ j x,l[j]?=some x→w.cell? (a.add j)=some (zz x)
theorem zrb.stay {w w':World} (m:Mod w w' zy) {v:Value} {l:List UInt8} (h:zrb w v l) (hs:∀ a:Addr,a.block < w.heap.size→w'.cell? a=w.cell? a):zrb w' v l:=by
 rcases h with h | ⟨a,c,h1,h2,h3,h4⟩
 ·exact .inl h
 ·exact .inr ⟨a,c,h1,h2,Nat.lt_of_lt_of_le h3 m.size,fun j x hj=>by rw[hs _ (by unfold Addr.add; split<;>exact h3)]; exact h4 j x hj⟩
theorem zabp (B:Base P N) {w:World} {v:Value} {l:List UInt8} {ty:TypeId} (h:zrb w v l) (hl:l.length < 1099511627776) :
  ∃ v' w',(Builtin.append_ #[N.za,N.za] ty #[.slice none 0 0,v]).run P w=.ok v' w'∧zbz w' w.heap.size w'.heap.size v' l.isEmpty l∧Mod w w' zy:=by
 have empty:∀ {ad:Option Addr} {c:Nat},v=.slice ad 0 c→l=[]→∃ v' w',(Builtin.append_ #[N.za,N.za] ty #[.slice none 0 0,v]).run P w=.ok v' w'∧zbz w' w.heap.size w'.heap.size v' l.isEmpty l∧Mod w w' zy:=by
  intro ad c e1 e2
  subst e1 e2
  exact⟨_,_,ztv B.Lu8 B.uint8,.inl ⟨rfl,rfl,rfl⟩,.refl _ _⟩
 rcases h with⟨ad,c,h1,h2⟩ | ⟨a,c,e,_,_,h3⟩
 ·exact empty h1 h2
 ·cases l with
  | nil=>exact empty e rfl
  | cons x l=>
   obtain⟨i,hi,hsz,hbytes,hzero⟩:=B.uint8.info
   have hsrc:Src P i.size N.za v (x :: l).length ((x :: l).map zz) w:=by
    rw[e]
    exact Src.ofSlice w B.Lu8.und a _ c _ (by rw[hsz]; simp) (fun j u hj=>by
     rw[List.getElem?_map] at hj
     cases hx:(x :: l)[j]? with
     | none=>rw[hx] at hj; simp at hj
     | some y=>rw[hx] at hj; simp at hj; subst hj; exact h3 j y hx) (byteV_ones _)
   have hfit:Builtin.nextslicecap (0+(x :: l).length) 0 * i.bytes≤281474976710656:=by
    have:=nextslicecap_le (show 0 < 0+(x :: l).length by simp)
    rw[hbytes]; omega
   have hrun:=run_append_grow_src (P:=P) w N.za N.za ty N.zh i _ B.Lu8.und hi hzero none 0 0 [] rfl v _ _ hsrc (by simp) (by omega) hfit
   refine⟨_,_,hrun,.inr ⟨w.heap.size,0,_,rfl,by rw[Nat.zero_add],by exact grownCap_ge w (x :: l).length 0 N.zh,fun _=>⟨Nat.le_refl _,by rw[zav]; exact Nat.lt_succ_self _⟩,?_⟩,(Mod.drew w _).trans' (Mod.alloc _ _ _)⟩
   have hr:=zr w.drew (([]++(x :: l).map zz).toArray++Builtin.zeroCells (Value.cells (.int .u8 0)) (grownCap w (0+(x :: l).length) 0 N.zh - (0+(x :: l).length))) N.zh (0,0)
   exact(zx.1 (by simpa using hr)).1
end
section
variable {P:Program} {N:Nums}
theorem run_rem {t:TypeId} {x y:Operand} {k:IntKind} {a b:Int} {w:World} (h:b≠0):(do eqGuard .rem t x y (.int k a) (.int k b); binOp .rem t (.int k a) (.int k b):Sem Value).run P w=.ok (.int k (a.tmod b)) w:=by
 simp [eqGuard,binOp,Op.intDiv,h]
end
section
variable {P:Program} {N:Nums}
theorem zgb {Cw:World→Prop} {K:Env→Prop} {o:ROp} {r:List (ROp × Bool)} {ρ:Env} (v:Value) (hg:zdl ρ o.guard=true) (h:∀ w,Cw w→(exec ρ o).run P w=.ok (.value v) w) (hr:zfv P Cw K r (put ρ o.dst v)):zfv P Cw K ((o,true) :: r) ρ:=
 ⟨v,fun w hw=>.inl ⟨hg,h w hw⟩,hr⟩
theorem zrb.run_len (B:Base P N) {w:World} {v:Value} {l:List UInt8} (h:zrb w v l) {ty:TypeId}:(Builtin.len_ #[N.za] ty #[v]).run P w=.ok (.int .i64 l.length) w:=by
 rcases h with⟨ad,c,rfl,rfl⟩ | ⟨a,c,rfl,_⟩
 ·exact B.Lu8.run_len
 ·exact B.Lu8.run_len
theorem zaaf (B:Base P N) (F:Fns P N) (hN:N.zlw≠0) (w:World) (n k:Int) (hk:IntKind.i64.wrap (k+1)≠0):Call P N.zlw #[.int .u8 n,.int .i64 k] w fun v w'=>v=.int .i64 ((IntKind.i64.wrap n).tmod (IntKind.i64.wrap (k+1)))∧w'=w:=by
 refine(F.version hN).call rfl fun loc N' hlo=>?_
 unfold zaal
 refine zd fun K hK=>zao (hK _ _ ?_)
 clear hK K
 obtain⟨σ,hσ⟩:∃ σ,σ=upd (zdf #[.int .u8 n,.int .i64 k]) 2 (.int .i64 0):=⟨_,rfl⟩
 have f0:σ 0=.int .u8 n:=by rw[hσ,zg (by decide)]; rfl
 have f1:σ 1=.int .i64 k:=by rw[hσ,zg (by decide)]; rfl
 rw[← hσ]
 clear hσ
 refine zd fun K hK=>zi fun τ=>?_
 have hcv:=fun {w:World}=>zat (P:=P) (w:=w) (k':=.u8) B.uint8 B.int (n:=n) ⟨_,rfl⟩
 simp +decide only [bK,bE,Nat.reduceBeqDiff,BEq.rfl,Nat.reduceAdd,Nat.zero_add,f0,f1,hcv,run_rem hk]
 refine hK _ _ (zb fun σ3 hσ=>zbb ⟨.inr rfl,_,rfl,?_⟩)
 have g2:=hσ 2
 simp +decide only [bE,BEq.rfl,Nat.reduceAdd] at g2
 exact⟨g2,rfl⟩
theorem call_max {f:Nat} {k:Nat} (hf:FOk P f 1 (c_max k) [.var 1]) (w:World) (x:Value):Call P f #[x] w fun v w'=>v=.int .i16 k∧w'=w:=by
 refine hf.call rfl fun loc N' hlo=>?_
 unfold c_max
 refine zfp (by simp) ?_
 refine zaa fun K hK=>zao (hK _ _ ?_)
 refine zaa fun K hK=>zao (hK _ _ ?_)
 exact zaa fun K hK=>zbb ⟨.inr rfl,_,rfl,upd_same _ _ _,rfl⟩
theorem call_maxI (B:Base P N) {m:Msg} {fx:Bool} {d:zaax} (D:DoorT P N m fx d) {f mf k:Nat} (hmf:FOk P mf 1 (c_max k) [.var 1]) (hf:FOk P f 0 (c_maxI N m.pT d.newP mf) [.var 0]) (w:World) :
  Call P f #[] w fun v w'=>v=.int .i64 (IntKind.i64.wrap k)∧Mod w w' zy:=by
 refine hf.call rfl fun loc N' hlo=>?_
 unfold c_maxI
 refine zfp (by simp) ?_
 refine zaa fun K hK=>zao (hK _ _ ?_)
 clear hK K
 refine zaa fun K hK=>zi fun τ=>?_
 simp +decide only [bK,bE,BEq.rfl]
 rw[zlo D.newP.has]
 refine(call_new B D w).mono ?_
 rintro v w1 ⟨rfl,m1,_⟩
 have hcv:=fun {w:World}=>zat (P:=P) (w:=w) (k':=.i16) B.int16 B.int (n:=k) ⟨_,rfl⟩
 rw[zan hmf.has]
 simp +decide only [bK,bE,BEq.rfl]
 refine(call_max hmf w1 _).mono ?_
 rintro _ _ ⟨rfl,rfl⟩
 simp +decide only [bK,hcv]
 refine hK _ _ (zb fun σ3 hσ=>zaa fun K2 hK2=>zbb ⟨.inr rfl,_,rfl,?_⟩)
 have g2:=hσ 0
 simp +decide only [bE,BEq.rfl,Nat.zero_add] at g2
 exact⟨g2,m1⟩
end
section
variable {P:Program} {N:Nums}
end
section
variable {P:Program} {N:Nums}
end
section
open Go Go.RowKit Go.ChangeShapes Go.WideShapes
theorem octet_of {z:Int} (h:(Lit.int .u8 z).wf=true):Value.int .u8 z=zz (UInt8.ofNat z.toNat):=by
 have h2:0≤z∧z≤255:=by
  simp [Lit.wf,IntKind.min,IntKind.max,IntKind.signed,IntKind.bits] at h
  omega
 unfold zz
 congr 1
 rw[UInt8.toNat_ofNat']
 omega
theorem el_ti {P:Program} {N:Nums} {fx:Bool} (B:Base P N) (F:Fns P N) (e:El) (h:e.okB P N fx=true) (hd:e.dfs P N):∃ d by' z,TI P (e.ty N) d e.sz by' z:=by
 obtain⟨d,by',z,h,_⟩:=(El.ok_of B F e h hd).2.1
 exact⟨d,by',z,h⟩
end
structure zdd where
 zfx:Nat:=0
 zgt:Nat:=0
 zcr:Nat:=0
 zes:Nat:=0
 f_spec_Told:Nat:=0
 f_spec_Usual:Nat:=0
 zdh:Nat:=0
 znn:Nat:=0
 zib:Nat:=0
 zec:Nat:=0
 zjh:Nat:=0
 zjg:Nat:=0
 f_spec_number:Nat:=0
 zkj:Nat:=0
 zjy:Nat:=0
 f_spec_told:Nat:=0
 zix:Nat:=0
 zaab:Nat:=0
 zjf:Nat:=0
 zfm:Nat:=0
 zkw:Nat:=0
 zuk:Nat:=0
 zuj:Nat:=0
 zqp:Nat:=0
 zaz:Nat:=0
 zn:Nat:=0
 zam:Nat:=0
def zup (N:Nums) (M:zdd):C:=
 .seq (
 .ops [
 ⟨some (1+100),.box N.zal (V 0),0,none,[]⟩,
 ⟨some (2+100),.assign (.const (.bool false)),0,none,[]⟩]) (
 .seq (
 .seq (
 .ops [
 ⟨some 0,.fieldAddr N.zal (V 1) 1,0,none,[]⟩,
 ⟨some 1,.load N.za (T 0),0,none,[]⟩,
 ⟨some 2,.call ⟨.builtin .len,#[T 1],#[N.za]⟩,N.ze,none,[]⟩,
 ⟨some (3+100),.binOp .gtr N.ze (T 2) (.const (.int .i64 2147483647)) N.ze,0,none,[]⟩]) (
 .cond 3 (
 .seq (
 .ops [
 ⟨some (2+100),.assign (.const (.bool false)),0,none,[]⟩]) (
 .ret)) (
 .skip))) (
 .seq (
 .ops [
 ⟨some (2+100),.assign (.const (.bool true)),0,none,[]⟩]) (
 .ret)))
def zaaj (N:Nums) (M:zdd):C:=
 .seq (
 .ops [
 ⟨some (1+100),.assign (.const (.bool false)),0,none,[]⟩]) (
 .seq (
 .seq (
 .ops [
 ⟨some 0,.move (V 0),0,none,[]⟩,
 ⟨some 1,.call ⟨.builtin .len,#[T 0],#[N.zp]⟩,N.ze,none,[]⟩,
 ⟨some (2+100),.binOp .gtr N.ze (T 1) (.const (.int .i64 2147483647)) N.ze,0,none,[]⟩]) (
 .cond 2 (
 .seq (
 .ops [
 ⟨some (1+100),.assign (.const (.bool false)),0,none,[]⟩]) (
 .ret)) (
 .skip))) (
 .seq (
 .seq (
 .ops [
 ⟨some (3+100),.move (V 0),0,none,[]⟩,
 ⟨some (4+100),.call ⟨.builtin .len,#[V 3],#[N.zp]⟩,N.ze,none,[]⟩,
 ⟨some (5+100),.move (.const (.int .i64 0)),0,none,[]⟩]) (
 .block 0 (
 .loop (
 .seq (
 .ops [
 ⟨some (6+100),.binOp .lss N.ze (V 5) (V 4) N.ze,0,none,[]⟩]) (
 .seq (
 .cond 6 (
 .skip) (
 .exit 0)) (
 .seq (
 .block 1 (
 .seq (
 .ops [
 ⟨some 0,.indexAddr N.zp (V 3) (V 5),0,none,[]⟩,
 ⟨some 1,.load N.zal (T 0),0,none,[]⟩,
 ⟨some (7+100),.alloc N.zal,0,none,[]⟩,
 ⟨none,.store N.zal (V 7) (T 1),0,none,[]⟩]) (
 .seq (
 .ops [
 ⟨some 0,.load N.zal (V 7),0,none,[]⟩,
 ⟨some 1,.call ⟨.value (.func M.zqp),#[T 0],#[N.zal]⟩,N.zay,none,[]⟩,
 ⟨some (8+100),.unOp .not N.zay (T 1),0,none,[]⟩]) (
 .cond 8 (
 .seq (
 .ops [
 ⟨some (1+100),.assign (.const (.bool false)),0,none,[]⟩]) (
 .ret)) (
 .skip))))) (
 .ops [
 ⟨some 0,.binOp .add N.ze (V 5) (.const (.int .i64 1)) N.ze,0,none,[]⟩,
 ⟨some (5+100),.move (T 0),0,none,[]⟩]))))))) (
 .seq (
 .ops [
 ⟨some (1+100),.assign (.const (.bool true)),0,none,[]⟩]) (
 .ret))))
def zaak (N:Nums) (M:zdd):C:=
 .seq (
 .ops [
 ⟨some (1+100),.box N.zf (V 0),0,none,[]⟩,
 ⟨some (2+100),.assign (.const (.bool false)),0,none,[]⟩]) (
 .seq (
 .seq (
 .ops [
 ⟨some 0,.fieldAddr N.zf (V 1) 1,0,none,[]⟩,
 ⟨some 1,.load N.za (T 0),0,none,[]⟩,
 ⟨some 2,.call ⟨.builtin .len,#[T 1],#[N.za]⟩,N.ze,none,[]⟩,
 ⟨some (3+100),.binOp .gtr N.ze (T 2) (.const (.int .i64 2147483647)) N.ze,0,none,[]⟩]) (
 .cond 3 (
 .seq (
 .ops [
 ⟨some (2+100),.assign (.const (.bool false)),0,none,[]⟩]) (
 .ret)) (
 .skip))) (
 .seq (
 .seq (
 .ops [
 ⟨some 0,.fieldAddr N.zf (V 1) 3,0,none,[]⟩,
 ⟨some 1,.load N.zak (T 0),0,none,[]⟩,
 ⟨some 2,.call ⟨.builtin .len,#[T 1],#[N.zak]⟩,N.ze,none,[]⟩,
 ⟨some (4+100),.binOp .gtr N.ze (T 2) (.const (.int .i64 2147483647)) N.ze,0,none,[]⟩]) (
 .cond 4 (
 .seq (
 .ops [
 ⟨some (2+100),.assign (.const (.bool false)),0,none,[]⟩]) (
 .ret)) (
 .skip))) (
 .seq (
 .seq (
 .ops [
 ⟨some 0,.fieldAddr N.zf (V 1) 4,0,none,[]⟩,
 ⟨some 1,.load N.zp (T 0),0,none,[]⟩,
 ⟨some 2,.call ⟨.value (.func M.zuj),#[T 1],#[N.zp]⟩,N.zay,none,[]⟩,
 ⟨some (5+100),.unOp .not N.zay (T 2),0,none,[]⟩]) (
 .cond 5 (
 .seq (
 .ops [
 ⟨some (2+100),.assign (.const (.bool false)),0,none,[]⟩]) (
 .ret)) (
 .skip))) (
 .seq (
 .ops [
 ⟨some (2+100),.assign (.const (.bool true)),0,none,[]⟩]) (
 .ret)))))
def zjo (N:Nums) (M:zdd):C:=
 .seq (
 .ops [
 ⟨some (2+100),.box M.zn (V 0),0,none,[]⟩,
 ⟨some (3+100),.assign (.const (.bool false)),0,none,[]⟩]) (
 .seq (
 .ops [
 ⟨some 0,.fieldAddr M.zn (V 2) 1,0,none,[]⟩,
 ⟨some 1,.load N.ze (T 0),0,none,[]⟩,
 ⟨some 2,.move (V 1),0,none,[]⟩,
 ⟨some 3,.binOp .leq N.ze (T 1) (T 2) N.ze,0,none,[]⟩,
 ⟨some 4,.move (T 3),0,none,[]⟩,
 ⟨some 5,.fieldAddr M.zn (V 2) 2,0,(some (some 4,true)),[]⟩,
 ⟨some 6,.load N.ze (T 5),0,(some (some 4,true)),[]⟩,
 ⟨some 7,.binOp .lss N.ze (T 6) (.const (.int .i64 0)) N.ze,0,(some (some 4,true)),[]⟩,
 ⟨some 8,.move (T 7),0,(some (some 4,true)),[]⟩,
 ⟨some 9,.move (V 1),0,(some (some 8,false)),[]⟩,
 ⟨some 10,.fieldAddr M.zn (V 2) 2,0,(some (some 8,false)),[]⟩,
 ⟨some 11,.load N.ze (T 10),0,(some (some 8,false)),[]⟩,
 ⟨some 12,.binOp .leq N.ze (T 9) (T 11) N.ze,0,(some (some 8,false)),[]⟩,
 ⟨some 13,.pick (T 8) (.const (.bool true)) (T 12),0,(some (some 4,true)),[]⟩,
 ⟨some 14,.pick (T 4) (T 13) (.const (.bool false)),0,none,[]⟩,
 ⟨some (3+100),.assign (T 14),0,none,[]⟩]) (
 .ret))
def ziw (N:Nums) (M:zdd):C:=
 .seq (
 .ops [
 ⟨some (3+100),.box M.zn (V 0),0,none,[]⟩,
 ⟨some (4+100),.box N.zf (V 2),0,none,[]⟩,
 ⟨some (5+100),.assign (.const (.bool false)),0,none,[]⟩]) (
 .seq (
 .ops [
 ⟨some 0,.fieldAddr N.zf (V 4) 2,0,none,[]⟩,
 ⟨some 1,.load N.zay (T 0),0,none,[]⟩,
 ⟨some 2,.move (T 1),0,none,[]⟩,
 ⟨some 3,.fieldAddr M.zn (V 3) 3,0,(some (some 2,true)),[]⟩,
 ⟨some 4,.load N.ze (T 3),0,(some (some 2,true)),[]⟩,
 ⟨some 5,.binOp .geq N.ze (T 4) (.const (.int .i64 0)) N.ze,0,(some (some 2,true)),[]⟩,
 ⟨some 6,.pick (T 2) (T 5) (.const (.bool false)),0,none,[]⟩,
 ⟨some 7,.move (T 6),0,none,[]⟩,
 ⟨some 8,.move (V 1),0,(some (some 7,true)),[]⟩,
 ⟨some 9,.fieldAddr M.zn (V 3) 3,0,(some (some 7,true)),[]⟩,
 ⟨some 10,.load N.ze (T 9),0,(some (some 7,true)),[]⟩,
 ⟨some 11,.binOp .geq N.ze (T 8) (T 10) N.ze,0,(some (some 7,true)),[]⟩,
 ⟨some 12,.pick (T 7) (T 11) (.const (.bool false)),0,none,[]⟩,
 ⟨some (5+100),.assign (T 12),0,none,[]⟩]) (
 .ret))
def znt (N:Nums) (M:zdd):C:=
 .seq (
 .ops [
 ⟨some (1+100),.assign (.const (.slice none 0 0)),0,none,[]⟩]) (
 .seq (
 .ops [
 ⟨some 0,.move (V 0),0,none,[]⟩,
 ⟨some 1,.move (V 0),0,none,[]⟩,
 ⟨some 2,.call ⟨.builtin .len,#[T 1],#[N.za]⟩,N.ze,none,[]⟩,
 ⟨some 3,.call ⟨.builtin .min,#[(T 2),(.const (.int .i64 32767))],#[N.ze,N.ze]⟩,N.ze,none,[]⟩,
 ⟨some 4,.slice N.za (T 0) none (some (T 3)) none,0,none,[]⟩,
 ⟨some (1+100),.assign (T 4),0,none,[]⟩]) (
 .ret))
def zmo (N:Nums) (M:zdd):C:=
 .seq (
 .ops [
 ⟨some (1+100),.assign (.const (.slice none 0 0)),0,none,[]⟩]) (
 .seq (
 .ops [
 ⟨some 0,.move (V 0),0,none,[]⟩,
 ⟨some 1,.move (V 0),0,none,[]⟩,
 ⟨some 2,.call ⟨.builtin .len,#[T 1],#[N.zak]⟩,N.ze,none,[]⟩,
 ⟨some 3,.call ⟨.builtin .min,#[(T 2),(.const (.int .i64 32767))],#[N.ze,N.ze]⟩,N.ze,none,[]⟩,
 ⟨some 4,.slice N.zak (T 0) none (some (T 3)) none,0,none,[]⟩,
 ⟨some (1+100),.assign (T 4),0,none,[]⟩]) (
 .ret))
def zqr (N:Nums) (M:zdd):C:=
 .seq (
 .ops [
 ⟨some (2+100),.box N.zf (V 0),0,none,[]⟩,
 ⟨some (3+100),.alloc N.zf,0,none,[]⟩]) (
 .seq (
 .seq (
 .ops [
 ⟨some 0,.move (V 1),0,none,[]⟩,
 ⟨some 1,.fieldAddr N.zf (V 2) 3,0,none,[]⟩,
 ⟨some 2,.load N.zak (T 1),0,none,[]⟩,
 ⟨some 3,.call ⟨.builtin .len,#[T 2],#[N.zak]⟩,N.ze,none,[]⟩,
 ⟨some (4+100),.binOp .lss N.ze (T 0) (T 3) N.ze,0,none,[]⟩]) (
 .cond 4 (
 .seq (
 .ops [
 ⟨some 0,.fieldAddr N.zf (V 2) 3,0,none,[]⟩,
 ⟨some 1,.load N.zak (T 0),0,none,[]⟩,
 ⟨some 2,.move (V 1),0,none,[]⟩,
 ⟨some 3,.indexAddr N.zak (T 1) (T 2),0,none,[]⟩,
 ⟨some 4,.load N.zf (T 3),0,none,[]⟩,
 ⟨none,.store N.zf (V 3) (T 4),0,none,[]⟩]) (
 .ret)) (
 .skip))) (
 .seq (
 .ops [
 ⟨some 0,.build N.zf #[],0,none,[]⟩,
 ⟨none,.store N.zf (V 3) (T 0),0,none,[]⟩]) (
 .ret)))
def ziy (N:Nums) (M:zdd):C:=
 .seq (
 .ops [
 ⟨some (1+100),.assign (.const (.slice none 0 0)),0,none,[]⟩]) (
 .seq (
 .ops [
 ⟨some (2+100),.assign (.const (.slice none 0 0)),0,none,[]⟩]) (
 .seq (
 .block 0 (
 .loop (
 .seq (
 .seq (
 .ops [
 ⟨some 0,.move (V 0),0,none,[]⟩,
 ⟨some (3+100),.binOp .gtr N.zaj (T 0) (.const (.int .u64 127)) N.zaj,0,none,[]⟩]) (
 .cond 3 (
 .skip) (
 .exit 0))) (
 .block 1 (
 .seq (
 .ops [
 ⟨some 0,.move (V 2),0,none,[]⟩,
 ⟨some 1,.move (V 0),0,none,[]⟩,
 ⟨some 2,.binOp .and N.zaj (T 1) (.const (.int .u64 127)) N.zaj,0,none,[]⟩,
 ⟨some 3,.convert N.zaj N.zh (T 2),0,none,[]⟩,
 ⟨some 4,.binOp .or N.zh (T 3) (.const (.int .u8 128)) N.zh,0,none,[]⟩,
 ⟨some 5,.buildSlice N.za 1 #[(0,(T 4))],0,none,[]⟩,
 ⟨some 6,.call ⟨.builtin .append,#[T 0,T 5],#[N.za,N.za]⟩,N.za,none,[]⟩,
 ⟨some (2+100),.assign (T 6),0,none,[]⟩]) (
 .ops [
 ⟨some 0,.move (V 0),0,none,[]⟩,
 ⟨some 1,.binOp .shr N.zaj (T 0) (.const (.int .u64 7)) N.zcq,0,none,[]⟩,
 ⟨some (0+100),.assign (T 1),0,none,[]⟩])))))) (
 .seq (
 .ops [
 ⟨some 0,.move (V 2),0,none,[]⟩,
 ⟨some 1,.move (V 0),0,none,[]⟩,
 ⟨some 2,.convert N.zaj N.zh (T 1),0,none,[]⟩,
 ⟨some 3,.buildSlice N.za 1 #[(0,(T 2))],0,none,[]⟩,
 ⟨some 4,.call ⟨.builtin .append,#[T 0,T 3],#[N.za,N.za]⟩,N.za,none,[]⟩,
 ⟨some (1+100),.assign (T 4),0,none,[]⟩]) (
 .ret))))
def zho (N:Nums) (M:zdd):C:=
 .seq (
 .ops [
 ⟨some (2+100),.assign (.const (.slice none 0 0)),0,none,[]⟩]) (
 .seq (
 .ops [
 ⟨some (3+100),.assign (.const (.slice none 0 0)),0,none,[]⟩]) (
 .seq (
 .seq (
 .ops [
 ⟨some 0,.move (V 1),0,none,[]⟩,
 ⟨some 1,.binOp .sub N.ze (T 0) (.const (.int .i64 1)) N.ze,0,none,[]⟩,
 ⟨some (4+100),.assign (T 1),0,none,[]⟩]) (
 .block 0 (
 .loop (
 .seq (
 .seq (
 .ops [
 ⟨some 0,.move (V 4),0,none,[]⟩,
 ⟨some (5+100),.binOp .geq N.ze (T 0) (.const (.int .i64 0)) N.ze,0,none,[]⟩]) (
 .cond 5 (
 .skip) (
 .exit 0))) (
 .seq (
 .block 1 (
 .ops [
 ⟨some 0,.move (V 3),0,none,[]⟩,
 ⟨some 1,.move (V 0),0,none,[]⟩,
 ⟨some 2,.move (V 4),0,none,[]⟩,
 ⟨some 3,.binOp .mul N.ze (.const (.int .i64 8)) (T 2) N.ze,0,none,[]⟩,
 ⟨some 4,.binOp .shr N.zcv (T 1) (T 3) N.ze,0,none,[]⟩,
 ⟨some 5,.convert N.zcv N.zh (T 4),0,none,[]⟩,
 ⟨some 6,.buildSlice N.za 1 #[(0,(T 5))],0,none,[]⟩,
 ⟨some 7,.call ⟨.builtin .append,#[T 0,T 6],#[N.za,N.za]⟩,N.za,none,[]⟩,
 ⟨some (3+100),.assign (T 7),0,none,[]⟩])) (
 .ops [
 ⟨some 0,.move (V 4),0,none,[]⟩,
 ⟨some 1,.binOp .sub N.ze (T 0) (.const (.int .i64 1)) N.ze,0,none,[]⟩,
 ⟨some (4+100),.assign (T 1),0,none,[]⟩])))))) (
 .seq (
 .ops [
 ⟨some 0,.move (V 3),0,none,[]⟩,
 ⟨some (2+100),.assign (T 0),0,none,[]⟩]) (
 .ret))))
def zns (N:Nums) (M:zdd):C:=
 .seq (
 .ops [
 ⟨some (1+100),.assign (.const (.int .i64 0)),0,none,[]⟩]) (
 .seq (
 .seq (
 .ops [
 ⟨some (2+100),.move (V 0),0,none,[]⟩]) (
 .block 0 (
 .seq (
 .ops [
 ⟨some 0,.binOp .eql N.ze (V 2) (.const (.int .i64 1)) N.ze,0,none,[]⟩,
 ⟨some (3+100),.assign (T 0),0,none,[]⟩]) (
 .cond 3 (
 .seq (
 .ops [
 ⟨some (1+100),.assign (.const (.int .i64 1)),0,none,[]⟩]) (
 .ret)) (
 .seq (
 .seq (
 .ops [
 ⟨some 0,.binOp .eql N.ze (V 2) (.const (.int .i64 2)) N.ze,0,none,[]⟩,
 ⟨some (4+100),.assign (T 0),0,none,[]⟩]) (
 .cond 4 (
 .skip) (
 .ops [
 ⟨some 0,.binOp .eql N.ze (V 2) (.const (.int .i64 5)) N.ze,0,none,[]⟩,
 ⟨some (4+100),.assign (T 0),0,none,[]⟩]))) (
 .cond 4 (
 .seq (
 .ops [
 ⟨some (1+100),.assign (.const (.int .i64 2)),0,none,[]⟩]) (
 .ret)) (
 .seq (
 .ops [
 ⟨some 0,.binOp .eql N.ze (V 2) (.const (.int .i64 3)) N.ze,0,none,[]⟩,
 ⟨some (5+100),.assign (T 0),0,none,[]⟩]) (
 .cond 5 (
 .seq (
 .ops [
 ⟨some (1+100),.assign (.const (.int .i64 4)),0,none,[]⟩]) (
 .ret)) (
 .skip))))))))) (
 .seq (
 .ops [
 ⟨some (1+100),.assign (.const (.int .i64 8)),0,none,[]⟩]) (
 .ret)))
def zlk (N:Nums) (M:zdd):C:=
 .seq (
 .ops [
 ⟨some (4+100),.assign (.const (.slice none 0 0)),0,none,[]⟩]) (
 .seq (
 .block 0 (
 .seq (
 .ops [
 ⟨some 0,.move (V 0),0,none,[]⟩,
 ⟨some 1,.move (T 0),0,none,[]⟩,
 ⟨some 2,.move (V 1),0,(some (some 1,true)),[]⟩,
 ⟨some 3,.pick (T 1) (T 2) (.const (.bool false)),0,none,[]⟩,
 ⟨some (5+100),.assign (T 3),0,none,[]⟩]) (
 .cond 5 (
 .seq (
 .ops [
 ⟨some 0,.buildSlice N.za 1 #[(0,(.const (.int .u8 0)))],0,none,[]⟩,
 ⟨some (4+100),.assign (T 0),0,none,[]⟩]) (
 .ret)) (
 .seq (
 .ops [
 ⟨some 0,.move (V 0),0,none,[]⟩,
 ⟨some (6+100),.assign (T 0),0,none,[]⟩]) (
 .cond 6 (
 .seq (
 .ops [
 ⟨some 0,.move (V 2),0,none,[]⟩,
 ⟨some 1,.convert N.ze N.zaj (T 0),0,none,[]⟩,
 ⟨some 2,.binOp .add N.zaj (T 1) (.const (.int .u64 1)) N.zaj,0,none,[]⟩,
 ⟨some 3,.call ⟨.value (.func M.zdh),#[T 2],#[N.zaj]⟩,N.za,none,[]⟩,
 ⟨some (4+100),.assign (T 3),0,none,[]⟩]) (
 .ret)) (
 .seq (
 .ops [
 ⟨some 0,.move (V 1),0,none,[]⟩,
 ⟨some (7+100),.assign (T 0),0,none,[]⟩]) (
 .cond 7 (
 .seq (
 .ops [
 ⟨some 0,.move (V 3),0,none,[]⟩,
 ⟨some 1,.call ⟨.value (.func M.zcr),#[(.const (.int .i64 (-1))),(T 0)],#[N.zcv,N.ze]⟩,N.za,none,[]⟩,
 ⟨some (4+100),.assign (T 1),0,none,[]⟩]) (
 .ret)) (
 .skip)))))))) (
 .seq (
 .ops [
 ⟨some 0,.move (V 2),0,none,[]⟩,
 ⟨some 1,.move (V 3),0,none,[]⟩,
 ⟨some 2,.call ⟨.value (.func M.zcr),#[T 0,T 1],#[N.zcv,N.ze]⟩,N.za,none,[]⟩,
 ⟨some (4+100),.assign (T 2),0,none,[]⟩]) (
 .ret)))
def zsi (N:Nums) (M:zdd):C:=
 .seq (
 .ops [
 ⟨some (6+100),.box N.zf (V 5),0,none,[]⟩,
 ⟨some (7+100),.assign (.const (.slice none 0 0)),0,none,[]⟩]) (
 .seq (
 .seq (
 .ops [
 ⟨some (8+100),.move (V 0),0,none,[]⟩]) (
 .block 0 (
 .seq (
 .ops [
 ⟨some 0,.binOp .eql N.ze (V 8) (.const (.int .i64 0)) N.ze,0,none,[]⟩,
 ⟨some (9+100),.assign (T 0),0,none,[]⟩]) (
 .cond 9 (
 .seq (
 .ops [
 ⟨some 0,.fieldAddr N.zf (V 6) 0,0,none,[]⟩,
 ⟨some 1,.load N.zcv (T 0),0,none,[]⟩,
 ⟨some 2,.binOp .and N.zcv (T 1) (.const (.int .i64 1)) N.zcv,0,none,[]⟩,
 ⟨some 3,.convert N.zcv N.zh (T 2),0,none,[]⟩,
 ⟨some 4,.buildSlice N.za 1 #[(0,(T 3))],0,none,[]⟩,
 ⟨some (7+100),.assign (T 4),0,none,[]⟩]) (
 .ret)) (
 .seq (
 .ops [
 ⟨some 0,.binOp .eql N.ze (V 8) (.const (.int .i64 7)) N.ze,0,none,[]⟩,
 ⟨some (10+100),.assign (T 0),0,none,[]⟩]) (
 .cond 10 (
 .seq (
 .ops [
 ⟨some 0,.makeSlice N.za (.const (.int .i64 16)) (.const (.int .i64 16)),0,none,[]⟩,
 ⟨some (11+100),.assign (T 0),0,none,[]⟩]) (
 .seq (
 .ops [
 ⟨some 0,.move (V 11),0,none,[]⟩,
 ⟨some 1,.fieldAddr N.zf (V 6) 1,0,none,[]⟩,
 ⟨some 2,.load N.za (T 1),0,none,[]⟩,
 ⟨some 3,.call ⟨.builtin .copy,#[T 0,T 2],#[N.za,N.za]⟩,N.ze,none,[]⟩]) (
 .seq (
 .ops [
 ⟨some 0,.move (V 11),0,none,[]⟩,
 ⟨some (7+100),.assign (T 0),0,none,[]⟩]) (
 .ret)))) (
 .seq (
 .ops [
 ⟨some 0,.binOp .eql N.ze (V 8) (.const (.int .i64 8)) N.ze,0,none,[]⟩,
 ⟨some (12+100),.assign (T 0),0,none,[]⟩]) (
 .cond 12 (
 .seq (
 .ops [
 ⟨some 0,.fieldAddr N.zf (V 6) 1,0,none,[]⟩,
 ⟨some 1,.load N.za (T 0),0,none,[]⟩,
 ⟨some 2,.call ⟨.value (.func M.zfm),#[T 1],#[N.za]⟩,N.za,none,[]⟩,
 ⟨some (13+100),.assign (T 2),0,none,[]⟩]) (
 .seq (
 .seq (
 .ops [
 ⟨some (14+100),.move (V 2),0,none,[]⟩]) (
 .cond 14 (
 .ops [
 ⟨some (13+100),.assign (.const (.slice none 0 0)),0,none,[]⟩]) (
 .skip))) (
 .seq (
 .ops [
 ⟨some 0,.move (V 4),0,none,[]⟩,
 ⟨some 1,.move (V 2),0,none,[]⟩,
 ⟨some 2,.move (V 13),0,none,[]⟩,
 ⟨some 3,.call ⟨.builtin .len,#[T 2],#[N.za]⟩,N.ze,none,[]⟩,
 ⟨some 4,.call ⟨.value (.func M.zec),#[(T 0),(T 1),(T 3),(.const (.int .i64 2))],#[N.zay,N.zay,N.ze,N.ze]⟩,N.za,none,[]⟩,
 ⟨some 5,.move (V 13),0,none,[]⟩,
 ⟨some 6,.call ⟨.builtin .append,#[T 4,T 5],#[N.za,N.za]⟩,N.za,none,[]⟩,
 ⟨some (7+100),.assign (T 6),0,none,[]⟩]) (
 .ret)))) (
 .seq (
 .ops [
 ⟨some 0,.binOp .eql N.ze (V 8) (.const (.int .i64 9)) N.ze,0,none,[]⟩,
 ⟨some (15+100),.assign (T 0),0,none,[]⟩]) (
 .cond 15 (
 .seq (
 .ops [
 ⟨some 0,.fieldAddr N.zf (V 6) 1,0,none,[]⟩,
 ⟨some 1,.load N.za (T 0),0,none,[]⟩,
 ⟨some 2,.call ⟨.value (.func M.zfm),#[T 1],#[N.za]⟩,N.za,none,[]⟩,
 ⟨some (16+100),.assign (T 2),0,none,[]⟩]) (
 .seq (
 .seq (
 .ops [
 ⟨some (17+100),.move (V 2),0,none,[]⟩]) (
 .cond 17 (
 .ops [
 ⟨some (16+100),.assign (.const (.slice none 0 0)),0,none,[]⟩]) (
 .skip))) (
 .seq (
 .ops [
 ⟨some 0,.move (V 4),0,none,[]⟩,
 ⟨some 1,.move (V 2),0,none,[]⟩,
 ⟨some 2,.move (V 16),0,none,[]⟩,
 ⟨some 3,.call ⟨.builtin .len,#[T 2],#[N.za]⟩,N.ze,none,[]⟩,
 ⟨some 4,.call ⟨.value (.func M.zec),#[(T 0),(T 1),(T 3),(.const (.int .i64 4))],#[N.zay,N.zay,N.ze,N.ze]⟩,N.za,none,[]⟩,
 ⟨some 5,.move (V 16),0,none,[]⟩,
 ⟨some 6,.call ⟨.builtin .append,#[T 4,T 5],#[N.za,N.za]⟩,N.za,none,[]⟩,
 ⟨some (7+100),.assign (T 6),0,none,[]⟩]) (
 .ret)))) (
 .seq (
 .ops [
 ⟨some 0,.binOp .eql N.ze (V 8) (.const (.int .i64 10)) N.ze,0,none,[]⟩,
 ⟨some (18+100),.assign (T 0),0,none,[]⟩]) (
 .cond 18 (
 .seq (
 .ops [
 ⟨some 0,.move (V 1),0,none,[]⟩,
 ⟨some 1,.move (V 3),0,none,[]⟩,
 ⟨some 2,.move (V 4),0,none,[]⟩,
 ⟨some 3,.load N.zf (V 6),0,none,[]⟩,
 ⟨some 4,.call ⟨.value (.func M.zkj),#[T 0,T 1,T 2,T 3],#[M.zaz,N.ze,N.zay,N.zf]⟩,N.za,none,[]⟩,
 ⟨some (7+100),.assign (T 4),0,none,[]⟩]) (
 .ret)) (
 .skip))))))))))))) (
 .seq (
 .draw [
 ⟨some 0,.fieldAddr N.zf (V 6) 0,0,none,[]⟩,
 ⟨some 1,.load N.zcv (T 0),0,none,[0]⟩,
 ⟨some 2,.move (V 0),0,none,[]⟩,
 ⟨some 3,.call ⟨.value (.func M.zkw),#[T 2],#[N.ze]⟩,N.ze,none,[2]⟩,
 ⟨some 4,.call ⟨.value (.func M.zcr),#[T 1,T 3],#[N.zcv,N.ze]⟩,N.za,none,[1,3,3]⟩,
 ⟨some (7+100),.assign (T 4),0,none,[4,4,0,1,2,3,4]⟩]) (
 .ret)))
def zsj (N:Nums) (M:zdd):C:=
 .seq (
 .ops [
 ⟨some (4+100),.box M.zn (V 0),0,none,[]⟩,
 ⟨some (5+100),.box N.zf (V 3),0,none,[]⟩,
 ⟨some (6+100),.assign (.const (.slice none 0 0)),0,none,[]⟩]) (
 .seq (
 .ops [
 ⟨some 0,.load M.zn (V 4),0,none,[]⟩,
 ⟨some 1,.move (V 1),0,none,[]⟩,
 ⟨some 2,.load N.zf (V 5),0,none,[]⟩,
 ⟨some 3,.call ⟨.value (.func M.zgt),#[T 0,T 1,T 2],#[M.zn,N.ze,N.zf]⟩,N.zay,none,[]⟩,
 ⟨some (7+100),.assign (T 3),0,none,[]⟩]) (
 .seq (
 .seq (
 .ops [
 ⟨some 0,.fieldAddr M.zn (V 4) 0,0,none,[]⟩,
 ⟨some 1,.load N.ze (T 0),0,none,[]⟩,
 ⟨some (8+100),.binOp .eql N.ze (T 1) (.const (.int .i64 11)) N.ze,0,none,[]⟩]) (
 .cond 8 (
 .seq (
 .ops [
 ⟨some 0,.fieldAddr N.zf (V 5) 3,0,none,[]⟩,
 ⟨some 1,.load N.zak (T 0),0,none,[]⟩,
 ⟨some 2,.call ⟨.value (.func M.zjy),#[T 1],#[N.zak]⟩,N.zak,none,[]⟩,
 ⟨some (9+100),.assign (T 2),0,none,[]⟩]) (
 .seq (
 .seq (
 .ops [
 ⟨some (10+100),.move (V 7),0,none,[]⟩]) (
 .cond 10 (
 .ops [
 ⟨some (9+100),.assign (.const (.slice none 0 0)),0,none,[]⟩]) (
 .skip))) (
 .seq (
 .ops [
 ⟨some 0,.move (V 2),0,none,[]⟩,
 ⟨some 1,.move (V 7),0,none,[]⟩,
 ⟨some 2,.move (V 9),0,none,[]⟩,
 ⟨some 3,.call ⟨.builtin .len,#[T 2],#[N.zak]⟩,N.ze,none,[]⟩,
 ⟨some 4,.call ⟨.value (.func M.zec),#[(T 0),(T 1),(T 3),(.const (.int .i64 4))],#[N.zay,N.zay,N.ze,N.ze]⟩,N.za,none,[]⟩,
 ⟨some (11+100),.assign (T 4),0,none,[]⟩]) (
 .seq (
 .seq (
 .ops [
 ⟨some 0,.move (V 9),0,none,[]⟩,
 ⟨some (12+100),.call ⟨.builtin .len,#[T 0],#[N.zak]⟩,N.ze,none,[]⟩,
 ⟨some (13+100),.move (.const (.int .i64 0)),0,none,[]⟩]) (
 .block 0 (
 .loop (
 .seq (
 .ops [
 ⟨some (14+100),.binOp .lss N.ze (V 13) (V 12) N.ze,0,none,[]⟩]) (
 .seq (
 .cond 14 (
 .skip) (
 .exit 0)) (
 .seq (
 .block 1 (
 .seq (
 .ops [
 ⟨some 0,.move (V 13),0,none,[]⟩,
 ⟨some (15+100),.assign (T 0),0,none,[]⟩]) (
 .draw [
 ⟨some 0,.move (V 11),0,none,[]⟩,
 ⟨some 1,.fieldAddr M.zn (V 4) 6,0,none,[]⟩,
 ⟨some 2,.load N.ze (T 1),0,none,[1]⟩,
 ⟨some 3,.fieldAddr M.zn (V 4) 7,0,none,[]⟩,
 ⟨some 4,.load M.zaz (T 3),0,none,[3]⟩,
 ⟨some 5,.move (V 1),0,none,[]⟩,
 ⟨some 6,.move (V 2),0,none,[]⟩,
 ⟨some 7,.move (V 9),0,none,[]⟩,
 ⟨some 8,.move (V 15),0,none,[]⟩,
 ⟨some 9,.indexAddr N.zak (T 7) (T 8),0,none,[7,8]⟩,
 ⟨some 10,.load N.zf (T 9),0,none,[9]⟩,
 ⟨some 11,.call ⟨.value (.func M.zjf),#[(T 2),(T 4),(.const (.bool false)),(T 5),(T 6),(T 10)],#[N.ze,M.zaz,N.zay,N.ze,N.zay,N.zf]⟩,N.za,none,[2,4,5,6,10]⟩,
 ⟨some 12,.call ⟨.builtin .append,#[T 0,T 11],#[N.za,N.za]⟩,N.za,none,[0,11,11]⟩,
 ⟨some (11+100),.assign (T 12),0,none,[12,12,0,1,2,3,4,5,6,7,8,9,10,11,12]⟩]))) (
 .ops [
 ⟨some 0,.binOp .add N.ze (V 13) (.const (.int .i64 1)) N.ze,0,none,[]⟩,
 ⟨some (13+100),.move (T 0),0,none,[]⟩]))))))) (
 .seq (
 .ops [
 ⟨some 0,.move (V 11),0,none,[]⟩,
 ⟨some (6+100),.assign (T 0),0,none,[]⟩]) (
 .ret)))))) (
 .skip))) (
 .seq (
 .seq (
 .ops [
 ⟨some 0,.fieldAddr M.zn (V 4) 0,0,none,[]⟩,
 ⟨some 1,.load N.ze (T 0),0,none,[]⟩,
 ⟨some 2,.binOp .eql N.ze (T 1) (.const (.int .i64 10)) N.ze,0,none,[]⟩,
 ⟨some 3,.move (T 2),0,none,[]⟩,
 ⟨some 4,.fieldAddr M.zn (V 4) 3,0,(some (some 3,true)),[]⟩,
 ⟨some 5,.load N.ze (T 4),0,(some (some 3,true)),[]⟩,
 ⟨some 6,.binOp .geq N.ze (T 5) (.const (.int .i64 0)) N.ze,0,(some (some 3,true)),[]⟩,
 ⟨some (16+100),.pick (T 3) (T 6) (.const (.bool false)),0,none,[]⟩]) (
 .cond 16 (
 .seq (
 .seq (
 .ops [
 ⟨some (17+100),.move (V 7),0,none,[]⟩]) (
 .cond 17 (
 .seq (
 .ops [
 ⟨some 0,.call ⟨.value (.func M.zcr),#[(.const (.int .i64 (-1))),(.const (.int .i64 1))],#[N.zcv,N.ze]⟩,N.za,none,[]⟩,
 ⟨some (6+100),.assign (T 0),0,none,[]⟩]) (
 .ret)) (
 .skip))) (
 .seq (
 .draw [
 ⟨some 0,.call ⟨.value (.func M.zcr),#[(.const (.int .i64 1)),(.const (.int .i64 1))],#[N.zcv,N.ze]⟩,N.za,none,[]⟩,
 ⟨some 1,.fieldAddr M.zn (V 4) 7,0,none,[]⟩,
 ⟨some 2,.load M.zaz (T 1),0,none,[1]⟩,
 ⟨some 3,.move (V 1),0,none,[]⟩,
 ⟨some 4,.move (V 2),0,none,[]⟩,
 ⟨some 5,.load N.zf (V 5),0,none,[]⟩,
 ⟨some 6,.call ⟨.value (.func M.zkj),#[T 2,T 3,T 4,T 5],#[M.zaz,N.ze,N.zay,N.zf]⟩,N.za,none,[2,3,4,5,0]⟩,
 ⟨some 7,.call ⟨.builtin .append,#[T 0,T 6],#[N.za,N.za]⟩,N.za,none,[0,6,6]⟩,
 ⟨some (6+100),.assign (T 7),0,none,[7,7,0,1,2,3,4,5,6,7]⟩]) (
 .ret))) (
 .skip))) (
 .seq (
 .ops [
 ⟨some 0,.fieldAddr M.zn (V 4) 0,0,none,[]⟩,
 ⟨some 1,.load N.ze (T 0),0,none,[]⟩,
 ⟨some 2,.fieldAddr M.zn (V 4) 7,0,none,[]⟩,
 ⟨some 3,.load M.zaz (T 2),0,none,[]⟩,
 ⟨some 4,.move (V 7),0,none,[]⟩,
 ⟨some 5,.move (V 1),0,none,[]⟩,
 ⟨some 6,.move (V 2),0,none,[]⟩,
 ⟨some 7,.load N.zf (V 5),0,none,[]⟩,
 ⟨some 8,.call ⟨.value (.func M.zjf),#[T 1,T 3,T 4,T 5,T 6,T 7],#[N.ze,M.zaz,N.zay,N.ze,N.zay,N.zf]⟩,N.za,none,[]⟩,
 ⟨some (6+100),.assign (T 8),0,none,[]⟩]) (
 .ret)))))
def znu (N:Nums) (M:zdd):C:=
 .seq (
 .ops [
 ⟨some (1+100),.assign (.const (.int .u32 0)),0,none,[]⟩]) (
 .seq (
 .ops [
 ⟨some (2+100),.assign (.const (.int .u32 0)),0,none,[]⟩]) (
 .seq (
 .seq (
 .ops [
 ⟨some (3+100),.move (V 0),0,none,[]⟩,
 ⟨some (4+100),.call ⟨.builtin .len,#[V 3],#[M.zaz]⟩,N.ze,none,[]⟩,
 ⟨some (5+100),.move (.const (.int .i64 0)),0,none,[]⟩]) (
 .block 0 (
 .loop (
 .seq (
 .ops [
 ⟨some (6+100),.binOp .lss N.ze (V 5) (V 4) N.ze,0,none,[]⟩]) (
 .seq (
 .cond 6 (
 .skip) (
 .exit 0)) (
 .seq (
 .block 1 (
 .seq (
 .ops [
 ⟨some 0,.indexAddr M.zaz (V 3) (V 5),0,none,[]⟩,
 ⟨some 1,.load M.zn (T 0),0,none,[]⟩,
 ⟨some (7+100),.alloc M.zn,0,none,[]⟩,
 ⟨none,.store M.zn (V 7) (T 1),0,none,[]⟩]) (
 .seq (
 .ops [
 ⟨some 0,.fieldAddr M.zn (V 7) 4,0,none,[]⟩,
 ⟨some 1,.load N.ze (T 0),0,none,[]⟩,
 ⟨some (8+100),.binOp .geq N.ze (T 1) (.const (.int .i64 0)) N.ze,0,none,[]⟩]) (
 .cond 8 (
 .ops [
 ⟨some 0,.move (V 2),0,none,[]⟩,
 ⟨some 1,.fieldAddr M.zn (V 7) 4,0,none,[]⟩,
 ⟨some 2,.load N.ze (T 1),0,none,[]⟩,
 ⟨some 3,.convert N.ze N.zc (T 2),0,none,[]⟩,
 ⟨some 4,.binOp .add N.zc (T 3) (.const (.int .u32 1)) N.zc,0,none,[]⟩,
 ⟨some 5,.call ⟨.builtin .max,#[T 0,T 4],#[N.zc,N.zc]⟩,N.zc,none,[]⟩,
 ⟨some (2+100),.assign (T 5),0,none,[]⟩]) (
 .skip))))) (
 .ops [
 ⟨some 0,.binOp .add N.ze (V 5) (.const (.int .i64 1)) N.ze,0,none,[]⟩,
 ⟨some (5+100),.move (T 0),0,none,[]⟩]))))))) (
 .seq (
 .ops [
 ⟨some 0,.move (V 2),0,none,[]⟩,
 ⟨some (1+100),.assign (T 0),0,none,[]⟩]) (
 .ret))))
def zpf (N:Nums) (M:zdd):C:=
 .seq (
 .ops [
 ⟨some (2+100),.assign (.const (.slice none 0 0)),0,none,[]⟩]) (
 .seq (
 .ops [
 ⟨some 0,.move (V 0),0,none,[]⟩,
 ⟨some 1,.call ⟨.value (.func M.zjg),#[T 0],#[M.zaz]⟩,N.zc,none,[]⟩,
 ⟨some (3+100),.assign (T 1),0,none,[]⟩]) (
 .seq (
 .ops [
 ⟨some (4+100),.assign (.const (.slice none 0 0)),0,none,[]⟩]) (
 .seq (
 .seq (
 .ops [
 ⟨some 0,.move (V 1),0,none,[]⟩,
 ⟨some 1,.move (V 1),0,none,[]⟩,
 ⟨some 2,.call ⟨.builtin .len,#[T 1],#[N.zp]⟩,N.ze,none,[]⟩,
 ⟨some 3,.call ⟨.builtin .min,#[(T 2),(.const (.int .i64 32767))],#[N.ze,N.ze]⟩,N.ze,none,[]⟩,
 ⟨some (5+100),.slice N.zp (T 0) none (some (T 3)) none,0,none,[]⟩,
 ⟨some (6+100),.call ⟨.builtin .len,#[V 5],#[N.zp]⟩,N.ze,none,[]⟩,
 ⟨some (7+100),.move (.const (.int .i64 0)),0,none,[]⟩]) (
 .block 0 (
 .loop (
 .seq (
 .ops [
 ⟨some (8+100),.binOp .lss N.ze (V 7) (V 6) N.ze,0,none,[]⟩]) (
 .seq (
 .cond 8 (
 .skip) (
 .exit 0)) (
 .seq (
 .block 1 (
 .seq (
 .ops [
 ⟨some 0,.indexAddr N.zp (V 5) (V 7),0,none,[]⟩,
 ⟨some 1,.load N.zal (T 0),0,none,[]⟩,
 ⟨some (9+100),.alloc N.zal,0,none,[]⟩,
 ⟨none,.store N.zal (V 9) (T 1),0,none,[]⟩]) (
 .seq (
 .ops [
 ⟨some (10+100),.assign (.const (.int .i64 0)),0,none,[]⟩]) (
 .seq (
 .block 2 (
 .loop (
 .seq (
 .seq (
 .draw [
 ⟨some 0,.move (V 10),0,none,[]⟩,
 ⟨some 1,.move (V 4),0,none,[]⟩,
 ⟨some 2,.call ⟨.builtin .len,#[T 1],#[N.zp]⟩,N.ze,none,[1]⟩,
 ⟨some 3,.binOp .lss N.ze (T 0) (T 2) N.ze,0,none,[0,2]⟩,
 ⟨some 4,.move (T 3),0,none,[3]⟩,
 ⟨some 5,.move (V 4),0,(some (some 4,true)),[4]⟩,
 ⟨some 6,.move (V 10),0,(some (some 4,true)),[4]⟩,
 ⟨some 7,.indexAddr N.zp (T 5) (T 6),0,(some (some 4,true)),[5,6,4]⟩,
 ⟨some 8,.fieldAddr N.zal (T 7) 0,0,(some (some 4,true)),[7,4]⟩,
 ⟨some 9,.load N.zc (T 8),0,(some (some 4,true)),[8,4]⟩,
 ⟨some 10,.fieldAddr N.zal (V 9) 0,0,(some (some 4,true)),[4]⟩,
 ⟨some 11,.load N.zc (T 10),0,(some (some 4,true)),[10,4]⟩,
 ⟨some 12,.binOp .lss N.zc (T 9) (T 11) N.zc,0,(some (some 4,true)),[9,11,4]⟩,
 ⟨some (11+100),.pick (T 4) (T 12) (.const (.bool false)),0,none,[4,12]⟩]) (
 .cond 11 (
 .skip) (
 .exit 2))) (
 .block 3 (
 .ops [
 ⟨some 0,.move (V 10),0,none,[]⟩,
 ⟨some 1,.binOp .add N.ze (T 0) (.const (.int .i64 1)) N.ze,0,none,[]⟩,
 ⟨some (10+100),.assign (T 1),0,none,[]⟩]))))) (
 .seq (
 .seq (
 .draw [
 ⟨some 0,.fieldAddr N.zal (V 9) 0,0,none,[]⟩,
 ⟨some 1,.load N.zc (T 0),0,none,[0]⟩,
 ⟨some 2,.move (V 3),0,none,[]⟩,
 ⟨some 3,.binOp .lss N.zc (T 1) (T 2) N.zc,0,none,[1,2]⟩,
 ⟨some 4,.move (T 3),0,none,[3]⟩,
 ⟨some 5,.move (V 10),0,(some (some 4,false)),[4]⟩,
 ⟨some 6,.move (V 4),0,(some (some 4,false)),[4]⟩,
 ⟨some 7,.call ⟨.builtin .len,#[T 6],#[N.zp]⟩,N.ze,(some (some 4,false)),[6,4]⟩,
 ⟨some 8,.binOp .lss N.ze (T 5) (T 7) N.ze,0,(some (some 4,false)),[5,7,4]⟩,
 ⟨some 9,.move (T 8),0,(some (some 4,false)),[8,4,4]⟩,
 ⟨some 10,.move (V 4),0,(some (some 9,true)),[9]⟩,
 ⟨some 11,.move (V 10),0,(some (some 9,true)),[9]⟩,
 ⟨some 12,.indexAddr N.zp (T 10) (T 11),0,(some (some 9,true)),[10,11,9]⟩,
 ⟨some 13,.fieldAddr N.zal (T 12) 0,0,(some (some 9,true)),[12,9]⟩,
 ⟨some 14,.load N.zc (T 13),0,(some (some 9,true)),[13,9]⟩,
 ⟨some 15,.fieldAddr N.zal (V 9) 0,0,(some (some 9,true)),[9]⟩,
 ⟨some 16,.load N.zc (T 15),0,(some (some 9,true)),[15,9]⟩,
 ⟨some 17,.binOp .eql N.zc (T 14) (T 16) N.zc,0,(some (some 9,true)),[14,16,9]⟩,
 ⟨some 18,.pick (T 9) (T 17) (.const (.bool false)),0,(some (some 4,false)),[9,17,4]⟩,
 ⟨some (12+100),.pick (T 4) (.const (.bool true)) (T 18),0,none,[4,18]⟩]) (
 .cond 12 (
 .exit 1) (
 .skip))) (
 .seq (
 .ops [
 ⟨some 0,.move (V 4),0,none,[]⟩,
 ⟨some 1,.build N.zal #[],0,none,[]⟩,
 ⟨some 2,.buildSlice N.zp 1 #[(0,(T 1))],0,none,[]⟩,
 ⟨some 3,.call ⟨.builtin .append,#[T 0,T 2],#[N.zp,N.zp]⟩,N.zp,none,[]⟩,
 ⟨some (4+100),.assign (T 3),0,none,[]⟩]) (
 .seq (
 .seq (
 .ops [
 ⟨some 0,.move (V 4),0,none,[]⟩,
 ⟨some 1,.call ⟨.builtin .len,#[T 0],#[N.zp]⟩,N.ze,none,[]⟩,
 ⟨some 2,.binOp .sub N.ze (T 1) (.const (.int .i64 1)) N.ze,0,none,[]⟩,
 ⟨some (13+100),.assign (T 2),0,none,[]⟩]) (
 .block 4 (
 .loop (
 .seq (
 .seq (
 .ops [
 ⟨some 0,.move (V 13),0,none,[]⟩,
 ⟨some 1,.move (V 10),0,none,[]⟩,
 ⟨some (14+100),.binOp .gtr N.ze (T 0) (T 1) N.ze,0,none,[]⟩]) (
 .cond 14 (
 .skip) (
 .exit 4))) (
 .seq (
 .block 5 (
 .ops [
 ⟨some 0,.move (V 4),0,none,[]⟩,
 ⟨some 1,.move (V 13),0,none,[]⟩,
 ⟨some 2,.move (V 4),0,none,[]⟩,
 ⟨some 3,.move (V 13),0,none,[]⟩,
 ⟨some 4,.binOp .sub N.ze (T 3) (.const (.int .i64 1)) N.ze,0,none,[]⟩,
 ⟨some 5,.indexAddr N.zp (T 2) (T 4),0,none,[]⟩,
 ⟨some 6,.load N.zal (T 5),0,none,[]⟩,
 ⟨some 7,.indexAddr N.zp (T 0) (T 1),0,none,[]⟩,
 ⟨none,.store N.zal (T 7) (T 6),0,none,[]⟩])) (
 .ops [
 ⟨some 0,.move (V 13),0,none,[]⟩,
 ⟨some 1,.binOp .sub N.ze (T 0) (.const (.int .i64 1)) N.ze,0,none,[]⟩,
 ⟨some (13+100),.assign (T 1),0,none,[]⟩])))))) (
 .ops [
 ⟨some 0,.move (V 4),0,none,[]⟩,
 ⟨some 1,.move (V 10),0,none,[]⟩,
 ⟨some 2,.load N.zal (V 9),0,none,[]⟩,
 ⟨some 3,.indexAddr N.zp (T 0) (T 1),0,none,[]⟩,
 ⟨none,.store N.zal (T 3) (T 2),0,none,[]⟩])))))))) (
 .ops [
 ⟨some 0,.binOp .add N.ze (V 7) (.const (.int .i64 1)) N.ze,0,none,[]⟩,
 ⟨some (7+100),.move (T 0),0,none,[]⟩]))))))) (
 .seq (
 .ops [
 ⟨some 0,.move (V 4),0,none,[]⟩,
 ⟨some (2+100),.assign (T 0),0,none,[]⟩]) (
 .ret)))))
def zuq (N:Nums) (M:zdd):C:=
 .seq (
 .ops [
 ⟨some (4+100),.box N.zf (V 3),0,none,[]⟩,
 ⟨some (5+100),.assign (.const (.slice none 0 0)),0,none,[]⟩]) (
 .seq (
 .ops [
 ⟨some (6+100),.assign (.const (.slice none 0 0)),0,none,[]⟩,
 ⟨some (7+100),.assign (.const (.slice none 0 0)),0,none,[]⟩]) (
 .seq (
 .ops [
 ⟨some (8+100),.assign (.const (.int .i64 0)),0,none,[]⟩]) (
 .seq (
 .seq (
 .ops [
 ⟨some (9+100),.move (V 0),0,none,[]⟩,
 ⟨some (10+100),.call ⟨.builtin .len,#[V 9],#[M.zaz]⟩,N.ze,none,[]⟩,
 ⟨some (11+100),.move (.const (.int .i64 0)),0,none,[]⟩]) (
 .block 0 (
 .loop (
 .seq (
 .ops [
 ⟨some (12+100),.binOp .lss N.ze (V 11) (V 10) N.ze,0,none,[]⟩]) (
 .seq (
 .cond 12 (
 .skip) (
 .exit 0)) (
 .seq (
 .block 1 (
 .seq (
 .ops [
 ⟨some 0,.move (V 11),0,none,[]⟩,
 ⟨some 1,.indexAddr M.zaz (V 9) (V 11),0,none,[]⟩,
 ⟨some 2,.load M.zn (T 1),0,none,[]⟩,
 ⟨some (13+100),.alloc M.zn,0,none,[]⟩,
 ⟨some (14+100),.assign (T 0),0,none,[]⟩,
 ⟨none,.store M.zn (V 13) (T 2),0,none,[]⟩]) (
 .seq (
 .ops [
 ⟨some 0,.fieldAddr M.zn (V 13) 4,0,none,[]⟩,
 ⟨some 1,.load N.ze (T 0),0,none,[]⟩,
 ⟨some 2,.binOp .lss N.ze (T 1) (.const (.int .i64 0)) N.ze,0,none,[]⟩,
 ⟨some 3,.move (T 2),0,none,[]⟩,
 ⟨some 4,.load M.zn (V 13),0,(some (some 3,true)),[]⟩,
 ⟨some 5,.move (V 1),0,(some (some 3,true)),[]⟩,
 ⟨some 6,.call ⟨.value (.func M.zfx),#[T 4,T 5],#[M.zn,N.ze]⟩,N.zay,(some (some 3,true)),[]⟩,
 ⟨some (15+100),.pick (T 3) (T 6) (.const (.bool false)),0,none,[]⟩]) (
 .cond 15 (
 .draw [
 ⟨some 0,.move (V 6),0,none,[]⟩,
 ⟨some 1,.load M.zn (V 13),0,none,[]⟩,
 ⟨some 2,.move (V 1),0,none,[]⟩,
 ⟨some 3,.move (V 2),0,none,[]⟩,
 ⟨some 4,.load N.zf (V 4),0,none,[]⟩,
 ⟨some 5,.move (V 14),0,none,[]⟩,
 ⟨some 6,.call ⟨.value (.func M.zib),#[T 4,T 5],#[N.zf,N.ze]⟩,N.zf,none,[4,5]⟩,
 ⟨some 7,.call ⟨.value (.func M.zjh),#[T 1,T 2,T 3,T 6],#[M.zn,N.ze,N.zay,N.zf]⟩,N.za,none,[1,2,3,6,6]⟩,
 ⟨some 8,.call ⟨.builtin .append,#[T 0,T 7],#[N.za,N.za]⟩,N.za,none,[0,7,7]⟩,
 ⟨some (6+100),.assign (T 8),0,none,[8,8,0,1,2,3,4,5,6,7,8]⟩]) (
 .skip))))) (
 .ops [
 ⟨some 0,.binOp .add N.ze (V 11) (.const (.int .i64 1)) N.ze,0,none,[]⟩,
 ⟨some (11+100),.move (T 0),0,none,[]⟩]))))))) (
 .seq (
 .seq (
 .ops [
 ⟨some 0,.move (V 2),0,none,[]⟩,
 ⟨some (16+100),.unOp .not N.zay (T 0),0,none,[]⟩]) (
 .cond 16 (
 .seq (
 .ops [
 ⟨some 0,.move (V 6),0,none,[]⟩,
 ⟨some (5+100),.assign (T 0),0,none,[]⟩]) (
 .ret)) (
 .skip))) (
 .seq (
 .seq (
 .ops [
 ⟨some 0,.move (V 0),0,none,[]⟩,
 ⟨some 1,.call ⟨.value (.func M.zjg),#[T 0],#[M.zaz]⟩,N.zc,none,[]⟩,
 ⟨some (17+100),.convert N.zc N.ze (T 1),0,none,[]⟩,
 ⟨some (18+100),.move (.const (.int .i64 0)),0,none,[]⟩]) (
 .block 2 (
 .loop (
 .seq (
 .ops [
 ⟨some (19+100),.binOp .lss N.ze (V 18) (V 17) N.ze,0,none,[]⟩]) (
 .seq (
 .cond 19 (
 .skip) (
 .exit 2)) (
 .seq (
 .block 3 (
 .seq (
 .ops [
 ⟨some 0,.move (V 18),0,none,[]⟩,
 ⟨some (20+100),.assign (T 0),0,none,[]⟩]) (
 .seq (
 .ops [
 ⟨some (21+100),.move (V 0),0,none,[]⟩,
 ⟨some (22+100),.call ⟨.builtin .len,#[V 21],#[M.zaz]⟩,N.ze,none,[]⟩,
 ⟨some (23+100),.move (.const (.int .i64 0)),0,none,[]⟩]) (
 .block 4 (
 .loop (
 .seq (
 .ops [
 ⟨some (24+100),.binOp .lss N.ze (V 23) (V 22) N.ze,0,none,[]⟩]) (
 .seq (
 .cond 24 (
 .skip) (
 .exit 4)) (
 .seq (
 .block 5 (
 .seq (
 .ops [
 ⟨some 0,.move (V 23),0,none,[]⟩,
 ⟨some 1,.indexAddr M.zaz (V 21) (V 23),0,none,[]⟩,
 ⟨some 2,.load M.zn (T 1),0,none,[]⟩,
 ⟨some (25+100),.alloc M.zn,0,none,[]⟩,
 ⟨some (26+100),.assign (T 0),0,none,[]⟩,
 ⟨none,.store M.zn (V 25) (T 2),0,none,[]⟩]) (
 .seq (
 .draw [
 ⟨some 0,.fieldAddr M.zn (V 25) 4,0,none,[]⟩,
 ⟨some 1,.load N.ze (T 0),0,none,[0]⟩,
 ⟨some 2,.move (V 20),0,none,[]⟩,
 ⟨some 3,.binOp .eql N.ze (T 1) (T 2) N.ze,0,none,[1,2]⟩,
 ⟨some 4,.move (T 3),0,none,[3]⟩,
 ⟨some 5,.load M.zn (V 25),0,(some (some 4,true)),[4]⟩,
 ⟨some 6,.load N.zf (V 4),0,(some (some 4,true)),[4]⟩,
 ⟨some 7,.move (V 26),0,(some (some 4,true)),[4]⟩,
 ⟨some 8,.call ⟨.value (.func M.zib),#[T 6,T 7],#[N.zf,N.ze]⟩,N.zf,(some (some 4,true)),[6,7,4,4]⟩,
 ⟨some 9,.call ⟨.value (.func M.zaab),#[T 5,T 8],#[M.zn,N.zf]⟩,N.zay,(some (some 4,true)),[5,8,8,4]⟩,
 ⟨some 10,.unOp .not N.zay (T 9),0,(some (some 4,true)),[9,4]⟩,
 ⟨some (27+100),.pick (T 4) (T 10) (.const (.bool false)),0,none,[4,10]⟩]) (
 .cond 27 (
 .seq (
 .draw [
 ⟨some 0,.load M.zn (V 25),0,none,[]⟩,
 ⟨some 1,.move (V 1),0,none,[]⟩,
 ⟨some 2,.move (V 2),0,none,[]⟩,
 ⟨some 3,.load N.zf (V 4),0,none,[]⟩,
 ⟨some 4,.move (V 26),0,none,[]⟩,
 ⟨some 5,.call ⟨.value (.func M.zib),#[T 3,T 4],#[N.zf,N.ze]⟩,N.zf,none,[3,4]⟩,
 ⟨some 6,.call ⟨.value (.func M.zjh),#[T 0,T 1,T 2,T 5],#[M.zn,N.ze,N.zay,N.zf]⟩,N.za,none,[0,1,2,5,5]⟩,
 ⟨some (28+100),.assign (T 6),0,none,[6,6,0,1,2,3,4,5,6]⟩]) (
 .seq (
 .ops [
 ⟨some 0,.move (V 7),0,none,[]⟩,
 ⟨some 1,.move (V 20),0,none,[]⟩,
 ⟨some 2,.convert N.ze N.zaj (T 1),0,none,[]⟩,
 ⟨some 3,.call ⟨.value (.func M.zdh),#[T 2],#[N.zaj]⟩,N.za,none,[]⟩,
 ⟨some 4,.call ⟨.builtin .append,#[T 0,T 3],#[N.za,N.za]⟩,N.za,none,[]⟩,
 ⟨some 5,.move (V 28),0,none,[]⟩,
 ⟨some 6,.call ⟨.builtin .len,#[T 5],#[N.za]⟩,N.ze,none,[]⟩,
 ⟨some 7,.convert N.ze N.zaj (T 6),0,none,[]⟩,
 ⟨some 8,.call ⟨.value (.func M.zdh),#[T 7],#[N.zaj]⟩,N.za,none,[]⟩,
 ⟨some 9,.call ⟨.builtin .append,#[T 4,T 8],#[N.za,N.za]⟩,N.za,none,[]⟩,
 ⟨some 10,.move (V 28),0,none,[]⟩,
 ⟨some 11,.call ⟨.builtin .append,#[T 9,T 10],#[N.za,N.za]⟩,N.za,none,[]⟩,
 ⟨some (7+100),.assign (T 11),0,none,[]⟩]) (
 .ops [
 ⟨some 0,.move (V 8),0,none,[]⟩,
 ⟨some 1,.binOp .add N.ze (T 0) (.const (.int .i64 1)) N.ze,0,none,[]⟩,
 ⟨some (8+100),.assign (T 1),0,none,[]⟩]))) (
 .skip))))) (
 .ops [
 ⟨some 0,.binOp .add N.ze (V 23) (.const (.int .i64 1)) N.ze,0,none,[]⟩,
 ⟨some (23+100),.move (T 0),0,none,[]⟩]))))))))) (
 .ops [
 ⟨some 0,.binOp .add N.ze (V 18) (.const (.int .i64 1)) N.ze,0,none,[]⟩,
 ⟨some (18+100),.move (T 0),0,none,[]⟩]))))))) (
 .seq (
 .seq (
 .ops [
 ⟨some 0,.move (V 0),0,none,[]⟩,
 ⟨some 1,.fieldAddr N.zf (V 4) 4,0,none,[]⟩,
 ⟨some 2,.load N.zp (T 1),0,none,[]⟩,
 ⟨some (29+100),.call ⟨.value (.func M.zix),#[T 0,T 2],#[M.zaz,N.zp]⟩,N.zp,none,[]⟩,
 ⟨some (30+100),.call ⟨.builtin .len,#[V 29],#[N.zp]⟩,N.ze,none,[]⟩,
 ⟨some (31+100),.move (.const (.int .i64 0)),0,none,[]⟩]) (
 .block 6 (
 .loop (
 .seq (
 .ops [
 ⟨some (32+100),.binOp .lss N.ze (V 31) (V 30) N.ze,0,none,[]⟩]) (
 .seq (
 .cond 32 (
 .skip) (
 .exit 6)) (
 .seq (
 .block 7 (
 .seq (
 .ops [
 ⟨some 0,.indexAddr N.zp (V 29) (V 31),0,none,[]⟩,
 ⟨some 1,.load N.zal (T 0),0,none,[]⟩,
 ⟨some (33+100),.alloc N.zal,0,none,[]⟩,
 ⟨none,.store N.zal (V 33) (T 1),0,none,[]⟩]) (
 .seq (
 .ops [
 ⟨some 0,.fieldAddr N.zal (V 33) 1,0,none,[]⟩,
 ⟨some 1,.load N.za (T 0),0,none,[]⟩,
 ⟨some 2,.call ⟨.value (.func M.zfm),#[T 1],#[N.za]⟩,N.za,none,[]⟩,
 ⟨some (34+100),.assign (T 2),0,none,[]⟩]) (
 .seq (
 .ops [
 ⟨some 0,.move (V 7),0,none,[]⟩,
 ⟨some 1,.fieldAddr N.zal (V 33) 0,0,none,[]⟩,
 ⟨some 2,.load N.zc (T 1),0,none,[]⟩,
 ⟨some 3,.convert N.zc N.zaj (T 2),0,none,[]⟩,
 ⟨some 4,.call ⟨.value (.func M.zdh),#[T 3],#[N.zaj]⟩,N.za,none,[]⟩,
 ⟨some 5,.call ⟨.builtin .append,#[T 0,T 4],#[N.za,N.za]⟩,N.za,none,[]⟩,
 ⟨some 6,.move (V 34),0,none,[]⟩,
 ⟨some 7,.call ⟨.builtin .len,#[T 6],#[N.za]⟩,N.ze,none,[]⟩,
 ⟨some 8,.convert N.ze N.zaj (T 7),0,none,[]⟩,
 ⟨some 9,.call ⟨.value (.func M.zdh),#[T 8],#[N.zaj]⟩,N.za,none,[]⟩,
 ⟨some 10,.call ⟨.builtin .append,#[T 5,T 9],#[N.za,N.za]⟩,N.za,none,[]⟩,
 ⟨some 11,.move (V 34),0,none,[]⟩,
 ⟨some 12,.call ⟨.builtin .append,#[T 10,T 11],#[N.za,N.za]⟩,N.za,none,[]⟩,
 ⟨some (7+100),.assign (T 12),0,none,[]⟩]) (
 .ops [
 ⟨some 0,.move (V 8),0,none,[]⟩,
 ⟨some 1,.binOp .add N.ze (T 0) (.const (.int .i64 1)) N.ze,0,none,[]⟩,
 ⟨some (8+100),.assign (T 1),0,none,[]⟩]))))) (
 .ops [
 ⟨some 0,.binOp .add N.ze (V 31) (.const (.int .i64 1)) N.ze,0,none,[]⟩,
 ⟨some (31+100),.move (T 0),0,none,[]⟩]))))))) (
 .seq (
 .ops [
 ⟨some 0,.move (V 6),0,none,[]⟩,
 ⟨some 1,.move (V 8),0,none,[]⟩,
 ⟨some 2,.convert N.ze N.zaj (T 1),0,none,[]⟩,
 ⟨some 3,.call ⟨.value (.func M.zdh),#[T 2],#[N.zaj]⟩,N.za,none,[]⟩,
 ⟨some 4,.call ⟨.builtin .append,#[T 0,T 3],#[N.za,N.za]⟩,N.za,none,[]⟩,
 ⟨some 5,.move (V 7),0,none,[]⟩,
 ⟨some 6,.call ⟨.builtin .append,#[T 4,T 5],#[N.za,N.za]⟩,N.za,none,[]⟩,
 ⟨some (5+100),.assign (T 6),0,none,[]⟩]) (
 .ret))))))))
def zsk (N:Nums) (M:zdd):C:=
 .seq (
 .ops [
 ⟨some (3+100),.box M.zam (V 0),0,none,[]⟩,
 ⟨some (4+100),.box N.zf (V 2),0,none,[]⟩,
 ⟨some (5+100),.assign (.const (.slice none 0 0)),0,none,[]⟩]) (
 .seq (
 .ops [
 ⟨some 0,.fieldAddr M.zam (V 3) 0,0,none,[]⟩,
 ⟨some 1,.load M.zaz (T 0),0,none,[]⟩,
 ⟨some 2,.move (V 1),0,none,[]⟩,
 ⟨some 3,.fieldAddr M.zam (V 3) 1,0,none,[]⟩,
 ⟨some 4,.load N.ze (T 3),0,none,[]⟩,
 ⟨some 5,.binOp .geq N.ze (T 4) (.const (.int .i64 0)) N.ze,0,none,[]⟩,
 ⟨some 6,.move (T 5),0,none,[]⟩,
 ⟨some 7,.move (V 1),0,(some (some 6,true)),[]⟩,
 ⟨some 8,.fieldAddr M.zam (V 3) 1,0,(some (some 6,true)),[]⟩,
 ⟨some 9,.load N.ze (T 8),0,(some (some 6,true)),[]⟩,
 ⟨some 10,.binOp .geq N.ze (T 7) (T 9) N.ze,0,(some (some 6,true)),[]⟩,
 ⟨some 11,.pick (T 6) (T 10) (.const (.bool false)),0,none,[]⟩,
 ⟨some 12,.load N.zf (V 4),0,none,[]⟩,
 ⟨some 13,.call ⟨.value (.func M.zkj),#[T 1,T 2,T 11,T 12],#[M.zaz,N.ze,N.zay,N.zf]⟩,N.za,none,[]⟩,
 ⟨some (5+100),.assign (T 13),0,none,[]⟩]) (
 .ret))
def zfs (N:Nums) (M:zdd):C:=
 .seq (
 .ops [
 ⟨some (2+100),.box M.zam (V 0),0,none,[]⟩,
 ⟨some (3+100),.assign (.const (.bool false)),0,none,[]⟩]) (
 .seq (
 .ops [
 ⟨some 0,.fieldAddr M.zam (V 2) 1,0,none,[]⟩,
 ⟨some 1,.load N.ze (T 0),0,none,[]⟩,
 ⟨some 2,.binOp .geq N.ze (T 1) (.const (.int .i64 0)) N.ze,0,none,[]⟩,
 ⟨some 3,.move (T 2),0,none,[]⟩,
 ⟨some 4,.move (V 1),0,(some (some 3,true)),[]⟩,
 ⟨some 5,.fieldAddr M.zam (V 2) 1,0,(some (some 3,true)),[]⟩,
 ⟨some 6,.load N.ze (T 5),0,(some (some 3,true)),[]⟩,
 ⟨some 7,.binOp .geq N.ze (T 4) (T 6) N.ze,0,(some (some 3,true)),[]⟩,
 ⟨some 8,.pick (T 3) (T 7) (.const (.bool false)),0,none,[]⟩,
 ⟨some (3+100),.assign (T 8),0,none,[]⟩]) (
 .ret))
structure SZ (P:Program) (N:Nums) (M:zdd):Prop where
 zzFits3:FOk P M.zqp 1 (zup N M) [.var 2]
 zzFits2:FOk P M.zuj 1 (zaaj N M) [.var 1]
 zzFits1:FOk P M.zuk 1 (zaak N M) [.var 2]
structure SW (P:Program) (N:Nums) (M:zdd):Prop where
 Field_has:FOk P M.zfx 2 (zjo N M) [.var 3]
 Field_null:FOk P M.zgt 3 (ziw N M) [.var 5]
 whole:FOk P M.zfm 1 (znt N M) [.var 1]
 things:FOk P M.zjy 1 (zmo N M) [.var 1]
 at_:FOk P M.zib 2 (zqr N M) [.cell 3 N.zf]
 Uvarint:FOk P M.zdh 1 (ziy N M) [.var 1]
 Fixed:FOk P M.zcr 2 (zho N M) [.var 2]
 width:FOk P M.zkw 1 (zns N M) [.var 1]
 counted:FOk P M.zec 4 (zlk N M) [.var 4]
 value:FOk P M.zjf 6 (zsi N M) [.var 7]
 field:FOk P M.zjh 4 (zsj N M) [.var 6]
 known:FOk P M.zjg 1 (znu N M) [.var 1]
 unknown:FOk P M.zix 2 (zpf N M) [.var 2]
 part:FOk P M.zkj 4 (zuq N M) [.var 5]
 Write:FOk P M.znn 3 (zsk N M) [.var 5]
inductive Fld where
 | mk (kind frm to null tag dflt of:Int) (sub:List Fld)
def Fld.kind:Fld→Int | .mk k ..=>k
def Fld.frm:Fld→Int | .mk _ f ..=>f
def Fld.to:Fld→Int | .mk _ _ t ..=>t
def Fld.null:Fld→Int | .mk _ _ _ n ..=>n
def Fld.tag:Fld→Int | .mk _ _ _ _ g ..=>g
def Fld.dflt:Fld→Int | .mk _ _ _ _ _ d ..=>d
def Fld.of:Fld→Int | .mk _ _ _ _ _ _ o _=>o
def Fld.sub:Fld→List Fld | .mk _ _ _ _ _ _ _ s=>s
def most:Nat:=32767
def Tr.n:Tr→Int | .mk n ..=>n
def Tr.s:Tr→List UInt8 | .mk _ s ..=>s
def Tr.nl:Tr→Bool | .mk _ _ b ..=>b
def Tr.l:Tr→List Tr | .mk _ _ _ l _=>l
def Tr.u:Tr→List (Nat × List UInt8) | .mk _ _ _ _ u=>u
def tr0:Tr:=.mk 0 [] false [] []
def Fld.has (f:Fld) (v:Int):Bool:=decide (f.frm≤v) && (decide (f.to < 0) || decide (v≤f.to))
def Fld.nullB (f:Fld) (v:Int) (t:Tr):Bool:=t.nl && decide (0≤f.null) && decide (f.null≤v)
def zbv (s:List UInt8):List UInt8:=s.take most
def zef (l:List Tr):List Tr:=l.take most
def atT (t:Tr) (i:Nat):Tr:=t.l.getD i tr0
def uvB (n:Nat):List UInt8:=if n < 128 then [UInt8.ofNat n] else UInt8.ofNat (n % 128+128) :: uvB (n / 128)
termination_by n
def fixB (n:Int):Nat→List UInt8
 | 0=>[]
 | k+1=>UInt8.ofNat (IntKind.u8.wrap (n.fdiv (2 ^ (8 * k)))).toNat :: fixB n k
def zge (k:Int):Nat:=if k=1 then 1 else if k=2∨k=5 then 2 else if k=3 then 4 else 8
def zae (flex null:Bool) (n size:Nat):List UInt8:=if flex && null then [0] else if flex then uvB (n+1) else if null then fixB (-1) size else fixB n size
def insT (k:Nat) (x:List UInt8):List (Nat × List UInt8)→List (Nat × List UInt8)
 | []=>[(k,x)]
 | (k',y) :: r=>if k' < k then (k',y) :: insT k x r else if k'=k then (k',y) :: r else (k,x) :: (k',y) :: r
def unkT (u:List (Nat × List UInt8)):List (Nat × List UInt8):=(u.take most).foldl (fun a x=>insT x.1 x.2 a) []
def tagB (x:Nat × List UInt8):List UInt8:=uvB x.1++(uvB (zbv x.2).length++zbv x.2)
def valB (flex:Bool) (kind:Int) (pt:Tr→List UInt8) (null:Bool) (t:Tr):List UInt8:=
 if kind=0 then [UInt8.ofNat (t.n % 2).toNat]
 else if kind=7 then t.s.take 16++List.replicate (16 - t.s.length) 0
 else if kind=8 then zae flex null (if null then [] else zbv t.s).length 2++(if null then [] else zbv t.s)
 else if kind=9 then zae flex null (if null then [] else zbv t.s).length 4++(if null then [] else zbv t.s)
 else if kind=10 then pt t
 else fixB t.n (zge kind)
def endB (flex:Bool) (x:List UInt8) (u:List (Nat × List UInt8)):List UInt8:=
 x++if flex then uvB (unkT u).length++(unkT u).flatMap tagB else []
mutual
def zeo (flex:Bool) (v:Int):Fld→Tr→List UInt8
 | .mk k f t' n g d o sub,t=>
  if k=11 then zae flex (Fld.nullB (.mk k f t' n g d o []) v t) (if Fld.nullB (.mk k f t' n g d o []) v t then [] else zef t.l).length 4 ++
   (if Fld.nullB (.mk k f t' n g d o []) v t then [] else zef t.l).flatMap (valB flex o (fun t=>endB flex (zcm flex v sub 0 t) t.u) false)
  else if k=10∧0≤n then (if Fld.nullB (.mk k f t' n g d o []) v t then fixB (-1) 1 else fixB 1 1++endB flex (zcm flex v sub 0 t) t.u)
  else valB flex k (fun t=>endB flex (zcm flex v sub 0 t) t.u) (Fld.nullB (.mk k f t' n g d o []) v t) t
def zcm (flex:Bool) (v:Int):List Fld→Nat→Tr→List UInt8
 | [],_,_=>[]
 | f :: r,i,t=>(if f.has v then zeo flex v f (atT t i) else [])++zcm flex v r (i+1) t
end
def zci (flex:Bool) (v:Int) (fs:List Fld) (t:Tr):List UInt8:=endB flex (zcm flex v fs 0 t) t.u
mutual
def wfT:Tr→Prop
 | .mk n _ _ l u=>(-9223372036854775808≤n∧n < 9223372036854775808)∧(∀ x∈u,x.1 < 4294967296)∧wfTs l
def wfTs:List Tr→Prop
 | []=>True
 | t :: l=>wfT t∧wfTs l
end
theorem wfTs.mem:∀ {l:List Tr},wfTs l→∀ x∈l,wfT x
 | [],_,x,hx=>by cases hx
 | t :: l,h,x,hx=>by
  simp only [wfTs] at h
  rcases List.mem_cons.1 hx with rfl | hx
  ·exact h.1
  ·exact wfTs.mem h.2 x hx
theorem wfT.l {t:Tr} (h:wfT t):∀ x∈t.l,wfT x:=by
 cases t; simp only [wfT] at h; exact wfTs.mem h.2.2
theorem wfT.u {t:Tr} (h:wfT t):∀ x∈t.u,x.1 < 4294967296:=by
 cases t; simp only [wfT] at h; exact h.2.1
theorem wfT.n {t:Tr} (h:wfT t):-9223372036854775808≤t.n∧t.n < 9223372036854775808:=by
 cases t; simp only [wfT] at h; exact h.1
theorem wfT.at {t:Tr} (h:wfT t) (i:Nat):wfT (atT t i):=by
 unfold atT
 cases hx:t.l[i]? with
 | none=>
  rw[List.getD,hx]
  simp only [Option.getD_none,tr0,wfT,wfTs]
  exact⟨by decide,(fun x hx=>by cases hx),trivial⟩
 | some y=>rw[List.getD,hx]; exact h.l y (List.mem_of_getElem? hx)
def OctA (w:World) (v:Value) (s:List UInt8):Prop:=
 (∃ ad c,v=.slice ad 0 c∧s=[])∨∃ b o c,v=.slice (some ⟨b,o,none⟩) s.length c∧s.length≤c∧w.rangeAt b o (s.map zz)
def UsA (w:World):List (Nat × List UInt8)→List Value→Prop
 | [],cs=>cs=[]
 | (k,l) :: r,cs=>∃ v rest,cs=.int .u32 k :: v :: rest∧OctA w v l∧UsA w r rest
def zkr (w:World) (v:Value) (u:List (Nat × List UInt8)):Prop:=
 (∃ ad c,v=.slice ad 0 c∧u=[])∨∃ b o c cs,v=.slice (some ⟨b,o,none⟩) u.length c∧u.length≤c∧UsA w u cs∧w.rangeAt b o cs
mutual
def RepA (w:World):Tr→List Value→Prop
 | .mk n s nl l u,cs=>∃ vs vl vu,cs=[.int .i64 n,vs,.bool nl,vl,vu]∧OctA w vs s ∧
   ((∃ ad c,vl=.slice ad 0 c∧l=[])∨∃ b o c css,vl=.slice (some ⟨b,o,none⟩) l.length c∧l.length≤c∧zks w l css∧w.rangeAt b o css.flatten)∧zkr w vu u
def zks (w:World):List Tr→List (List Value)→Prop
 | [],css=>css=[]
 | t :: l,css=>∃ c r,css=c :: r∧RepA w t c∧zks w l r
end
mutual
def RepF (w:World):Fld→List Value→Prop
 | .mk k f t n g d o sub,cs=>∃ v,cs=[.int .i64 k,.int .i64 f,.int .i64 t,.int .i64 n,.int .i64 g,.int .i64 d,.int .i64 o,v] ∧
   ((∃ ad c,v=.slice ad 0 c∧sub=[])∨∃ b o c css,v=.slice (some ⟨b,o,none⟩) sub.length c∧sub.length≤c∧zhf w sub css∧w.rangeAt b o css.flatten)
def zhf (w:World):List Fld→List (List Value)→Prop
 | [],css=>css=[]
 | t :: l,css=>∃ c r,css=c :: r∧RepF w t c∧zhf w l r
end
def zik (w:World) (v:Value) (fs:List Fld):Prop:=
 (∃ ad c,v=.slice ad 0 c∧fs=[])∨∃ b o c css,v=.slice (some ⟨b,o,none⟩) fs.length c∧fs.length≤c∧zhf w fs css∧w.rangeAt b o css.flatten
def zij (w:World) (v:Value) (l:List Tr):Prop:=
 (∃ ad c,v=.slice ad 0 c∧l=[])∨∃ b o c css,v=.slice (some ⟨b,o,none⟩) l.length c∧l.length≤c∧zks w l css∧w.rangeAt b o css.flatten
theorem OctA.stay {w w':World} (h:Mod w w' zy) {v:Value} {s:List UInt8} (hs:OctA w v s):OctA w' v s:=
 hs.imp id fun ⟨b,o,c,h1,h2,h3⟩=>⟨b,o,c,h1,h2,zad h h3⟩
theorem UsA.stay {w w':World} (h:Mod w w' zy):∀ {u:List (Nat × List UInt8)} {cs:List Value},UsA w u cs→UsA w' u cs
 | [],_,hu=>hu
 | (k,l) :: r,_,⟨v,rest,h1,h2,h3⟩=>⟨v,rest,h1,h2.stay h,UsA.stay h h3⟩
theorem zkr.stay {w w':World} (h:Mod w w' zy) {v:Value} {u:List (Nat × List UInt8)} (hu:zkr w v u):zkr w' v u:=
 hu.imp id fun ⟨b,o,c,cs,h1,h2,h3,h4⟩=>⟨b,o,c,cs,h1,h2,h3.stay h,zad h h4⟩
mutual
theorem RepA.stay {w w':World} (h:Mod w w' zy):∀ (t:Tr) {cs:List Value},RepA w t cs→RepA w' t cs
 | .mk n s nl l u,_,⟨vs,vl,vu,h1,h2,h3,h4⟩=>⟨vs,vl,vu,h1,h2.stay h,h3.imp id fun ⟨b,o,c,css,g1,g2,g3,g4⟩=>⟨b,o,c,css,g1,g2,zks.stay h l g3,zad h g4⟩,h4.stay h⟩
theorem zks.stay {w w':World} (h:Mod w w' zy):∀ (l:List Tr) {css:List (List Value)},zks w l css→zks w' l css
 | [],_,hr=>hr
 | t :: l,_,⟨c,r,h1,h2,h3⟩=>⟨c,r,h1,RepA.stay h t h2,zks.stay h l h3⟩
end
mutual
theorem RepF.stay {w w':World} (h:Mod w w' zy):∀ (t:Fld) {cs:List Value},RepF w t cs→RepF w' t cs
 | .mk _ _ _ _ _ _ _ sub,_,⟨v,h1,h3⟩=>⟨v,h1,h3.imp id fun ⟨b,o,c,css,g1,g2,g3,g4⟩=>⟨b,o,c,css,g1,g2,zhf.stay h sub g3,zad h g4⟩⟩
theorem zhf.stay {w w':World} (h:Mod w w' zy):∀ (l:List Fld) {css:List (List Value)},zhf w l css→zhf w' l css
 | [],_,hr=>hr
 | t :: l,_,⟨c,r,h1,h2,h3⟩=>⟨c,r,h1,RepF.stay h t h2,zhf.stay h l h3⟩
end
theorem zik.stay {w w':World} (h:Mod w w' zy) {v:Value} {fs:List Fld} (hs:zik w v fs):zik w' v fs:=
 hs.imp id fun ⟨b,o,c,css,h1,h2,h3,h4⟩=>⟨b,o,c,css,h1,h2,zhf.stay h fs h3,zad h h4⟩
theorem zij.stay {w w':World} (h:Mod w w' zy) {v:Value} {l:List Tr} (hs:zij w v l):zij w' v l:=
 hs.imp id fun ⟨b,o,c,css,h1,h2,h3,h4⟩=>⟨b,o,c,css,h1,h2,zks.stay h l h3,zad h h4⟩
theorem tagV.octA {w:World} {G:Nat→Prop} {v:Value} {l:List UInt8} (h:tagV w G v l):OctA w v l:=by
 rcases h with⟨e,_,_,h⟩ | ⟨b,o,c,h1,h2,h3,h4⟩
 ·exact .inl ⟨_,_,h,e⟩
 ·exact .inr ⟨b,o,c,h1,h2,h4⟩
structure SpT (P:Program) (N:Nums) (M:zdd):Prop where
 fld:SF P M.zn [(0,1),(1,1),(2,1),(3,1),(4,1),(5,1),(6,1),(7,1)] 80 [.int .i64 0,.int .i64 0,.int .i64 0,.int .i64 0,.int .i64 0,.int .i64 0,.int .i64 0,.slice none 0 0]
 f0:HF P M.zn 0 0
 f1:HF P M.zn 1 1
 f2:HF P M.zn 2 2
 f3:HF P M.zn 3 3
 f4:HF P M.zn 4 4
 f5:HF P M.zn 5 5
 f6:HF P M.zn 6 6
 f7:HF P M.zn 7 7
 lf:TI P M.zaz (.slice M.zn) 1 24 (.slice none 0 0)
 msg:SF P M.zam [(0,1),(1,1)] 32 [.slice none 0 0,.int .i64 0]
 m0:HF P M.zam 0 0
 m1:HF P M.zam 1 1
 tr:zsr P N N.zf N.zal N.zak N.zp
section
variable {P:Program} {N:Nums} {M:zdd}
theorem zxb {d:Option Nat} {x y:Operand} {ty:TypeId} {ts:Array TypeId} {af:List Nat} {ρ:Env} {w:World} {K:Env→World→Prop}:zcn P ⟨d,.call ⟨.builtin .min,#[x,y],ts⟩,ty,none,af⟩ ρ w K=zgz (fun v w=>K (put ρ d v) w) ((Builtin.min_ ts ty #[ev ρ x,ev ρ y]).run P w):=by
 rw[zbg rfl,← zbx]
 simp [exec,execOp,resolve,invoke,builtin]
theorem zabo {ts:Array TypeId} {ty:TypeId} {k k':IntKind} {a b:Int} {w:World}:(Builtin.min_ ts ty #[.int k a,.int k' b]).run P w=.ok (.int k (if b < a then b else a)) w:=by
 simp [Builtin.min_,Builtin.min2]
theorem zdy {t:TypeId} {x y:Operand} {k yk:IntKind} {a b:Int} {w:World} (hb:0≤b):(do eqGuard .shr t x y (.int k a) (.int yk b); binOp .shr t (.int k a) (.int yk b):Sem Value).run P w=.ok (.int k (a.fdiv (2 ^ min b.toNat k.bits))) w:=by
 simp [eqGuard,binOp,Op.shift,show ¬ b < 0 by omega]
theorem OctA.cut {w:World} {v:Value} {s:List UInt8} (h:OctA w v s):∃ ad c,v=.slice ad s.length c∧s.length≤c∧∀ n,n≤s.length→OctA w (.slice ad n c) (s.take n):=by
 rcases h with⟨ad,c,rfl,rfl⟩ | ⟨b,o,c,rfl,h1,h2⟩
 ·exact⟨ad,c,rfl,Nat.zero_le _,fun n hn=>.inl ⟨ad,c,by rw[show n=0 by simpa using hn],by simp⟩⟩
 ·refine⟨_,c,rfl,h1,fun n hn=>.inr ⟨b,o,c,by rw[List.length_take,Nat.min_eq_left hn],by rw[List.length_take]; omega,fun j x hj=>h2 j x ?_⟩⟩
  rw[List.getElem?_map] at hj ⊢
  cases hx:(s.take n)[j]? with
  | none=>rw[hx] at hj; simp at hj
  | some y=>
   have:j < n:=by have:=(List.getElem?_eq_some_iff.1 hx).1; rw[List.length_take] at this; omega
   rw[List.getElem?_take_of_lt this] at hx
   rw[hx]
   have h2:(s.take n)[j]?=some y:=by rw[List.getElem?_take_of_lt this]; exact hx
   rw[h2] at hj; exact hj
theorem OctA.one {w:World} {v:Value} {s:List UInt8} (h:OctA w v s):v.oneCell'=true:=by
 rcases h with⟨ad,c,rfl,_⟩ | ⟨b,o,c,rfl,_⟩<;>rfl
theorem OctA.run_len (B:Base P N) {w w':World} {v:Value} {l:List UInt8} (h:OctA w v l) {ty:TypeId}:(Builtin.len_ #[N.za] ty #[v]).run P w'=.ok (.int .i64 l.length) w':=by
 rcases h with⟨ad,c,rfl,rfl⟩ | ⟨b,o,c,rfl,_⟩
 ·exact B.Lu8.run_len
 ·exact B.Lu8.run_len
theorem zwp (B:Base P N) (hF:FOk P M.zfm 1 (znt N M) [.var 1]) {w w0:World} {v:Value} {s:List UInt8} (h:OctA w0 v s):Call P M.zfm #[v] w fun v' w'=>w=w'∧OctA w0 v' (zbv s):=by
 refine hF.call rfl fun loc N' hlo=>?_
 unfold znt
 obtain⟨ad,c,hv,hc,hcut⟩:=h.cut
 refine zd fun K hK=>zao (hK _ _ ?_)
 clear hK K
 obtain⟨σ,hσ⟩:∃ σ,σ=upd (zdf #[v]) 1 (.slice none 0 0):=⟨_,rfl⟩
 have f0:σ 0=v:=by rw[hσ,zg (by decide)]; rfl
 rw[← hσ]
 clear hσ
 refine zd fun K hK=>zi fun τ=>?_
 have hn:(if (32767:Int) < (s.length:Int) then (32767:Int) else (s.length:Int))=((min 32767 s.length:Nat):Int):=by split<;>omega
 have hsl:=fun {w:World}=>zhj (P:=P) (w:=w) B.Lu8 B.uint8 (ad:=ad) (n:=s.length) (c:=c) (h:=min 32767 s.length) (k:=.i64) (by omega)
 simp +decide only [bK,bE,Nat.reduceBeqDiff,BEq.rfl,Nat.reduceAdd,Nat.zero_add,Option.map_some,Option.map_none,f0,h.run_len B,zxb,zabo,hn]
 rw[hv]
 simp +decide only [bK,hsl]
 refine hK _ _ (zb fun σ' hσ=>zbb ⟨.inr rfl,_,rfl,rfl,?_⟩)
 have g1:=hσ 1
 simp +decide only [bE,BEq.rfl,Nat.reduceAdd] at g1
 rw[g1]
 have h2:=hcut (min 32767 s.length) (by omega)
 rwa [show s.take (min 32767 s.length)=zbv s by unfold zbv most; rw[List.take_eq_take_iff]; omega] at h2
theorem zij.cut {w:World} {v:Value} {s:List Tr} (h:zij w v s):∃ ad c,v=.slice ad s.length c∧s.length≤c∧∀ n,n≤s.length→zij w (.slice ad n c) (s.take n):=by
 rcases h with⟨ad,c,rfl,rfl⟩ | ⟨b,o,c,css,rfl,h1,h2,h3⟩
 ·exact⟨ad,c,rfl,Nat.zero_le _,fun n hn=>.inl ⟨ad,c,by rw[show n=0 by simpa using hn],by simp⟩⟩
 ·have key:∀ (l:List Tr) (css:List (List Value)) (n o:Nat),zks w l css→w.rangeAt b o css.flatten→zks w (l.take n) (css.take n)∧w.rangeAt b o (css.take n).flatten:=by
   intro l
   induction l with
   | nil=>intro css n o hr hg; simp only [zks] at hr; subst hr; simp [zks]; intro j v hj; simp at hj
   | cons t l ih=>
    rintro _ n o ⟨c,r,rfl,h1,h2⟩ hg
    cases n with
    | zero=>simp [zks]; intro j v hj; simp at hj
    | succ n=>
     rw[List.flatten_cons,zx] at hg
     obtain⟨g1,g2⟩:=ih r n _ h2 hg.2
     refine⟨⟨c,r.take n,by simp,h1,g1⟩,?_⟩
     rw[List.take_succ_cons,List.flatten_cons,zx]
     exact⟨hg.1,g2⟩
  refine⟨_,c,rfl,h1,fun n hn=>.inr ⟨b,o,c,css.take n,by rw[List.length_take,Nat.min_eq_left hn],by rw[List.length_take]; omega,(key s css n o h2 h3).1,(key s css n o h2 h3).2⟩⟩
theorem zij.run_len (S:SpT P N M) {w w':World} {v:Value} {l:List Tr} (h:zij w v l) {ty:TypeId}:(Builtin.len_ #[N.zak] ty #[v]).run P w'=.ok (.int .i64 l.length) w':=by
 rcases h with⟨ad,c,rfl,rfl⟩ | ⟨b,o,c,css,rfl,_⟩
 ·exact S.tr.lt.run_len
 ·exact S.tr.lt.run_len
theorem zach (S:SpT P N M) (hF:FOk P M.zjy 1 (zmo N M) [.var 1]) {w w0:World} {v:Value} {s:List Tr} (h:zij w0 v s):Call P M.zjy #[v] w fun v' w'=>w=w'∧zij w0 v' (zef s):=by
 obtain⟨fs,ht⟩:=S.tr.ti
 refine hF.call rfl fun loc N' hlo=>?_
 unfold zmo
 obtain⟨ad,c,hv,hc,hcut⟩:=h.cut
 refine zd fun K hK=>zao (hK _ _ ?_)
 clear hK K
 obtain⟨σ,hσ⟩:∃ σ,σ=upd (zdf #[v]) 1 (.slice none 0 0):=⟨_,rfl⟩
 have f0:σ 0=v:=by rw[hσ,zg (by decide)]; rfl
 rw[← hσ]
 clear hσ
 refine zd fun K hK=>zi fun τ=>?_
 have hn:(if (32767:Int) < (s.length:Int) then (32767:Int) else (s.length:Int))=((min 32767 s.length:Nat):Int):=by split<;>omega
 have hsl:=fun {w:World}=>zhj (P:=P) (w:=w) S.tr.lt ht (ad:=ad) (n:=s.length) (c:=c) (h:=min 32767 s.length) (k:=.i64) (by omega)
 simp +decide only [bK,bE,Nat.reduceBeqDiff,BEq.rfl,Nat.reduceAdd,Nat.zero_add,Option.map_some,Option.map_none,f0,h.run_len S,zxb,zabo,hn]
 rw[hv]
 simp +decide only [bK,hsl]
 refine hK _ _ (zb fun σ' hσ=>zbb ⟨.inr rfl,_,rfl,rfl,?_⟩)
 have g1:=hσ 1
 simp +decide only [bE,BEq.rfl,Nat.reduceAdd] at g1
 rw[g1]
 have h2:=hcut (min 32767 s.length) (by omega)
 rwa [show s.take (min 32767 s.length)=zef s by unfold zef most; rw[List.take_eq_take_iff]; omega] at h2
end
theorem RepA.out {w:World} {t:Tr} {cs:List Value} (h:RepA w t cs):∃ vs vl vu,cs=[.int .i64 t.n,vs,.bool t.nl,vl,vu]∧OctA w vs t.s∧zij w vl t.l∧zkr w vu t.u:=by
 cases t with
 | mk n s nl l u=>
  simp only [RepA] at h
  obtain⟨vs,vl,vu,h1,h2,h3,h4⟩:=h
  exact⟨vs,vl,vu,h1,h2,h3,h4⟩
theorem RepA.mk' {w:World} {t:Tr} {vs vl vu:Value} (h2:OctA w vs t.s) (h3:zij w vl t.l) (h4:zkr w vu t.u):RepA w t [.int .i64 t.n,vs,.bool t.nl,vl,vu]:=by
 cases t with
 | mk n s nl l u=>simp only [RepA]; exact⟨vs,vl,vu,rfl,h2,h3,h4⟩
theorem zij.one {w:World} {v:Value} {l:List Tr} (h:zij w v l):v.oneCell'=true:=by
 rcases h with⟨ad,c,rfl,_⟩ | ⟨b,o,c,css,rfl,_⟩<;>rfl
theorem zkr.one {w:World} {v:Value} {l:List (Nat × List UInt8)} (h:zkr w v l):v.oneCell'=true:=by
 rcases h with⟨ad,c,rfl,_⟩ | ⟨b,o,c,css,rfl,_⟩<;>rfl
theorem RepA.len {w:World} {t:Tr} {cs:List Value} (h:RepA w t cs):cs.length=5:=by
 obtain⟨vs,vl,vu,rfl,_⟩:=h.out; rfl
theorem RepA.ones {w:World} {t:Tr} {cs:List Value} (h:RepA w t cs):∀ c∈cs,c.oneCell'=true:=by
 obtain⟨vs,vl,vu,rfl,h1,h2,h3⟩:=h.out
 intro c hc
 simp at hc
 rcases hc with rfl | rfl | rfl | rfl | rfl
 ·rfl
 ·exact h1.one
 ·rfl
 ·exact h2.one
 ·exact h3.one
theorem zks.get {w:World}:∀ {l:List Tr} {css:List (List Value)} {j:Nat} {t:Tr},zks w l css→l[j]?=some t→∃ c,css[j]?=some c∧RepA w t c
 | [],_,j,t,_,hj=>by simp at hj
 | t' :: l,_,0,t,⟨c,r,h1,h2,h3⟩,hj=>by subst h1; simp at hj; subst hj; exact⟨c,rfl,h2⟩
 | t' :: l,_,j+1,t,⟨c,r,h1,h2,h3⟩,hj=>by subst h1; simpa using zks.get h3 (by simpa using hj)
theorem zks.len5 {w:World}:∀ {l:List Tr} {css:List (List Value)},zks w l css→∀ x∈css,x.length=5
 | [],_,h,x,hx=>by simp only [zks] at h; subst h; simp at hx
 | t :: l,_,⟨c,r,h1,h2,h3⟩,x,hx=>by
  subst h1
  rcases List.mem_cons.1 hx with rfl | hx
  ·exact h2.len
  ·exact zks.len5 h3 x hx
theorem zij.get {w:World} {v:Value} {l:List Tr} (h:zij w v l) {j:Nat} {t:Tr} (hj:l[j]?=some t):∃ b o c cs,v=.slice (some ⟨b,o,none⟩) l.length c∧RepA w t cs∧w.rangeAt b (o+j * 5) cs:=by
 rcases h with⟨ad,c,rfl,rfl⟩ | ⟨b,o,c,css,rfl,h1,h2,h3⟩
 ·simp at hj
 ·obtain⟨cs,g1,g2⟩:=h2.get hj
  exact⟨b,o,c,cs,rfl,g2,zmn h3 h2.len5 g1⟩
theorem tr0_rep {w:World}:RepA w tr0 zT:=by
 exact RepA.mk' (t:=tr0) (.inl ⟨_,_,rfl,rfl⟩) (.inl ⟨_,_,rfl,rfl⟩) (.inl ⟨_,_,rfl,rfl⟩)
section
variable {P:Program} {N:Nums} {M:zdd}
theorem zga {tt tg lt lg:TypeId} (hT:zsr P N tt tg lt lg) {w1:World} {b o:Nat} {cs:List Value} (hr:w1.rangeAt b o cs) (hl:cs.length=5):(Instr.loadAt tt (.pointer (some ⟨b,o,none⟩))).run P w1=.ok (.agg cs.toArray) w1:=by
 obtain⟨fs,h⟩:=hT.ti
 have hlv:∀ (f:Array Field) (x:List Value),ldv (.struct f) x=.agg x.toArray:=fun _ _=>rfl
 have hl2:=h.run_load (w:=w1) (b:=b) (o:=o) hr hl (fun h=>by cases h)
 rw[hl2,hlv]
theorem call_atS (B:Base P N) (S:SpT P N M) (hF:FOk P M.zib 2 (zqr N M) [.cell 3 N.zf]) {wS w:World} {t:Tr} {cs:List Value} (mS:Mod wS w zy) (h:RepA wS t cs) (i:Nat) :
  Call P M.zib #[.agg cs.toArray,.int .i64 i] w fun v w'=>∃ cs',v=.agg cs'.toArray∧RepA wS (atT t i) cs'∧Mod w w' zy:=by
 refine hF.call rfl fun loc N' hlo=>?_
 unfold zqr
 obtain⟨vs,vl,vu,rfl,h1,h2,h3⟩:=h.out
 obtain⟨fs,hti⟩:=S.tr.ti
 refine zd fun K hK=>zi fun τ=>?_
 simp +decide only [bK,bE,Nat.reduceAdd,Nat.zero_add]
 obtain⟨w1,hw1⟩:∃ w1,w1=w.alloc (.cells (Value.cells (.agg [.int .i64 t.n,vs,.bool t.nl,vl,vu].toArray)) N.zf):=⟨_,rfl⟩
 have m1:Mod w w1 zy:=by rw[hw1]; exact Mod.alloc _ _ _
 have s1:w1.heap.size=w.heap.size+1:=by rw[hw1]; exact zav _ _
 have r1:w1.rangeAt w.heap.size 0 [.int .i64 t.n,vs,.bool t.nl,vl,vu]:=by rw[hw1]; exact zr w _ _ _
 rw[← hw1]
 clear hw1
 have hal:=hti.run_alloc (w:=w1) (.tuple #[])
 obtain⟨w2,hw2⟩:∃ w2,w2=w1.alloc (.cells (Value.cells (.agg zT.toArray)) N.zf):=⟨_,rfl⟩
 have m2:Mod w1 w2 zy:=by rw[hw2]; exact Mod.alloc _ _ _
 have s2:w2.heap.size=w1.heap.size+1:=by rw[hw2]; exact zav _ _
 have r2:w2.rangeAt w1.heap.size 0 zT:=by rw[hw2]; exact zr w1 zT.toArray _ _
 have t2:w2.there w1.heap.size 0 5:=by rw[hw2]; exact zbq w1 zT.toArray N.zf
 rw[← hw2] at hal
 simp +decide only [bK,hal]
 clear hal hw2
 refine hK _ _ (zb fun σ hσ=>?_)
 have f1:=hσ 1
 have f2:=hσ 2
 have f3:=hσ 3
 simp +decide only [bE,Nat.reduceBeqDiff,BEq.rfl,Nat.reduceAdd,zck] at f1 f2 f3
 clear hσ hK K
 have r1':=zad m2 r1
 have m02:Mod w w2 zy:=m1.trans' m2
 have x3:=r1' 3 _ rfl
 refine zd fun K hK=>zd fun K1 hK1=>zi fun τ=>?_
 simp +decide only [bK,bE,Nat.reduceBeqDiff,BEq.rfl,Nat.reduceAdd,Nat.zero_add,f1,f2,S.tr.h3.run,S.tr.lt.run_load1 rfl,x3,h2.run_len S]
 refine hK1 _ _ (zb fun σ1 hσ=>?_)
 have g1:=hσ 1
 have g2:=hσ 2
 have g3:=hσ 3
 have g4:=hσ 4
 simp +decide only [bE,Nat.reduceBeqDiff,BEq.rfl,Nat.reduceAdd,f1,f2,f3] at g1 g2 g3 g4
 clear hσ hK1 K1 f1 f2 f3
 refine W_if hlo g4 ?_
 by_cases hi:i < t.l.length
 ·have hi':(i:Int) < (t.l.length:Int):=by omega
  simp only [hi',decide_true,if_true]
  obtain⟨b,o,c,cs',hv,hr,hg⟩:=h2.get (List.getElem?_eq_getElem hi)
  have hg2:=zad (mS.trans' m02) hg
  obtain⟨w3,hst,m3,s3,r3,_⟩:=put_tree S.tr r2 rfl t2 hr.len hr.ones
  have hix:=fun {w:World}=>zcb (P:=P) (w:=w) S.tr.lt hti (bl:=b) (o:=o) (n:=t.l.length) (c:=c) (i:=i) (k:=.i64) hi
  refine zd fun K2 hK2=>zi fun τ=>?_
  simp +decide only [bK,bE,Nat.reduceBeqDiff,BEq.rfl,Nat.reduceAdd,Nat.zero_add,g1,g2,g3,S.tr.h3.run,S.tr.lt.run_load1 rfl,x3]
  rw[hv]
  simp +decide only [bK,hix,zga S.tr hg2 hr.len,hst]
  refine hK2 _ _ (zb fun σ2 hσ=>zbb ⟨.inr rfl,.agg cs'.toArray,?_,cs',rfl,?_,m02.fresh m3 fun k o h=>by have:k=w1.heap.size:=h; omega⟩)
  ·have p3:=hσ 3
   simp +decide only [bE,Nat.reduceBeqDiff,Nat.reduceAdd,g3] at p3
   exact⟨_,p3,ret_tree S.tr r3 hr.len⟩
  ·rw[show atT t i=t.l[i] by simp [atT,List.getD,hi]]
   exact hr
 ·have hi':¬ (i:Int) < (t.l.length:Int):=by omega
  simp only [hi',decide_false,Bool.false_eq_true,if_false]
  refine zbd (hK _ _ ?_)
  obtain⟨w3,hst,m3,s3,r3,_⟩:=put_tree S.tr r2 rfl t2 (cs:=zT) rfl (by decide)
  have e0:∀ ρ:Env,(#[]:Array (Nat × Operand)).map (fun p=>(p.1,ev ρ p.2))=#[]:=fun ρ=>by simp
  refine zd fun K2 hK2=>zi fun τ=>?_
  simp +decide only [bK,bE,Nat.reduceBeqDiff,BEq.rfl,Nat.reduceAdd,e0,build0 S.tr,g3,hst]
  refine hK2 _ _ (zb fun σ2 hσ=>zbb ⟨.inr rfl,.agg zT.toArray,?_,zT,rfl,?_,m02.fresh m3 fun k o h=>by have:k=w1.heap.size:=h; omega⟩)
  ·have p3:=hσ 3
   simp +decide only [bE,Nat.reduceBeqDiff,Nat.reduceAdd,g3] at p3
   exact⟨_,p3,ret_tree S.tr r3 rfl⟩
  ·rw[show atT t i=tr0 by simp [atT,List.getD,List.getElem?_eq_none (show t.l.length≤i by omega)]]
   exact tr0_rep
theorem call_at (B:Base P N) (S:SpT P N M) (hF:FOk P M.zib 2 (zqr N M) [.cell 3 N.zf]) {w:World} {t:Tr} {cs:List Value} (h:RepA w t cs) (i:Nat) :
  Call P M.zib #[.agg cs.toArray,.int .i64 i] w fun v w'=>∃ cs',v=.agg cs'.toArray∧RepA w' (atT t i) cs'∧Mod w w' zy:=
 (call_atS B S hF (.refl w zy) h i).mono fun _ _ ⟨cs',h1,h2,h3⟩=>⟨cs',h1,RepA.stay h3 _ h2,h3⟩
end
theorem RepF.out {w:World} {f:Fld} {cs:List Value} (h:RepF w f cs):∃ v,cs=[.int .i64 f.kind,.int .i64 f.frm,.int .i64 f.to,.int .i64 f.null,.int .i64 f.tag,.int .i64 f.dflt,.int .i64 f.of,v]∧zik w v f.sub:=by
 cases f with
 | mk a b c d e f g sub=>
  simp only [RepF] at h
  exact h
theorem RepF.mk' {w:World} {f:Fld} {v:Value} (h:zik w v f.sub):RepF w f [.int .i64 f.kind,.int .i64 f.frm,.int .i64 f.to,.int .i64 f.null,.int .i64 f.tag,.int .i64 f.dflt,.int .i64 f.of,v]:=by
 cases f with
 | mk a b c d e f g sub=>simp only [RepF]; exact⟨v,rfl,h⟩
theorem zik.one {w:World} {v:Value} {l:List Fld} (h:zik w v l):v.oneCell'=true:=by
 rcases h with⟨ad,c,rfl,_⟩ | ⟨b,o,c,css,rfl,_⟩<;>rfl
theorem RepF.len {w:World} {t:Fld} {cs:List Value} (h:RepF w t cs):cs.length=8:=by
 obtain⟨v,rfl,_⟩:=h.out; rfl
theorem RepF.ones {w:World} {t:Fld} {cs:List Value} (h:RepF w t cs):∀ c∈cs,c.oneCell'=true:=by
 obtain⟨v,rfl,h1⟩:=h.out
 intro c hc
 simp only [List.mem_cons,List.not_mem_nil,or_false] at hc
 rcases hc with rfl | rfl | rfl | rfl | rfl | rfl | rfl | rfl
 all_goals first | rfl | exact h1.one
theorem zhf.get {w:World}:∀ {l:List Fld} {css:List (List Value)} {j:Nat} {t:Fld},zhf w l css→l[j]?=some t→∃ c,css[j]?=some c∧RepF w t c
 | [],_,j,t,_,hj=>by simp at hj
 | t' :: l,_,0,t,⟨c,r,h1,h2,h3⟩,hj=>by subst h1; simp at hj; subst hj; exact⟨c,rfl,h2⟩
 | t' :: l,_,j+1,t,⟨c,r,h1,h2,h3⟩,hj=>by subst h1; simpa using zhf.get h3 (by simpa using hj)
theorem zhf.len8 {w:World}:∀ {l:List Fld} {css:List (List Value)},zhf w l css→∀ x∈css,x.length=8
 | [],_,h,x,hx=>by simp only [zhf] at h; subst h; simp at hx
 | t :: l,_,⟨c,r,h1,h2,h3⟩,x,hx=>by
  subst h1
  rcases List.mem_cons.1 hx with rfl | hx
  ·exact h2.len
  ·exact zhf.len8 h3 x hx
theorem zik.get {w:World} {v:Value} {l:List Fld} (h:zik w v l) {j:Nat} {t:Fld} (hj:l[j]?=some t):∃ b o c cs,v=.slice (some ⟨b,o,none⟩) l.length c∧RepF w t cs∧w.rangeAt b (o+j * 8) cs:=by
 rcases h with⟨ad,c,rfl,rfl⟩ | ⟨b,o,c,css,rfl,h1,h2,h3⟩
 ·simp at hj
 ·obtain⟨cs,g1,g2⟩:=h2.get hj
  exact⟨b,o,c,cs,rfl,g2,zmn h3 h2.len8 g1⟩
section
variable {P:Program} {N:Nums} {M:zdd}
theorem zik.run_len (S:SpT P N M) {w w':World} {v:Value} {l:List Fld} (h:zik w v l) {ty:TypeId}:(Builtin.len_ #[M.zaz] ty #[v]).run P w'=.ok (.int .i64 l.length) w':=by
 rcases h with⟨ad,c,rfl,rfl⟩ | ⟨b,o,c,css,rfl,_⟩
 ·exact S.lf.run_len
 ·exact S.lf.run_len
theorem call_has (B:Base P N) (S:SpT P N M) (hF:FOk P M.zfx 2 (zjo N M) [.var 3]) {w:World} {f:Fld} {cs:List Value} (h:RepF w f cs) (v:Int) :
  Call P M.zfx #[.agg cs.toArray,.int .i64 v] w fun r w'=>r=.bool (f.has v)∧Mod w w' zy:=by
 refine hF.call rfl fun loc N' hlo=>?_
 unfold zjo
 obtain⟨vs,rfl,h1⟩:=h.out
 refine zd fun K hK=>zi fun τ=>?_
 simp +decide only [bK,bE,Nat.reduceAdd,Nat.zero_add]
 obtain⟨w1,hw1⟩:∃ w1,w1=w.alloc (.cells (Value.cells (.agg [.int .i64 f.kind,.int .i64 f.frm,.int .i64 f.to,.int .i64 f.null,.int .i64 f.tag,.int .i64 f.dflt,.int .i64 f.of,vs].toArray)) M.zn):=⟨_,rfl⟩
 have m1:Mod w w1 zy:=by rw[hw1]; exact Mod.alloc _ _ _
 have r1:w1.rangeAt w.heap.size 0 [.int .i64 f.kind,.int .i64 f.frm,.int .i64 f.to,.int .i64 f.null,.int .i64 f.tag,.int .i64 f.dflt,.int .i64 f.of,vs]:=by rw[hw1]; exact zr w _ _ _
 rw[← hw1]
 clear hw1
 refine hK _ _ (zb fun σ hσ=>?_)
 have f1:=hσ 1
 have f2:=hσ 2
 simp +decide only [bE,Nat.reduceBeqDiff,BEq.rfl,Nat.reduceAdd,zck] at f1 f2
 clear hσ hK K
 have x1:=r1 1 _ rfl
 have x2:=r1 2 _ rfl
 refine zd fun K hK=>zi fun τ=>?_
 have key:∀ σ':Env,σ' 3=.bool (f.has v)→K σ' w1:=fun σ' h=>hK _ _ (zbb ⟨.inr rfl,_,rfl,h,m1⟩)
 by_cases a:f.frm≤v
 ·by_cases b:f.to < 0
  ·simp +decide only [bK,bE,Nat.reduceBeqDiff,decide_true,BEq.rfl,Nat.reduceAdd,Nat.zero_add,if_true,f1,f2,S.f1.run,S.f2.run,B.int.run_load1 rfl,x1,x2,a,b,zap,zbi,Bool.not_false,zca]
   refine zb fun σ' hσ=>key σ' ?_
   have g:=hσ 3
   simp +decide only [bE,BEq.rfl,Nat.reduceAdd] at g
   rw[g]; simp [Fld.has,a,b]
  ·simp +decide only [bK,bE,Nat.reduceBeqDiff,decide_true,decide_false,BEq.rfl,Nat.reduceAdd,Nat.zero_add,if_false,if_true,f1,f2,S.f1.run,S.f2.run,B.int.run_load1 rfl,x1,x2,a,b,zap,zca]
   refine zb fun σ' hσ=>key σ' ?_
   have g:=hσ 3
   simp +decide only [bE,BEq.rfl,Nat.reduceAdd] at g
   rw[g]; simp [Fld.has,a,b]
 ·simp +decide only [bK,bE,Nat.reduceBeqDiff,decide_false,BEq.rfl,Nat.reduceAdd,Nat.zero_add,f1,f2,S.f1.run,B.int.run_load1 rfl,x1,a,zbi,Bool.not_true,zca]
  refine zb fun σ' hσ=>key σ' ?_
  have g:=hσ 3
  simp +decide only [bE,BEq.rfl,Nat.reduceAdd] at g
  rw[g]; simp [Fld.has,a]
theorem call_null (B:Base P N) (S:SpT P N M) (hF:FOk P M.zgt 3 (ziw N M) [.var 5]) {w:World} {f:Fld} {t:Tr} {cs ct:List Value} (h:RepF w f cs) (ht:RepA w t ct) (v:Int) :
  Call P M.zgt #[.agg cs.toArray,.int .i64 v,.agg ct.toArray] w fun r w'=>r=.bool (f.nullB v t)∧Mod w w' zy:=by
 refine hF.call rfl fun loc N' hlo=>?_
 unfold ziw
 obtain⟨vs,rfl,h1⟩:=h.out
 obtain⟨ts,tl,tu,rfl,h2,h3,h4⟩:=ht.out
 refine zd fun K hK=>zi fun τ=>?_
 simp +decide only [bK,bE,Nat.reduceBeqDiff,Nat.reduceAdd,Nat.zero_add]
 obtain⟨w1,hw1⟩:∃ w1,w1=w.alloc (.cells (Value.cells (.agg [.int .i64 f.kind,.int .i64 f.frm,.int .i64 f.to,.int .i64 f.null,.int .i64 f.tag,.int .i64 f.dflt,.int .i64 f.of,vs].toArray)) M.zn):=⟨_,rfl⟩
 have m1:Mod w w1 zy:=by rw[hw1]; exact Mod.alloc _ _ _
 have r1:w1.rangeAt w.heap.size 0 [.int .i64 f.kind,.int .i64 f.frm,.int .i64 f.to,.int .i64 f.null,.int .i64 f.tag,.int .i64 f.dflt,.int .i64 f.of,vs]:=by rw[hw1]; exact zr w _ _ _
 rw[← hw1]
 clear hw1
 obtain⟨w2,hw2⟩:∃ w2,w2=w1.alloc (.cells (Value.cells (.agg [.int .i64 t.n,ts,.bool t.nl,tl,tu].toArray)) N.zf):=⟨_,rfl⟩
 have m2:Mod w1 w2 zy:=by rw[hw2]; exact Mod.alloc _ _ _
 have r2:w2.rangeAt w1.heap.size 0 [.int .i64 t.n,ts,.bool t.nl,tl,tu]:=by rw[hw2]; exact zr w1 _ _ _
 rw[← hw2]
 clear hw2
 have m02:=m1.trans' m2
 refine hK _ _ (zb fun σ hσ=>?_)
 have f1:=hσ 1
 have f3:=hσ 3
 have f4:=hσ 4
 simp +decide only [bE,Nat.reduceBeqDiff,BEq.rfl,Nat.reduceAdd,zkn] at f1 f3 f4
 clear hσ hK K
 have x3:=zad m2 r1 3 _ rfl
 have y2:=r2 2 _ rfl
 refine zd fun K hK=>zi fun τ=>?_
 have key:∀ σ':Env,σ' 5=.bool (f.nullB v t)→K σ' w2:=fun σ' h=>hK _ _ (zbb ⟨.inr rfl,_,rfl,h,m02⟩)
 cases hn:t.nl with
 | true=>
  rw[hn] at y2
  by_cases a:f.null ≥ 0
  ·simp +decide only [bK,bE,Nat.reduceBeqDiff,decide_true,BEq.rfl,Nat.reduceAdd,Nat.zero_add,if_true,f1,f3,f4,S.f3.run,S.tr.h2.run,B.int.run_load1 rfl,B.bool.run_load1 rfl,x3,y2,a,zap,zca]
   refine zb fun σ' hσ=>key σ' ?_
   have g:=hσ 5
   simp +decide only [bE,BEq.rfl,Nat.reduceAdd] at g
   rw[g]
   have a':0≤f.null:=a
   simp [Fld.nullB,hn,a']
  ·simp +decide only [bK,bE,Nat.reduceBeqDiff,decide_false,BEq.rfl,Nat.reduceAdd,Nat.zero_add,if_false,if_true,f3,f4,S.f3.run,S.tr.h2.run,B.int.run_load1 rfl,B.bool.run_load1 rfl,x3,y2,a,zap,zbi,Bool.not_true,zca]
   refine zb fun σ' hσ=>key σ' ?_
   have g:=hσ 5
   simp +decide only [bE,BEq.rfl,Nat.reduceAdd] at g
   rw[g]
   have a':¬ 0≤f.null:=a
   simp [Fld.nullB,hn,a']
 | false=>
  rw[hn] at y2
  simp +decide only [bK,bE,Nat.reduceBeqDiff,BEq.rfl,Nat.reduceAdd,Nat.zero_add,if_false,f4,S.tr.h2.run,B.bool.run_load1 rfl,y2,zbi,Bool.not_true,zca]
  refine zb fun σ' hσ=>key σ' ?_
  have g:=hσ 5
  simp +decide only [bE,BEq.rfl,Nat.reduceAdd] at g
  rw[g]; simp [Fld.nullB,hn]
theorem zmc {loc:List Nat} {N':Nat} {Q:Exit→Env→World→Prop} {σ:Env} {w:World} {ti i c:Nat} {k n:Int} {x y:C} (hlo:zei loc N') (hi:σ i=.int .i64 k) (h:W P loc N' (if k=n then x else y) Q (upd σ c (.bool (decide (k=n)))) w) :
  W P loc N' (.seq (.ops [⟨some 0,.binOp .eql ti (V i) (.const (.int .i64 n)) ti,0,none,[]⟩,⟨some (c+100),.assign (T 0),0,none,[]⟩]) (.cond c x y)) Q σ w:=by
 refine zd fun K hK=>zi fun τ=>?_
 simp +decide only [bK,bE,BEq.rfl,hi]
 rw[zk,zhl (by decide),locs_envOf,show (k == n)=decide (k=n) by by_cases e:k=n<;>simp [e]]
 refine hK _ _ (W_if hlo (upd_same _ _ _) ?_)
 by_cases e:k=n
 ·rw[if_pos e] at h; rw[if_pos (by simpa using e)]; exact h
 ·rw[if_neg e] at h; rw[if_neg (by simpa using e)]; exact h
theorem W_case2 {loc:List Nat} {N':Nat} {Q:Exit→Env→World→Prop} {σ:Env} {w:World} {ti i c:Nat} {k n n':Int} {x y:C} (hlo:zei loc N') (hi:σ i=.int .i64 k) (hic:i≠c) (h:W P loc N' (if k=n∨k=n' then x else y) Q (upd σ c (.bool (decide (k=n∨k=n')))) w) :
  W P loc N' (.seq (.seq (.ops [⟨some 0,.binOp .eql ti (V i) (.const (.int .i64 n)) ti,0,none,[]⟩,⟨some (c+100),.assign (T 0),0,none,[]⟩]) (.cond c .skip (.ops [⟨some 0,.binOp .eql ti (V i) (.const (.int .i64 n')) ti,0,none,[]⟩,⟨some (c+100),.assign (T 0),0,none,[]⟩]))) (.cond c x y)) Q σ w:=by
 refine zd fun K hK=>zmc hlo hi ?_
 by_cases e:k=n
 ·rw[if_pos e]
  refine zbd (hK _ _ ?_)
  rw[show decide (k=n)=decide (k=n∨k=n') by simp [e]]
  refine W_if hlo (upd_same _ _ _) ?_
  rw[if_pos (.inl e)] at h
  rw[if_pos (by simp [e])]; exact h
 ·rw[if_neg e]
  refine zi fun τ=>?_
  have hi':upd σ c (.bool (decide (k=n))) i=.int .i64 k:=by rw[zg hic]; exact hi
  simp +decide only [bK,bE,BEq.rfl,hi']
  rw[zk,zhl (by decide),locs_envOf,show (k == n')=decide (k=n') by by_cases e:k=n'<;>simp [e]]
  have hu:upd (upd σ c (.bool (decide (k=n)))) c (.bool (decide (k=n')))=upd σ c (.bool (decide (k=n∨k=n'))):=by
   funext j
   by_cases hj:j=c
   ·subst hj; simp [e]
   ·rw[zg hj,zg hj,zg hj]
  rw[hu]
  refine hK _ _ (W_if hlo (upd_same _ _ _) ?_)
  by_cases e':k=n'
  ·rw[if_pos (.inr e')] at h; rw[if_pos (by simp [e'])]; exact h
  ·rw[if_neg (by simp [e,e'])] at h; rw[if_neg (by simp [e,e'])]; exact h
theorem sp_width (B:Base P N) (hF:FOk P M.zkw 1 (zns N M) [.var 1]) (w:World) (k:Int):Call P M.zkw #[.int .i64 k] w fun r w'=>r=.int .i64 (zge k)∧w=w':=by
 refine hF.call rfl fun loc N' hlo=>?_
 unfold zns
 refine zd fun K hK=>zao (hK _ _ ?_)
 clear hK K
 obtain⟨σ,hσ⟩:∃ σ,σ=upd (zdf #[.int .i64 k]) 1 (.int .i64 0):=⟨_,rfl⟩
 have f0:σ 0=.int .i64 k:=by rw[hσ,zg (by decide)]; rfl
 rw[← hσ]
 clear hσ
 have fin:∀ {Q:Exit→Env→World→Prop} {σ:Env} (n:Int),(∀ σ',σ' 1=.int .i64 n→Q .ret σ' w)→W P loc N' (.seq (zfu 1 (.int .i64 n)) .ret) Q σ w:=fun n h=>zd fun K hK=>zao (hK _ _ (zbb (h _ (upd_same _ _ _))))
 have R:∀ {σ':Env} {n:Int},n=zge k→σ' 1=.int .i64 n→retQ P [.var 1] (fun r w'=>r=.int .i64 (zge k)∧w=w') .ret σ' w:=fun {σ' n} hn h=>⟨.inr rfl,_,rfl,by rw[h,hn],rfl⟩
 refine zd fun K hK=>zd fun K1 hK1=>zi fun τ=>?_
 simp +decide only [bK,bE,Nat.reduceAdd,Nat.zero_add,f0]
 refine hK1 _ _ (zb fun σ1 hσ=>?_)
 have g2:=hσ 2
 simp +decide only [bE,BEq.rfl,Nat.reduceAdd] at g2
 clear hσ
 refine zem (zmc hlo g2 ?_)
 by_cases e1:k=1
 ·rw[if_pos e1]
  exact fin 1 fun σ' h=>R (by simp [zge,e1]) h
 rw[if_neg e1]
 refine W_case2 hlo (by rw[zg (by decide)]; exact g2) (by decide) ?_
 by_cases e2:k=2∨k=5
 ·rw[if_pos e2]
  exact fin 2 fun σ' h=>R (by simp [zge,e1,e2]) h
 rw[if_neg e2]
 refine zmc hlo (by rw[zg (by decide),zg (by decide)]; exact g2) ?_
 by_cases e3:k=3
 ·rw[if_pos e3]
  exact fin 4 fun σ' h=>R (by simp [zge,e3]) h
 rw[if_neg e3]
 refine zbd (hK _ _ ?_)
 exact fin 8 fun σ' h=>R (by simp [zge,e1,e2,e3]) h
end
abbrev OwnB (w:World) (lo:Nat) (v:Value) (l:List UInt8):Prop:=Own w lo 1 v l.length (l.map zz)
theorem Own.mono_lo {w:World} {lo lo' sz n:Nat} {v:Value} {cs:List Value} (h:lo'≤lo) (ho:Own w lo sz v n cs):Own w lo' sz v n cs:=
 ho.imp id fun ⟨b,c,e,h1,r⟩=>⟨b,c,e,Nat.le_trans h h1,r⟩
theorem Own.octA {w:World} {lo:Nat} {v:Value} {l:List UInt8} (ho:OwnB w lo v l):OctA w v l:=by
 rcases ho with⟨e,h1,_⟩ | ⟨b,c,e,_,_,h1,_,h2,_⟩
 ·exact .inl ⟨_,_,e,List.length_eq_zero_iff.1 h1⟩
 ·exact .inr ⟨b,0,c,e,h1,h2⟩
theorem zmk {w:World} {lo:Nat}:OwnB w lo (.slice none 0 0) []:=.inl ⟨rfl,rfl,rfl⟩
theorem zot (l:List UInt8):∀ c∈l.map zz,c.oneCell'=true:=fun c hc=>by
 obtain⟨x,_,rfl⟩:=List.mem_map.1 hc; rfl
theorem Mod.ofOwn {w0 w w':World} {sz n:Nat} {v:Value} {cs:List Value} (ho:Own w w0.heap.size sz v n cs) (m0:Mod w0 w zy) (m:Mod w w' fun i _=>¬ zcl v i):Mod w0 w' zy:=
 m0.fresh m fun _ _ h=>(ho.blk h).1
section
variable {P:Program} {N:Nums} {M:zdd}
theorem zabr {st et ty:TypeId} {a b sz by':Nat} {z z':Value} {d:TypeDesc} (hS:TI P st (.slice et) a b z') (ht:TI P et d sz by' z) {w:World} {lo n m:Nat} {v src:Value} {cs new:List Value} (ho:Own w lo sz v n cs)
  (hsrc:∀ i:TypeInfo,P.info? et=some i→i.size=sz→Src P i.size st src m new w) (hnl:new.length=m * sz) (hlo:lo≤w.heap.size) (hz:z.cells.size=sz)
  (hbig:n+m < 1099511627776) (hby:by'≤128) (hm:v=.slice none 0 0→0 < m) :
  ∃ v' w',(Builtin.append_ #[st,st] ty #[v,src]).run P w=.ok v' w'∧Own w' lo sz v' (n+m) (cs++new)∧Mod w w' (fun i _=>¬ zcl v i)∧v'.oneCell'=true∧(∀ k,k < w.heap.size→zcl v k→zcl v' k):=by
 obtain⟨i,hi,hsz,hbytes,hzero⟩:=ht.info
 have hsrc':=hsrc i hi hsz
 clear hsrc
 have hsrc:=hsrc'
 clear hsrc'
 subst hsz
 have fits:∀ c,c < n+m→Builtin.nextslicecap (n+m) c * i.bytes≤281474976710656:=by
  intro c hc
  have h1:=nextslicecap_le hc
  have h2:Builtin.nextslicecap (n+m) c * i.bytes≤(2 * (n+m)) * 128:=Nat.mul_le_mul h1 (by omega)
  omega
 have grown:∀ (base:Option Addr) (c:Nat),v=.slice base n c→c < n+m→(Builtin.firstCells i.size n (.slice base n c)).run P w.drew=.ok cs.toArray w.drew→cs.length=n * i.size→
   ∃ v' w',(Builtin.append_ #[st,st] ty #[v,src]).run P w=.ok v' w'∧Own w' lo i.size v' (n+m) (cs++new)∧Mod w w' (fun i _=>¬ zcl v i)∧v'.oneCell'=true∧(∀ k,k < w.heap.size→zcl v k→zcl v' k):=by
  intro base c hv hc hold' hcl
  have hrun:=run_append_grow_src (P:=P) w st st ty et i z hS.und hi hzero base n c cs hold' src m new hsrc hc (by omega) (fits c hc)
  refine⟨_,_,by rw[hv]; exact hrun,.inr ⟨w.heap.size,_,rfl,hlo,by rw[zav]; exact Nat.lt_succ_self _,grownCap_ge w (n+m) c et,?_,?_,by rw[List.length_append,hcl,hnl,Nat.add_mul]⟩,(Mod.drew w _).trans' (Mod.alloc _ _ _),rfl,fun k hk _ b o s n c e=>by injection e with e1 _ _; injection e1 with e2; injection e2 with e3; omega⟩
  ·have ht2:=zbq w.drew ((cs++new).toArray++Builtin.zeroCells z.cells (grownCap w (n+m) c et - (n+m))) et
   intro j hj
   refine ht2 j ?_
   have hzc:(Builtin.zeroCells z.cells (grownCap w (n+m) c et - (n+m))).size=(grownCap w (n+m) c et - (n+m)) * i.size:=by simp [Builtin.zeroCells,hz]
   rw[Array.size_append,hzc,List.size_toArray,List.length_append,hcl,hnl,← Nat.add_mul,← Nat.add_mul]
   have hge:=grownCap_ge w (n+m) c et
   rwa [show n+m+(grownCap w (n+m) c et - (n+m))=grownCap w (n+m) c et by omega]
  ·have hr:=zr w.drew ((cs++new).toArray++Builtin.zeroCells z.cells (grownCap w (n+m) c et - (n+m))) et (0,0)
   exact(zx.1 (by simpa using hr)).1
 rcases ho with⟨hv,hn0,hcs⟩ | ⟨b,c,hv,hb1,hb2,hnc,hth,hrg,hcl⟩
 ·subst hcs
  have:=hm hv
  exact grown none 0 (by rw[hv,hn0]) (by omega) (by rw[hn0]; rfl) (by rw[hn0]; simp)
 ·by_cases hroom:n+m≤c
  ·have hle:n * i.size+new.length≤c * i.size:=by
    rw[hnl,← Nat.add_mul]; exact Nat.mul_le_mul_right _ hroom
   have hrun:=run_append_room_src (P:=P) w st st ty et i hS.und hi b 0 n c src m new hsrc hroom (fun j hj=>by
    have:=(hth (n * i.size+j) (by omega)).1; simpa [Nat.add_assoc] using this) (fun j hj=>by
    have:=(hth (n * i.size+j) (by omega)).2; simpa [Nat.add_assoc] using this)
   have ms:Mod w (w.setCells b (0+n * i.size) new) (rng b (0+n * i.size) new.length):=Mod.setCells _ _ _ fun _ k h1 h2=>⟨rfl,h1,h2⟩
   refine⟨_,_,by rw[hv]; exact hrun,.inr ⟨b,c,rfl,hb1,Nat.lt_of_lt_of_le hb2 ms.size,hroom,ms.there hb2 hth,?_,by rw[List.length_append,hcl,hnl,Nat.add_mul]⟩,ms.mono (fun k o _ h hn=>hn b 0 none n c hv h.1),rfl,fun k hk hn b' o' s' n' c' e=>by
    injection e with e1 _ _; injection e1 with e2; injection e2 with e3; subst e3; exact hn b 0 none n c hv⟩
   rw[zx]
   refine⟨ms.rangeAt hb2 (fun k h1 h2 h=>by have:=h.2.1; omega) hrg,?_⟩
   rw[hcl]
   have hex:∃ old:List Value,old.length=new.length∧w.rangeAt b (0+n * i.size) old:=by
    refine⟨(List.range new.length).map fun j=>(w.cell? ⟨b,(0+n * i.size)+j,none⟩).getD undef,by simp,fun j x hj=>?_⟩
    rw[List.getElem?_map] at hj
    cases hr:(List.range new.length)[j]? with
    | none=>rw[hr] at hj; simp at hj
    | some k=>
     rw[hr] at hj
     have hk:k=j:=by
      obtain⟨h1,h2⟩:=List.getElem?_eq_some_iff.1 hr
      simpa using h2.symm
     subst hk
     have hlt:k < new.length:=by have:=(List.getElem?_eq_some_iff.1 hr).1; simpa using this
     have hs:(w.cell? ⟨b,(0+n * i.size)+k,none⟩).isSome=true:=by have:=(hth (n * i.size+k) (by omega)).1; simpa [Nat.add_assoc] using this
     simp only [Option.map_some,Option.some.injEq] at hj
     cases hc:w.cell? ⟨b,(0+n * i.size)+k,none⟩ with
     | none=>rw[hc] at hs; cases hs
     | some x=>rw[hc] at hj; simp at hj; rw[hj]
   obtain⟨old,ho1,ho2⟩:=hex
   have:=zax new (0+n * i.size) w old ho2 (by omega)
   rwa [List.drop_of_length_le (by omega),List.append_nil] at this
  ·have hfc:(Builtin.firstCells i.size n (.slice (some ⟨b,0,none⟩) n c)).run P w.drew=.ok cs.toArray w.drew:=
    run_firstCells_some w.drew i.size n ⟨b,0,none⟩ n c cs hcl (fun j u hj=>by rw[Addr.add_mid]; exact hrg j u hj)
   exact grown (some ⟨b,0,none⟩) c hv (by omega) hfc hcl
theorem zdq (B:Base P N) {w:World} {lo:Nat} {v src:Value} {l s:List UInt8} {ty:TypeId} (ho:OwnB w lo v l) (hs:OctA w src s) (hlo:lo≤w.heap.size) (hbig:l.length+s.length < 1099511627776) :
  ∃ v' w',(Builtin.append_ #[N.za,N.za] ty #[v,src]).run P w=.ok v' w'∧OwnB w' lo v' (l++s)∧Mod w w' (fun i _=>¬ zcl v i)∧(∀ k,k < w.heap.size→zcl v k→zcl v' k):=by
 have main:(v=.slice none 0 0→0 < s.length)→∃ v' w',(Builtin.append_ #[N.za,N.za] ty #[v,src]).run P w=.ok v' w'∧OwnB w' lo v' (l++s)∧Mod w w' (fun i _=>¬ zcl v i)∧(∀ k,k < w.heap.size→zcl v k→zcl v' k):=by
  intro hm
  obtain⟨v',w',h1,h2,h3,_,h5⟩:=zabr (P:=P) (ty:=ty) B.Lu8 B.uint8 (m:=s.length) (src:=src) (new:=s.map zz) ho (fun i hi hsz=>by
   rcases hs with⟨ad,c,rfl,rfl⟩ | ⟨b,o,c,rfl,_,hr⟩
   ·cases ad with
    | none=>exact Src.ofNil w B.Lu8.und c
    | some a=>exact Src.ofSlice w B.Lu8.und a 0 c [] (by simp) (fun j u hj=>by simp at hj) (fun u hu=>by cases hu)
   ·exact Src.ofSlice w B.Lu8.und _ _ c _ (by rw[hsz]; simp) (fun j u hj=>by rw[Addr.add_mid]; exact hr j u hj) (zot s)) (by simp) hlo rfl hbig (by decide) hm
  exact⟨v',w',h1,by rw[OwnB,List.length_append,List.map_append]; exact h2,h3,h5⟩
 by_cases hv:v=.slice none 0 0
 ·by_cases h0:s=[]
  ·subst h0
   have hl:l=[]:=by
    rcases ho with⟨_,e,_⟩ | ⟨b,c,e,_⟩
    ·exact List.length_eq_zero_iff.1 e
    ·rw[hv] at e; cases e
   subst hl hv
   have hsv:∃ ad c,src=.slice ad 0 c:=by
    rcases hs with⟨ad,c,e,_⟩ | ⟨b,o,c,e,_⟩
    ·exact⟨ad,c,e⟩
    ·exact⟨_,c,e⟩
   obtain⟨ad,c,rfl⟩:=hsv
   exact⟨_,_,ztv B.Lu8 B.uint8,zmk,.refl _ _,fun k hk h=>h⟩
  ·exact main fun _=>List.length_pos_iff.2 h0
 ·exact main fun h=>absurd h hv
theorem zrg (B:Base P N) {w:World} {x:UInt8}:∃ w',(Instr.buildSlice N.za 1 #[(0,zz x)]).run P w=.ok (.slice (some ⟨w.heap.size,0,none⟩) 1 1) w'∧Mod w w' zy∧w'.heap.size=w.heap.size+1∧OwnB w' w.heap.size (.slice (some ⟨w.heap.size,0,none⟩) 1 1) [x]:=by
 have h:=zrh (w:=w) (v:=zz x) (cs:=[zz x]) B.Lu8 B.uint8 rfl rfl (by decide) (by decide)
 refine⟨_,h,Mod.alloc _ _ _,zav _ _,.inr ⟨w.heap.size,1,rfl,Nat.le_refl _,by rw[zav]; exact Nat.lt_succ_self _,Nat.le_refl _,?_,zr w _ _ _,rfl⟩⟩
 exact zbq w [zz x].toArray N.zh
end
theorem u8_octet (z:Int):Value.int .u8 (IntKind.u8.wrap z)=zz (UInt8.ofNat (IntKind.u8.wrap z).toNat):=octet_of (Go.wf_wrap .u8 z)
theorem zil (m:Nat) (h:m < 256):Value.int .u8 (m:Int)=zz (UInt8.ofNat m):=by
 have:=u8_octet m
 rw[show IntKind.u8.wrap (m:Int)=m by simp [IntKind.wrap,IntKind.signed,IntKind.bits]; omega,Int.toNat_natCast] at this
 exact this
theorem zee {n:Nat} (h:n < 128):uvB n=[UInt8.ofNat n]:=by rw[uvB,if_pos h]
theorem zgi {n:Nat} (h:¬ n < 128):uvB n=UInt8.ofNat (n % 128+128) :: uvB (n / 128):=by rw[uvB,if_neg h]
theorem uvB_len:∀ (k n:Nat),n < 128 ^ (k+1)→(uvB n).length≤k+1
 | 0,n,h=>by rw[zee (by omega)]; simp
 | k+1,n,h=>by
  by_cases h1:n < 128
  ·rw[zee h1]; simp
  ·rw[zgi h1,List.length_cons]
   have:=uvB_len k (n / 128) (by rw[Nat.pow_succ] at h; omega)
   omega
theorem zkb {n:Nat} (h:n < 2 ^ 64):(uvB n).length≤10:=uvB_len 9 n (by
 have:(2:Nat) ^ 64≤128 ^ (9+1):=by decide
 omega)
theorem band127u (n:Nat) (h:n < 2 ^ 64):band .u64 n 127=(n % 128:Nat):=by
 show IntKind.u64.wrap (((BitVec.ofInt 64 (n:Int) &&& BitVec.ofInt 64 127).toNat:Nat):Int)=_
 have e1:BitVec.ofInt 64 (n:Int)=BitVec.ofNat 64 n:=by simp
 have e2:BitVec.ofInt 64 127=BitVec.ofNat 64 127:=by decide
 rw[e1,e2]
 have e3:(BitVec.ofNat 64 n &&& BitVec.ofNat 64 127).toNat=n % 128:=by
  rw[BitVec.toNat_and,BitVec.toNat_ofNat,BitVec.toNat_ofNat,Nat.mod_eq_of_lt h]
  show n &&& 127=_
  exact Nat.and_two_pow_sub_one_eq_mod n 7
 rw[e3]
 exact zfi _ (by omega)
theorem bor128:∀ n:Nat,n < 128→bor .u8 n 128=(n+128:Nat):=by
 have h:∀ n:Fin 128,bor .u8 (n.val:Nat) 128=(n.val+128:Nat):=by decide +kernel
 exact fun n hn=>h ⟨n,hn⟩
theorem zaay (n:Nat) (h:n < 256):IntKind.u8.wrap n=n:=by
 simp [IntKind.wrap,IntKind.signed,IntKind.bits]; omega
section
variable {P:Program} {N:Nums} {M:zdd}
theorem zoh (B:Base P N) (hF:FOk P M.zdh 1 (ziy N M) [.var 1]) (w:World) (n:Nat) (hn:n < 2 ^ 64):Call P M.zdh #[.int .u64 n] w fun r w'=>OwnB w' w.heap.size r (uvB n)∧Mod w w' zy:=by
 refine hF.call rfl fun loc N' hlo=>?_
 unfold ziy
 refine zd fun K hK=>zao (hK _ _ ?_)
 clear hK K
 refine zd fun K hK=>zao (hK _ _ ?_)
 clear hK K
 obtain⟨σ,hσ⟩:∃ σ,σ=upd (upd (zdf #[.int .u64 n]) 1 (.slice none 0 0)) 2 (.slice none 0 0):=⟨_,rfl⟩
 have f0:σ 0=.int .u64 n:=by rw[hσ,zg (by decide),zg (by decide)]; rfl
 have f2:σ 2=.slice none 0 0:=by rw[hσ,upd_same]
 rw[← hσ]
 clear hσ
 have hlen:=zkb hn
 refine zd fun K hK=>zem (zpk (fun m σ w'=>∃ v acc,m < 2 ^ 64∧σ 0=.int .u64 (m:Nat)∧σ 2=v∧OwnB w' w.heap.size v acc∧acc++uvB m=uvB n∧Mod w w' zy) (n:=n) ⟨_,[],hn,f0,f2,zmk,by simp,.refl _ _⟩ ?_)
 rintro m σ1 w1 ⟨v,acc,hm,g0,g2,ho,hacc,m1⟩
 have hal:acc.length+(uvB m).length≤10:=by rw[← hacc] at hlen; simpa using hlen
 refine zd fun K1 hK1=>zd fun K2 hK2=>zi fun τ=>?_
 simp +decide only [bK,bE,BEq.rfl,Nat.reduceAdd,Nat.zero_add,g0]
 refine hK2 _ _ (zb fun σ2 hσ=>?_)
 have p0:=hσ 0
 have p2:=hσ 2
 have p3:=hσ 3
 simp +decide only [bE,Nat.reduceBeqDiff,BEq.rfl,Nat.reduceAdd,Nat.zero_add,g0,g2] at p0 p2 p3
 clear hσ hK2 K2 g0 g2
 refine W_if hlo p3 ?_
 by_cases hs:m < 128
 ·have:¬ (m:Int) > 127:=by omega
  simp only [this,decide_false,Bool.false_eq_true,if_false]
  refine zof ?_
  simp only [zfd,inB,if_true]
  refine hK _ _ (zd fun K3 hK3=>zi fun τ=>?_)
  have hcv:=fun {w:World}=>zat (P:=P) (w:=w) (k':=.u64) B.uint64 B.uint8 (n:=m) ⟨_,rfl⟩
  have e1:∀ ρ:Env,(#[(0,T 2)]:Array (Nat × Operand)).map (fun p=>(p.1,ev ρ p.2))=#[(0,ρ 2)]:=fun ρ=>by simp
  simp +decide only [bK,bE,Nat.reduceBeqDiff,BEq.rfl,Nat.reduceAdd,Nat.zero_add,p0,p2,hcv,e1,zaay m (by omega)]
  rw[zil m (by omega)]
  obtain⟨w3,hbs,m3,s3,ho3⟩:=zrg (w:=w1) B (x:=UInt8.ofNat m)
  simp +decide only [bK,hbs]
  obtain⟨v4,w4,hap,ho4,m4,_⟩:=zdq (ty:=N.za) B (ho.stay m3 fun _ _ _ h=>h) ho3.octA (by have:=m1.size; omega) (by rw[zee hs] at hal; simp at hal ⊢; omega)
  simp +decide only [bK,hap]
  refine hK3 _ _ (zb fun σ4 hσ=>zbb ⟨.inr rfl,_,rfl,?_⟩)
  have q1:=hσ 1
  simp +decide only [bE,BEq.rfl,Nat.reduceAdd] at q1
  rw[q1]
  refine⟨?_,Mod.ofOwn (ho.stay m3 fun _ _ _ h=>h) (m1.trans' m3) m4⟩
  rw[← hacc,zee hs]; exact ho4
 ·have:(m:Int) > 127:=by omega
  simp only [this,decide_true,if_true]
  refine zbd (hK1 _ _ (zem (zd fun K3 hK3=>zi fun τ=>?_)))
  have hcv:=fun {w:World}=>zat (P:=P) (w:=w) (k':=.u64) B.uint64 B.uint8 (n:=((m % 128:Nat):Int)) ⟨_,rfl⟩
  have e1:∀ ρ:Env,(#[(0,T 4)]:Array (Nat × Operand)).map (fun p=>(p.1,ev ρ p.2))=#[(0,ρ 4)]:=fun ρ=>by simp
  simp +decide only [bK,bE,Nat.reduceBeqDiff,BEq.rfl,Nat.reduceAdd,Nat.zero_add,p0,p2,band127u m hm,hcv,e1,zaay (m % 128) (by omega),bor128 (m % 128) (by omega)]
  rw[zil (m % 128+128) (by omega)]
  obtain⟨w3,hbs,m3,s3,ho3⟩:=zrg (w:=w1) B (x:=UInt8.ofNat (m % 128+128))
  simp +decide only [bK,hbs]
  obtain⟨v4,w4,hap,ho4,m4,_⟩:=zdq (ty:=N.za) B (ho.stay m3 fun _ _ _ h=>h) ho3.octA (by have:=m1.size; omega) (by simp; omega)
  simp +decide only [bK,hap]
  refine hK3 _ _ (zb fun σ4 hσ=>zi fun τ=>?_)
  have q0:=hσ 0
  have q2:=hσ 2
  simp +decide only [bE,Nat.reduceBeqDiff,BEq.rfl,Nat.reduceAdd,Nat.zero_add,p0] at q0 q2
  clear hσ
  have hsh:(m:Int).fdiv (2 ^ min (7:Int).toNat IntKind.u64.bits)=((m / 128:Nat):Int):=by
   show (m:Int).fdiv (2 ^ 7)=_
   rw[Int.fdiv_eq_ediv_of_nonneg _ (by decide)]
   omega
  simp +decide only [bK,bE,BEq.rfl,Nat.zero_add,q0]
  rw[zdy (by decide),hsh]
  simp +decide only [bK]
  simp only [inB,zfd]
  refine zb (K:=fun σ' w'=>∃ m',m' < m∧∃ v acc,m' < 2 ^ 64∧σ' 0=.int .u64 (m':Nat)∧σ' 2=v∧OwnB w' w.heap.size v acc∧acc++uvB m'=uvB n∧Mod w w' zy) fun σ5 hσ=>?_
  have r0:=hσ 0
  have r2:=hσ 2
  simp +decide only [bE,Nat.reduceBeqDiff,BEq.rfl,Nat.reduceAdd,Nat.zero_add,q2] at r0 r2
  exact⟨m / 128,by omega,v4,_,by omega,r0,r2,ho4,by rw[← hacc,zgi hs]; simp,Mod.ofOwn (ho.stay m3 fun _ _ _ h=>h) (m1.trans' m3) m4⟩
end
theorem zaw (n:Int):∀ k,(fixB n k).length=k
 | 0=>rfl
 | k+1=>by rw[fixB,List.length_cons,zaw n k]
section
variable {P:Program} {N:Nums} {M:zdd}
theorem run_imul {t:TypeId} {x y:Operand} {k:IntKind} {a b:Int} {w:World}:(do eqGuard .mul t x y (.int k a) (.int k b); binOp .mul t (.int k a) (.int k b):Sem Value).run P w=.ok (.int k (k.wrap (a * b))) w:=by
 simp [eqGuard,binOp,Op.intArith]
theorem zht (B:Base P N) (hF:FOk P M.zcr 2 (zho N M) [.var 2]) (w:World) (n:Int) (size:Nat) (hs:size≤8):Call P M.zcr #[.int .i64 n,.int .i64 size] w fun r w'=>OwnB w' w.heap.size r (fixB n size)∧Mod w w' zy:=by
 refine hF.call rfl fun loc N' hlo=>?_
 unfold zho
 refine zd fun K hK=>zao (hK _ _ ?_)
 clear hK K
 refine zd fun K hK=>zao (hK _ _ ?_)
 clear hK K
 obtain⟨σ,hσ⟩:∃ σ,σ=upd (upd (zdf #[.int .i64 n,.int .i64 size]) 2 (.slice none 0 0)) 3 (.slice none 0 0):=⟨_,rfl⟩
 have f0:σ 0=.int .i64 n:=by rw[hσ,zg (by decide),zg (by decide)]; rfl
 have f1:σ 1=.int .i64 size:=by rw[hσ,zg (by decide),zg (by decide)]; rfl
 have f3:σ 3=.slice none 0 0:=by rw[hσ,upd_same]
 rw[← hσ]
 clear hσ
 refine zd fun K hK=>zd fun K1 hK1=>zi fun τ=>?_
 simp +decide only [bK,bE,BEq.rfl,Nat.reduceAdd,f1]
 rw[wrap_i64 (by omega) (by omega)]
 refine hK1 _ _ (zb fun σ1 hσ=>?_)
 have g0:=hσ 0
 have g3:=hσ 3
 have g4:=hσ 4
 simp +decide only [bE,Nat.reduceBeqDiff,BEq.rfl,Nat.reduceAdd,Nat.zero_add,f0,f3] at g0 g3 g4
 clear hσ f0 f1 f3
 refine zem (zpk (fun m σ w'=>∃ v acc,m≤size∧σ 0=.int .i64 n∧σ 4=.int .i64 ((m:Int) - 1)∧σ 3=v∧OwnB w' w.heap.size v acc∧acc++fixB n m=fixB n size∧Mod w w' zy) (n:=size) ⟨_,[],Nat.le_refl _,g0,g4,g3,zmk,by simp,.refl _ _⟩ ?_)
 clear g0 g3 g4
 rintro m σ1 w1 ⟨v,acc,hm,g0,g4,g3,ho,hacc,m1⟩
 have hal:acc.length+m=size:=by
  have:=congrArg List.length hacc
  simpa [zaw] using this
 refine zd fun K2 hK2=>zd fun K3 hK3=>zi fun τ=>?_
 simp +decide only [bK,bE,BEq.rfl,Nat.reduceAdd,g4]
 refine hK3 _ _ (zb fun σ2 hσ=>?_)
 have p0:=hσ 0
 have p3:=hσ 3
 have p4:=hσ 4
 have p5:=hσ 5
 simp +decide only [bE,Nat.reduceBeqDiff,BEq.rfl,Nat.reduceAdd,Nat.zero_add,g0,g3,g4] at p0 p3 p4 p5
 clear hσ hK3 K3 g0 g3 g4
 refine W_if hlo p5 ?_
 cases m with
 | zero=>
  rw[if_neg (by decide)]
  refine zof ?_
  simp only [zfd,inB,if_true]
  refine hK _ _ (zd fun K3 hK3=>zi fun τ=>?_)
  simp +decide only [bK,bE,BEq.rfl,Nat.reduceAdd,p3]
  refine hK3 _ _ (zb fun σ4 hσ=>zbb ⟨.inr rfl,_,rfl,?_⟩)
  have q2:=hσ 2
  simp +decide only [bE,BEq.rfl,Nat.reduceAdd] at q2
  rw[q2,← hacc]
  simp only [fixB,List.append_nil]
  exact⟨ho,m1⟩
 | succ k=>
  rw[if_pos (by simp)]
  refine zbd (hK2 _ _ (zd fun K3 hK3=>zem (zi fun τ=>?_)))
  have e1:∀ ρ:Env,(#[(0,T 5)]:Array (Nat × Operand)).map (fun p=>(p.1,ev ρ p.2))=#[(0,ρ 5)]:=fun ρ=>by simp
  have hk:(((k+1:Nat):Int) - 1)=(k:Int):=by omega
  rw[hk] at p4
  have hmul:IntKind.i64.wrap (8 * (k:Int))=((8 * k:Nat):Int):=by rw[wrap_i64 (by omega) (by omega)]; omega
  have hsh:n.fdiv (2 ^ min (((8 * k:Nat):Int)).toNat IntKind.i64.bits)=n.fdiv (2 ^ (8 * k)):=by
   rw[show min (((8 * k:Nat):Int)).toNat IntKind.i64.bits=8 * k by
    show min _ 64=_
    omega]
  have hcv:=fun {w:World}=>zat (P:=P) (w:=w) (k':=.i64) B.int64 B.uint8 (n:=n.fdiv (2 ^ (8 * k))) ⟨_,rfl⟩
  simp +decide only [bK,bE,Nat.reduceBeqDiff,BEq.rfl,Nat.reduceAdd,Nat.zero_add,p0,p3,p4,run_imul,hmul]
  rw[zdy (by omega),hsh]
  simp +decide only [bK,bE,BEq.rfl,hcv,e1]
  rw[u8_octet]
  obtain⟨w3,hbs,m3,s3,ho3⟩:=zrg (w:=w1) B (x:=UInt8.ofNat (IntKind.u8.wrap (n.fdiv (2 ^ (8 * k)))).toNat)
  simp +decide only [bK,hbs]
  obtain⟨v4,w4,hap,ho4,m4,_⟩:=zdq (ty:=N.za) B (ho.stay m3 fun _ _ _ h=>h) ho3.octA (by have:=m1.size; omega) (by simp; omega)
  simp +decide only [bK,hap]
  simp only [inB]
  refine zb (K:=fun σ' w'=>zfd K3 _ .normal σ' w') fun σ4 hσ=>hK3 _ _ ?_
  have q0:=hσ 0
  have q3:=hσ 3
  have q4:=hσ 4
  simp +decide only [bE,Nat.reduceBeqDiff,BEq.rfl,Nat.reduceAdd,Nat.zero_add,p0,p4] at q0 q3 q4
  clear hσ
  refine zi fun τ=>?_
  simp +decide only [bK,bE,BEq.rfl,Nat.reduceAdd,q4]
  rw[wrap_i64 (by omega) (by omega)]
  simp only [zfd]
  refine zb (K:=fun σ' w'=>∃ m',m' < k+1∧∃ v acc,m'≤size∧σ' 0=.int .i64 n∧σ' 4=.int .i64 ((m':Int) - 1)∧σ' 3=v∧OwnB w' w.heap.size v acc∧acc++fixB n m'=fixB n size∧Mod w w' zy) fun σ5 hσ=>?_
  have r0:=hσ 0
  have r3:=hσ 3
  have r4:=hσ 4
  simp +decide only [bE,Nat.reduceBeqDiff,BEq.rfl,Nat.reduceAdd,Nat.zero_add,q0,q3] at r0 r3 r4
  exact⟨k,by omega,v4,_,by omega,r0,r4,r3,ho4,by rw[← hacc]; simp [fixB],Mod.ofOwn (ho.stay m3 fun _ _ _ h=>h) (m1.trans' m3) m4⟩
theorem zwc (B:Base P N) (hU:FOk P M.zdh 1 (ziy N M) [.var 1]) (hX:FOk P M.zcr 2 (zho N M) [.var 2]) (hF:FOk P M.zec 4 (zlk N M) [.var 4]) (w:World) (flex null:Bool) (n size:Nat) (hn:n≤32767) (hs:size≤8) :
  Call P M.zec #[.bool flex,.bool null,.int .i64 n,.int .i64 size] w fun r w'=>OwnB w' w.heap.size r (zae flex null n size)∧Mod w w' zy:=by
 refine hF.call rfl fun loc N' hlo=>?_
 unfold zlk
 refine zd fun K hK=>zao (hK _ _ ?_)
 clear hK K
 obtain⟨σ,hσ⟩:∃ σ,σ=upd (zdf #[.bool flex,.bool null,.int .i64 n,.int .i64 size]) 4 (.slice none 0 0):=⟨_,rfl⟩
 have f0:σ 0=.bool flex:=by rw[hσ,zg (by decide)]; rfl
 have f1:σ 1=.bool null:=by rw[hσ,zg (by decide)]; rfl
 have f2:σ 2=.int .i64 n:=by rw[hσ,zg (by decide)]; rfl
 have f3:σ 3=.int .i64 size:=by rw[hσ,zg (by decide)]; rfl
 rw[← hσ]
 clear hσ
 refine zd fun K hK=>zem (zd fun K1 hK1=>zi fun τ=>?_)
 have st:∀ {σ':Env},σ' 5=.bool (flex && null)→σ' 0=.bool flex→σ' 1=.bool null→σ' 2=.int .i64 n→σ' 3=.int .i64 size→K1 σ' w:=by
  intro σ' h5 h0 h1 h2 h3
  refine hK1 _ _ (W_if hlo h5 ?_)
  by_cases a:(flex && null)=true
  ·rw[if_pos a]
   refine zd fun K2 hK2=>zi fun τ=>?_
   have e1:∀ ρ:Env,(#[(0,.const (.int .u8 0))]:Array (Nat × Operand)).map (fun p=>(p.1,ev ρ p.2))=#[(0,zz 0)]:=fun ρ=>by simp [zz]
   obtain⟨w3,hbs,m3,s3,ho3⟩:=zrg (P:=P) (w:=w) B (x:=0)
   simp +decide only [bK,bE,BEq.rfl,Nat.reduceAdd,e1,hbs]
   refine hK2 _ _ (zb fun σ4 hσ=>zbb ?_)
   simp only [inB]
   refine⟨.inr rfl,_,rfl,?_⟩
   have q:=hσ 4
   simp +decide only [bE,BEq.rfl,Nat.reduceAdd] at q
   rw[q,zae,if_pos a]
   exact⟨ho3,m3⟩
  ·rw[if_neg a]
   refine zd fun K2 hK2=>zi fun τ=>?_
   simp +decide only [bK,bE,BEq.rfl,Nat.reduceAdd,Nat.zero_add,h0]
   refine hK2 _ _ (zb fun σ4 hσ=>?_)
   have q1:=hσ 1
   have q2:=hσ 2
   have q3:=hσ 3
   have q6:=hσ 6
   simp +decide only [bE,Nat.reduceBeqDiff,BEq.rfl,Nat.reduceAdd,h1,h2,h3] at q1 q2 q3 q6
   clear hσ hK2 K2
   refine W_if hlo q6 ?_
   cases flex with
   | true=>
    simp only [if_true]
    refine zd fun K2 hK2=>zi fun τ=>?_
    have hcv:=fun {w:World}=>zat (P:=P) (w:=w) (k':=.i64) B.int B.uint64 (n:=n) ⟨_,rfl⟩
    simp +decide only [bK,bE,BEq.rfl,Nat.reduceAdd,q2,hcv]
    rw[zfi n (by omega),show (n:Int)+1=((n+1:Nat):Int) by omega,zfi (n+1) (by omega),zan hU.has]
    simp +decide only [bK,bE,BEq.rfl]
    refine(zoh B hU w (n+1) (by omega)).mono ?_
    rintro r w1 ⟨ho,m1⟩
    refine hK2 _ _ (zb fun σ5 hσ=>zbb ?_)
    simp only [inB]
    refine⟨.inr rfl,_,rfl,?_⟩
    have q:=hσ 4
    simp +decide only [bE,BEq.rfl,Nat.reduceAdd] at q
    rw[q,zae,if_neg a,if_pos rfl]
    exact⟨ho,m1⟩
   | false=>
    simp only [Bool.false_eq_true,if_false]
    refine zd fun K2 hK2=>zi fun τ=>?_
    simp +decide only [bK,bE,BEq.rfl,Nat.reduceAdd,q1]
    refine hK2 _ _ (zb fun σ5 hσ=>?_)
    have p2:=hσ 2
    have p3:=hσ 3
    have p7:=hσ 7
    simp +decide only [bE,Nat.reduceBeqDiff,BEq.rfl,Nat.reduceAdd,q2,q3] at p2 p3 p7
    clear hσ hK2 K2
    refine W_if hlo p7 ?_
    cases null with
    | true=>
     simp only [if_true]
     refine zd fun K2 hK2=>zi fun τ=>?_
     simp +decide only [bK,bE,Nat.reduceAdd,p3]
     rw[zah hX.has]
     simp +decide only [bK,bE,BEq.rfl]
     refine(zht B hX w (-1) size hs).mono ?_
     rintro r w1 ⟨ho,m1⟩
     refine hK2 _ _ (zb fun σ6 hσ=>zbb ?_)
     simp only [inB]
     refine⟨.inr rfl,_,rfl,?_⟩
     have q:=hσ 4
     simp +decide only [bE,BEq.rfl,Nat.reduceAdd] at q
     rw[q,zae,if_neg a,if_neg (by decide),if_pos rfl]
     exact⟨ho,m1⟩
    | false=>
     simp only [Bool.false_eq_true,if_false]
     refine zbd ?_
     simp only [inB]
     refine hK _ _ (zd fun K2 hK2=>zi fun τ=>?_)
     simp +decide only [bK,bE,Nat.reduceBeqDiff,Nat.reduceAdd,p2,p3]
     rw[zah hX.has]
     simp +decide only [bK,bE,Nat.reduceBeqDiff,BEq.rfl]
     refine(zht B hX w n size hs).mono ?_
     rintro r w1 ⟨ho,m1⟩
     refine hK2 _ _ (zb fun σ6 hσ=>zbb ⟨.inr rfl,_,rfl,?_⟩)
     have q:=hσ 4
     simp +decide only [bE,BEq.rfl,Nat.reduceAdd] at q
     rw[q,zae,if_neg a,if_neg (by decide),if_neg (by decide)]
     exact⟨ho,m1⟩
 cases flex with
 | true=>
  simp +decide only [bK,bE,Nat.reduceBeqDiff,BEq.rfl,Nat.reduceAdd,Nat.zero_add,if_true,f0,f1,zap,zca]
  refine zb fun σ' hσ=>st ?_ ?_ ?_ ?_ ?_
  ·have q:=hσ 5; simp +decide only [bE,BEq.rfl,Nat.reduceAdd] at q; simpa using q
  ·have q:=hσ 0; simp +decide only [bE,Nat.reduceBeqDiff,Nat.zero_add,f0] at q; exact q
  ·have q:=hσ 1; simp +decide only [bE,Nat.reduceBeqDiff,Nat.reduceAdd,f1] at q; exact q
  ·have q:=hσ 2; simp +decide only [bE,Nat.reduceBeqDiff,Nat.reduceAdd,f2] at q; exact q
  ·have q:=hσ 3; simp +decide only [bE,Nat.reduceBeqDiff,Nat.reduceAdd,f3] at q; exact q
 | false=>
  simp +decide only [bK,bE,Nat.reduceBeqDiff,BEq.rfl,Nat.reduceAdd,Nat.zero_add,if_false,f0,zbi,Bool.not_true,zca]
  refine zb fun σ' hσ=>st ?_ ?_ ?_ ?_ ?_
  ·have q:=hσ 5; simp +decide only [bE,BEq.rfl,Nat.reduceAdd] at q; simpa using q
  ·have q:=hσ 0; simp +decide only [bE,Nat.reduceBeqDiff,Nat.zero_add,f0] at q; exact q
  ·have q:=hσ 1; simp +decide only [bE,Nat.reduceBeqDiff,Nat.reduceAdd,f1] at q; exact q
  ·have q:=hσ 2; simp +decide only [bE,Nat.reduceBeqDiff,Nat.reduceAdd,f2] at q; exact q
  ·have q:=hσ 3; simp +decide only [bE,Nat.reduceBeqDiff,Nat.reduceAdd,f3] at q; exact q
end
theorem UsA.get:∀ {u:List (Nat × List UInt8)} {w:World} {cs:List Value} {j:Nat} {x:Nat × List UInt8},UsA w u cs→u[j]?=some x→∃ v,cs[j * 2]?=some (.int .u32 x.1)∧cs[j * 2+1]?=some v∧OctA w v x.2
 | [],_,_,j,x,_,hj=>by simp at hj
 | (k,l) :: r,_,_,0,x,⟨v,rest,h1,h2,h3⟩,hj=>by subst h1; simp at hj; subst hj; exact⟨v,rfl,rfl,h2⟩
 | (k,l) :: r,_,_,j+1,x,⟨v,rest,h1,h2,h3⟩,hj=>by
  subst h1
  obtain⟨v',g1,g2,g3⟩:=UsA.get h3 (by simpa using hj)
  exact⟨v',by rw[show (j+1) * 2=j * 2+2 by omega]; simpa using g1,by rw[show (j+1) * 2+1=j * 2+1+2 by omega]; simpa using g2,g3⟩
theorem zkr.get {w:World} {v:Value} {u:List (Nat × List UInt8)} (h:zkr w v u) {j:Nat} {x:Nat × List UInt8} (hj:u[j]?=some x):∃ b o c s,v=.slice (some ⟨b,o,none⟩) u.length c∧OctA w s x.2∧w.rangeAt b (o+j * 2) [.int .u32 x.1,s]:=by
 rcases h with⟨ad,c,rfl,rfl⟩ | ⟨b,o,c,cs,rfl,h1,h2,h3⟩
 ·simp at hj
 ·obtain⟨s,g1,g2,g3⟩:=h2.get hj
  refine⟨b,o,c,s,rfl,g3,fun i y hy=>?_⟩
  match i,hy with
  | 0,hy=>simp at hy; subst hy; exact h3 _ _ g1
  | 1,hy=>simp at hy; subst hy; have:=h3 _ _ g2; rwa [show o+(j * 2+1)=o+j * 2+1 by omega] at this
section
variable {P:Program} {N:Nums} {M:zdd}
theorem zko {loc:List Nat} {N':Nat} {Q:Exit→Env→World→Prop} {σ:Env} {w:World} (hlo:zei loc N') {i l c k L:Nat} {body:C} (hL:L < 4611686018427387904) (I:Nat→Env→World→Prop)
  (hI:∀ j σ w,I j σ w→σ i=.int .i64 j∧σ l=.int .i64 L∧j≤L) (hc:∀ j σ w b,I j σ w→I j (upd σ c (.bool b)) w)
  (h0:I 0 σ w) (hend:∀ σ w,I L σ w→Q .normal σ w)
  (hb:∀ j σ w,j < L→I j σ w→W P loc N' body (fun e σ' w'=>match e with
   | .normal=>σ' i=.int .i64 j∧I (j+1) (upd σ' i (.int .i64 ((j+1:Nat):Int))) w'
   | .exit m=>m=k+1∧σ' i=.int .i64 j∧I (j+1) (upd σ' i (.int .i64 ((j+1:Nat):Int))) w'
   | .ret=>Q .ret σ' w'
   | _=>False) σ w):W P loc N' (zqs N i l c k body) Q σ w:=by
 refine zem (zpk (fun m σ w=>∃ j,m=L - j∧I j σ w) (n:=L) ⟨0,by omega,h0⟩ ?_)
 rintro m σ1 w1 ⟨j,rfl,hj⟩
 obtain⟨f1,f2,f3⟩:=hI j σ1 w1 hj
 refine zd fun K hK=>zi fun τ=>?_
 simp +decide (disch:=omega) only [bK,bE,f1,f2,zk,locs_envOf]
 refine hK _ _ ?_
 clear hK K
 refine zd fun K hK=>W_if hlo (upd_same _ _ _) ?_
 by_cases hlt:(j:Int) < L
 ·rw[decide_eq_true hlt,if_pos rfl]
  refine zbd (hK _ _ ?_)
  clear hK K
  have hj2:=hc j σ1 w1 true hj
  refine zd fun K hK=>zem (zii (hb j _ w1 (by omega) hj2) ?_)
  have next:∀ (σ2:Env) (w2:World),σ2 i=.int .i64 j→I (j+1) (upd σ2 i (.int .i64 ((j+1:Nat):Int))) w2→K σ2 w2:=by
   intro σ2 w2 g1 g2
   refine hK _ _ (zi fun τ=>?_)
   have hw:IntKind.i64.wrap ((j:Int)+1)=(((j+1:Nat):Int)):=by
    rw[show ((j:Int)+1)=((j+1:Nat):Int) by omega]
    exact wrap_i64 (by omega) (by omega)
   simp +decide (disch:=omega) only [bK,bE,BEq.rfl,g1,hw,zk,zai,locs_envOf]
   exact⟨L - (j+1),by omega,j+1,rfl,g2⟩
  rintro e σ2 w2 hq
  cases e with
  | normal=>exact next _ _ hq.1 hq.2
  | exit m=>
   obtain⟨rfl,g1,g2⟩:=hq
   simp only [inB,if_true]
   exact next _ _ g1 g2
  | ret=>exact hq
  | _=>exact hq.elim
 ·rw[decide_eq_false hlt,if_neg (by simp)]
  refine zof ?_
  simp only [zfd,inB,if_true]
  have hjL:j=L:=by omega
  subst hjL
  exact hend _ _ (hc _ _ _ _ hj)
theorem zuy {t:TypeId} {fs:Array Field} {sz by':Nat} {z cs:List Value} (h:TI P t (.struct fs) sz by' (.agg z.toArray)) (hz:∀ c∈z,c.oneCell'=true) (hzl:z.length=sz) (hl:cs.length=sz) (h1:∀ c∈cs,c.oneCell'=true) (w:World) :
  ∃ w1 w2,(∀ old:Value,(Instr.alloc t true old).run P w=.ok (.pointer (some ⟨w.heap.size,0,none⟩)) w1)∧(Instr.storeAt t (.pointer (some ⟨w.heap.size,0,none⟩)) (.agg cs.toArray)).run P w1=.ok () w2 ∧
   Mod w w1 zy∧Mod w w2 zy∧w2.heap.size=w.heap.size+1∧w2.rangeAt w.heap.size 0 cs∧w2.there w.heap.size 0 sz:=by
 have hc:Value.cells (.agg z.toArray)=z.toArray:=by
  simp [Value.cells]
 obtain⟨w1,hw1⟩:∃ w1,w1=w.alloc (.cells (Value.cells (.agg z.toArray)) t):=⟨_,rfl⟩
 have m1:Mod w w1 zy:=by rw[hw1]; exact Mod.alloc _ _ _
 have r1:w1.rangeAt w.heap.size 0 z:=by rw[hw1]; exact zr w z.toArray _ _
 have t1:w1.there w.heap.size 0 sz:=by rw[hw1,← hzl]; exact zbq w z.toArray t
 have s1:w1.heap.size=w.heap.size+1:=by rw[hw1]; exact zav _ _
 have hst:=h.run_store (w:=w1) (b:=w.heap.size) (o:=0) (v:=.agg cs.toArray) (cs:=cs) rfl hl t1 h1
 have ms:Mod w1 (w1.setCells w.heap.size 0 cs) (blk w.heap.size):=Mod.setCells _ _ _ fun _ _ _ _=>rfl
 refine⟨w1,_,fun old=>by rw[hw1]; exact h.run_alloc old,hst,m1,m1.fresh ms fun k o h=>by have:k=w.heap.size:=h; omega,by rw[zfq]; exact s1,?_,ms.there (by omega) t1⟩
 have:=zax cs 0 w1 _ r1 (by omega)
 rwa [List.drop_of_length_le (by omega),List.append_nil] at this
theorem zkr.run_len (S:SpT P N M) {w w':World} {v:Value} {l:List (Nat × List UInt8)} (h:zkr w v l) {ty:TypeId}:(Builtin.len_ #[N.zp] ty #[v]).run P w'=.ok (.int .i64 l.length) w':=by
 rcases h with⟨ad,c,rfl,rfl⟩ | ⟨b,o,c,css,rfl,_⟩
 ·exact S.tr.lg.run_len
 ·exact S.tr.lg.run_len
theorem sp_fits3 (B:Base P N) (S:SpT P N M) (hF:FOk P M.zqp 1 (zup N M) [.var 2]) (w:World) (k:Int) {v:Value} {s:List UInt8} (hs:OctA w v s) (hl:s.length≤2147483647) :
  Call P M.zqp #[.agg #[.int .u32 k,v]] w fun r w'=>r=.bool true∧Mod w w' zy:=by
 refine hF.call rfl fun loc N' hlo=>?_
 unfold zup
 refine zd fun K hK=>zi fun τ=>?_
 simp +decide only [bK,bE,Nat.reduceAdd,Nat.zero_add]
 obtain⟨w1,hw1⟩:∃ w1,w1=w.alloc (.cells (Value.cells (.agg [.int .u32 k,v].toArray)) N.zal):=⟨_,rfl⟩
 have m1:Mod w w1 zy:=by rw[hw1]; exact Mod.alloc _ _ _
 have r1:w1.rangeAt w.heap.size 0 [.int .u32 k,v]:=by
  rw[hw1]
  have e:Value.cells (.agg [.int .u32 k,v].toArray)=[.int .u32 k,v].toArray:=rfl
  exact zr w _ _ _
 rw[← hw1]
 clear hw1
 refine hK _ _ (zb fun σ hσ=>?_)
 have f1:=hσ 1
 simp +decide only [bE,Nat.reduceBeqDiff,BEq.rfl,Nat.reduceAdd] at f1
 clear hσ hK K
 have x1:=r1 1 _ rfl
 have hle:¬ (s.length:Int) > 2147483647:=by omega
 refine zd fun K hK=>zd fun K1 hK1=>zi fun τ=>?_
 simp +decide only [bK,bE,decide_false,BEq.rfl,Nat.reduceAdd,Nat.zero_add,f1,S.tr.g1.run,B.Lu8.run_load1 rfl,x1,hs.run_len B,hle]
 refine hK1 _ _ (zb fun σ1 hσ=>?_)
 have g3:=hσ 3
 simp +decide only [bE,BEq.rfl,Nat.reduceAdd] at g3
 clear hσ hK1 K1
 refine W_if hlo g3 ?_
 simp only [Bool.false_eq_true,if_false]
 refine zbd (hK _ _ (zd fun K2 hK2=>zao (hK2 _ _ (zbb ⟨.inr rfl,_,rfl,upd_same _ _ _,m1⟩))))
theorem sp_fits2 (B:Base P N) (S:SpT P N M) (hZ:SZ P N M) {w:World} {v:Value} {u:List (Nat × List UInt8)} (hu:zkr w v u) (hl:u.length≤2147483647) (hx:∀ x∈u,x.2.length≤2147483647) :
  Call P M.zuj #[v] w fun r w'=>r=.bool true∧Mod w w' zy:=by
 obtain⟨fsT,hT⟩:=S.tr.tu
 refine hZ.zzFits2.call rfl fun loc N' hlo=>?_
 unfold zaaj
 refine zd fun K hK=>zao (hK _ _ ?_)
 clear hK K
 obtain⟨σ,hσ⟩:∃ σ,σ=upd (zdf #[v]) 1 (.bool false):=⟨_,rfl⟩
 have f0:σ 0=v:=by rw[hσ,zg (by decide)]; rfl
 rw[← hσ]
 clear hσ
 have hle:¬ (u.length:Int) > 2147483647:=by omega
 refine zd fun K hK=>zd fun K1 hK1=>zi fun τ=>?_
 simp +decide only [bK,bE,decide_false,BEq.rfl,Nat.reduceAdd,Nat.zero_add,f0,hu.run_len S,hle]
 refine hK1 _ _ (zb fun σ1 hσ=>?_)
 have g0:=hσ 0
 have g2:=hσ 2
 simp +decide only [bE,Nat.reduceBeqDiff,BEq.rfl,Nat.reduceAdd,Nat.zero_add,f0] at g0 g2
 clear hσ hK1 K1 f0
 refine W_if hlo g2 ?_
 simp only [Bool.false_eq_true,if_false]
 refine zbd (hK _ _ ?_)
 clear hK K g2
 refine zd fun K hK=>zd fun K1 hK1=>zi fun τ=>?_
 simp +decide only [bK,bE,BEq.rfl,Nat.reduceAdd,Nat.zero_add,g0,hu.run_len S]
 refine hK1 _ _ (zb fun σ2 hσ=>?_)
 have p3:=hσ 3
 have p4:=hσ 4
 have p5:=hσ 5
 simp +decide only [bE,Nat.reduceBeqDiff,BEq.rfl,Nat.reduceAdd] at p3 p4 p5
 clear hσ hK1 K1 g0
 refine zko (i:=5) (l:=4) (c:=6) (k:=0) hlo (L:=u.length) (by omega) (fun j σ w'=>σ 3=v∧σ 4=.int .i64 u.length∧σ 5=.int .i64 j∧j≤u.length∧Mod w w' zy) (fun j σ w h=>⟨h.2.2.1,h.2.1,h.2.2.2.1⟩) (fun j σ w b h=>?_) ⟨p3,p4,p5,Nat.zero_le _,.refl _ _⟩ (fun σ' w' h=>hK _ _ ?_) (fun j σ' w' hj h=>?_)
 ·obtain⟨a,b,c,d,e⟩:=h
  exact⟨by rw[zg (by decide)]; exact a,by rw[zg (by decide)]; exact b,by rw[zg (by decide)]; exact c,d,e⟩
 ·exact zd fun K4 hK4=>zao (hK4 _ _ (zbb ⟨.inr rfl,_,rfl,upd_same _ _ _,h.2.2.2.2⟩))
 ·obtain⟨a,b,c,d,e⟩:=h
  obtain⟨bb,oo,cc,s,hv,hs,hr⟩:=(hu.stay e).get (List.getElem?_eq_getElem hj)
  have hix:=fun {w:World}=>zcb (P:=P) (w:=w) S.tr.lg hT (bl:=bb) (o:=oo) (n:=u.length) (c:=cc) (i:=j) (k:=.i64) hj
  have hld:=hT.run_load (w:=w') (b:=bb) (o:=oo+j * 2) hr rfl (fun h=>by cases h)
  have hlv:ldv (.struct fsT) [.int .u32 (u[j]).1,s]=.agg [.int .u32 (u[j]).1,s].toArray:=rfl
  rw[hlv] at hld
  obtain⟨w1,w2,hal,hst,_,m02,s2,r2,_⟩:=zuy (cs:=[.int .u32 (u[j]).1,s]) hT (by decide) rfl rfl (by
   intro c hc; simp at hc; rcases hc with rfl | rfl
   ·rfl
   ·exact hs.one) w'
  refine zd fun K4 hK4=>zi fun τ=>?_
  simp +decide only [bK,bE,Nat.reduceBeqDiff,BEq.rfl,Nat.reduceAdd,Nat.zero_add,a,c]
  rw[hv]
  simp +decide only [bK,hix,hld,hal,hst]
  refine hK4 _ _ (zb fun σ3 hσ=>?_)
  have q3:=hσ 3
  have q4:=hσ 4
  have q5:=hσ 5
  have q7:=hσ 7
  simp +decide only [bE,Nat.reduceBeqDiff,BEq.rfl,Nat.reduceAdd,a,b,c] at q3 q4 q5 q7
  clear hσ hK4 K4
  have hld2:=hT.run_load (w:=w2) (b:=w'.heap.size) (o:=0) r2 rfl (fun h=>by cases h)
  rw[hlv] at hld2
  refine zd fun K4 hK4=>zi fun τ=>?_
  simp +decide only [bK,bE,Nat.reduceAdd,Nat.zero_add,q7,hld2]
  rw[zan hZ.zzFits3.has]
  simp +decide only [bK,bE,BEq.rfl]
  refine(sp_fits3 B S hZ.zzFits3 w2 _ (hs.stay m02) (hx _ (List.getElem_mem hj))).mono ?_
  rintro r w3 ⟨rfl,m3⟩
  simp +decide only [bK]
  refine hK4 _ _ (zb fun σ4 hσ=>?_)
  have k3:=hσ 3
  have k4:=hσ 4
  have k5:=hσ 5
  have k8:=hσ 8
  simp +decide only [bE,Nat.reduceBeqDiff,BEq.rfl,Nat.reduceAdd,q3,q4,q5,Bool.not_true] at k3 k4 k5 k8
  refine W_if hlo k8 ?_
  simp only [Bool.false_eq_true,if_false]
  refine zbd ⟨k5,?_,?_,upd_same _ _ _,by omega,(e.trans' m02).trans' m3⟩
  ·rw[zg (by decide)]; exact k3
  ·rw[zg (by decide)]; exact k4
end
def fitsT (t:Tr):Prop:=t.s.length≤2147483647∧t.l.length≤2147483647∧t.u.length≤2147483647∧∀ x∈t.u,x.2.length≤2147483647
def numK (k n:Int):Int:=if k=0 then band .i64 n 1 else if k=1 then IntKind.i64.wrap (IntKind.i8.wrap n) else if k=2 then IntKind.i64.wrap (IntKind.i16.wrap n) else if k=3 then IntKind.i64.wrap (IntKind.i32.wrap n) else if k=5 then IntKind.i64.wrap (IntKind.u16.wrap n) else n
section
variable {P:Program} {N:Nums} {M:zdd}
theorem sp_fits1 (B:Base P N) (S:SpT P N M) (hZ:SZ P N M) {w:World} {t:Tr} {cs:List Value} (ht:RepA w t cs) (hf:fitsT t):Call P M.zuk #[.agg cs.toArray] w fun r w'=>r=.bool true∧Mod w w' zy:=by
 refine hZ.zzFits1.call rfl fun loc N' hlo=>?_
 unfold zaak
 obtain⟨vs,vl,vu,rfl,h1,h2,h3⟩:=ht.out
 obtain⟨f1,f2,f3,f4⟩:=hf
 refine zd fun K hK=>zi fun τ=>?_
 simp +decide only [bK,bE,Nat.reduceAdd,Nat.zero_add]
 obtain⟨w1,hw1⟩:∃ w1,w1=w.alloc (.cells (Value.cells (.agg [.int .i64 t.n,vs,.bool t.nl,vl,vu].toArray)) N.zf):=⟨_,rfl⟩
 have m1:Mod w w1 zy:=by rw[hw1]; exact Mod.alloc _ _ _
 have r1:w1.rangeAt w.heap.size 0 [.int .i64 t.n,vs,.bool t.nl,vl,vu]:=by rw[hw1]; exact zr w _ _ _
 rw[← hw1]
 clear hw1
 refine hK _ _ (zb fun σ hσ=>?_)
 have g1:=hσ 1
 simp +decide only [bE,Nat.reduceBeqDiff,BEq.rfl,Nat.reduceAdd] at g1
 clear hσ hK K
 have x1:=r1 1 _ rfl
 have x3:=r1 3 _ rfl
 have x4:=r1 4 _ rfl
 have l1:¬ (t.s.length:Int) > 2147483647:=by omega
 have l2:¬ (t.l.length:Int) > 2147483647:=by omega
 refine zd fun K hK=>zd fun K1 hK1=>zi fun τ=>?_
 simp +decide only [bK,bE,decide_false,BEq.rfl,Nat.reduceAdd,Nat.zero_add,g1,S.tr.h1.run,B.Lu8.run_load1 rfl,x1,h1.run_len B,l1]
 refine hK1 _ _ (zb fun σ1 hσ=>?_)
 have p1:=hσ 1
 have p3:=hσ 3
 simp +decide only [bE,Nat.reduceBeqDiff,BEq.rfl,Nat.reduceAdd,g1] at p1 p3
 clear hσ hK1 K1 g1
 refine W_if hlo p3 ?_
 simp only [Bool.false_eq_true,if_false]
 refine zbd (hK _ _ ?_)
 clear hK K
 refine zd fun K hK=>zd fun K1 hK1=>zi fun τ=>?_
 simp +decide only [bK,bE,decide_false,BEq.rfl,Nat.reduceAdd,Nat.zero_add,p1,S.tr.h3.run,S.tr.lt.run_load1 rfl,x3,h2.run_len S,l2]
 refine hK1 _ _ (zb fun σ2 hσ=>?_)
 have q1:=hσ 1
 have q4:=hσ 4
 simp +decide only [bE,Nat.reduceBeqDiff,BEq.rfl,Nat.reduceAdd,p1] at q1 q4
 clear hσ hK1 K1 p1
 refine W_if hlo q4 ?_
 simp only [Bool.false_eq_true,if_false]
 refine zbd (hK _ _ ?_)
 clear hK K
 refine zd fun K hK=>zd fun K1 hK1=>zi fun τ=>?_
 simp +decide only [bK,bE,BEq.rfl,Nat.reduceAdd,Nat.zero_add,q1,S.tr.h4.run,S.tr.lg.run_load1 rfl,x4]
 rw[zan hZ.zzFits2.has]
 simp +decide only [bK,bE,BEq.rfl]
 refine(sp_fits2 B S hZ (h3.stay m1) f3 f4).mono ?_
 rintro r w3 ⟨rfl,m3⟩
 simp +decide only [bK]
 refine hK1 _ _ (zb fun σ3 hσ=>?_)
 have k5:=hσ 5
 simp +decide only [bE,BEq.rfl,Nat.reduceAdd,Bool.not_true] at k5
 clear hσ hK1 K1
 refine W_if hlo k5 ?_
 simp only [Bool.false_eq_true,if_false]
 exact zbd (hK _ _ (zd fun K2 hK2=>zao (hK2 _ _ (zbb ⟨.inr rfl,_,rfl,upd_same _ _ _,m1.trans' m3⟩))))
theorem ztp (B:Base P N) (S:SpT P N M) (hF:FOk P M.zes 2 (zfs N M) [.var 3]) (w:World) (fv:Value) (fl v:Int) :
  Call P M.zes #[.agg [fv,.int .i64 fl].toArray,.int .i64 v] w fun r w'=>r=.bool (decide (0≤fl) && decide (fl≤v))∧Mod w w' zy:=by
 refine hF.call rfl fun loc N' hlo=>?_
 unfold zfs
 refine zd fun K hK=>zi fun τ=>?_
 simp +decide only [bK,bE,Nat.reduceAdd,Nat.zero_add]
 obtain⟨w1,hw1⟩:∃ w1,w1=w.alloc (.cells (Value.cells (.agg [fv,.int .i64 fl].toArray)) M.zam):=⟨_,rfl⟩
 have m1:Mod w w1 zy:=by rw[hw1]; exact Mod.alloc _ _ _
 have r1:w1.rangeAt w.heap.size 0 [fv,.int .i64 fl]:=by rw[hw1]; exact zr w _ _ _
 rw[← hw1]
 clear hw1
 refine hK _ _ (zb fun σ hσ=>?_)
 have f1:=hσ 1
 have f2:=hσ 2
 simp +decide only [bE,Nat.reduceBeqDiff,BEq.rfl,Nat.reduceAdd,zck] at f1 f2
 clear hσ hK K
 have x1:=r1 1 _ rfl
 refine zd fun K hK=>zi fun τ=>?_
 have key:∀ σ':Env,σ' 3=.bool (decide (0≤fl) && decide (fl≤v))→K σ' w1:=fun σ' h=>hK _ _ (zbb ⟨.inr rfl,_,rfl,h,m1⟩)
 by_cases a:fl ≥ 0
 ·simp +decide only [bK,bE,Nat.reduceBeqDiff,decide_true,BEq.rfl,Nat.reduceAdd,Nat.zero_add,if_true,f1,f2,S.m1.run,B.int.run_load1 rfl,x1,a,zap,zca]
  refine zb fun σ' hσ=>key σ' ?_
  have g:=hσ 3
  simp +decide only [bE,BEq.rfl,Nat.reduceAdd] at g
  have a':0≤fl:=a
  rw[g]; simp [a']
 ·simp +decide only [bK,bE,Nat.reduceBeqDiff,decide_false,BEq.rfl,Nat.reduceAdd,Nat.zero_add,if_false,f2,S.m1.run,B.int.run_load1 rfl,x1,a,zbi,Bool.not_true,zca]
  refine zb fun σ' hσ=>key σ' ?_
  have g:=hσ 3
  simp +decide only [bE,BEq.rfl,Nat.reduceAdd] at g
  have a':¬ 0≤fl:=a
  rw[g]; simp [a']
end
def idB (s:List UInt8):List UInt8:=s.take 16++List.replicate (16 - s.length) 0
theorem band1 (n:Int):band .i64 n 1=n % 2:=by
 show IntKind.i64.wrap (((BitVec.ofInt 64 n &&& BitVec.ofInt 64 1).toNat:Nat):Int)=_
 have e2:BitVec.ofInt 64 1=BitVec.ofNat 64 1:=by decide
 rw[e2,BitVec.toNat_and,BitVec.toNat_ofInt,BitVec.toNat_ofNat]
 have e3:(n % (2 ^ 64:Nat)).toNat &&& (1 % 2 ^ 64)=(n % 2).toNat:=by
  show (n % (2 ^ 64:Nat)).toNat &&& 1=_
  rw[Nat.and_one_is_mod]
  omega
 rw[e3]
 rw[wrap_i64 (by omega) (by omega)]
 omega
section
variable {P:Program} {N:Nums} {M:zdd}
theorem run_mk16 (B:Base P N) (w:World):∃ w1,(Instr.makeSlice N.za (.int .i64 16) (.int .i64 16)).run P w=.ok (.slice (some ⟨w.heap.size,0,none⟩) 16 16) w1∧Mod w w1 zy∧w1.heap.size=w.heap.size+1∧OwnB w1 w.heap.size (.slice (some ⟨w.heap.size,0,none⟩) 16 16) (List.replicate 16 0):=by
 obtain⟨i,hi,hsz,hbytes,hzero⟩:=B.uint8.info
 have hr:=run_make (P:=P) w N.za N.zh i _ B.Lu8.und hi hzero .i64 .i64 16 16 (by decide) (by decide) (by rw[hbytes]; decide) (by omega)
 rw[hsz] at hr
 refine⟨_,hr,Mod.alloc _ _ _,zav _ _,.inr ⟨w.heap.size,16,rfl,Nat.le_refl _,by rw[zav]; exact Nat.lt_succ_self _,Nat.le_refl _,?_,?_,rfl⟩⟩
 ·have:=zbq w (madeCells (Value.cells (.int .u8 0)) (16 * 1)) N.zh
  rw[size_madeCells] at this
  exact this
 ·have:=zr w (madeCells (Value.cells (.int .u8 0)) (16 * 1)) N.zh (0,0)
  have e:(madeCells (Value.cells (.int .u8 0)) (16 * 1)).toList=(List.replicate 16 (0:UInt8)).map zz:=by kernel_rfl
  rw[e] at this
  exact this
theorem run_cp16 (B:Base P N) {w:World} {b:Nat} {src:Value} {s:List UInt8} {ty:TypeId} (ho:OwnB w b (.slice (some ⟨b,0,none⟩) 16 16) (List.replicate 16 0)) (hs:OctA w src s) :
  ∃ v w2,(Builtin.copy_ #[N.za,N.za] ty #[.slice (some ⟨b,0,none⟩) 16 16,src]).run P w=.ok v w2∧OwnB w2 b (.slice (some ⟨b,0,none⟩) 16 16) (idB s)∧Mod w w2 (blk b)∧w2.heap.size=w.heap.size:=by
 obtain⟨i,hi,hsz,_,_⟩:=B.uint8.info
 have hs1:(P.info? N.zh).map (·.size)=some 1:=by rw[hi]; simp [hsz]
 rcases ho with⟨e,_,_⟩ | ⟨b',c,e,h1,h2,h3,h4,h5,h6⟩
 ·cases e
 injection e with e1 _ e3
 injection e1 with e2
 injection e2 with e4
 subst e4 e3
 have hidl:(idB s).length=16:=by simp [idB]; omega
 have hset:∀ l:List UInt8,l.length≤16→(w.setCells b 0 (l.map zz)).rangeAt b 0 ((l++List.replicate (16 - l.length) 0).map zz):=by
  intro l hl
  have:=zax (l.map zz) 0 w _ h5 (by simp; omega)
  rw[List.map_append]
  rwa [show ((List.replicate 16 (0:UInt8)).map zz).drop (l.map zz).length=(List.replicate (16 - l.length) 0).map zz by rw[List.length_map,← List.map_drop,List.drop_replicate]] at this
 have ms:∀ l:List UInt8,Mod w (w.setCells b 0 (l.map zz)) (blk b):=fun l=>Mod.setCells _ _ _ fun _ _ _ _=>rfl
 have fin:∀ l:List UInt8,l=s.take 16→∃ v w2,(goInt l.length,w.setCells b 0 (l.map zz))=(v,w2)∧OwnB w2 b (.slice (some ⟨b,0,none⟩) 16 16) (idB s)∧Mod w w2 (blk b)∧w2.heap.size=w.heap.size:=by
  rintro l rfl
  refine⟨_,_,rfl,.inr ⟨b,16,by rw[hidl],Nat.le_refl _,by rw[zfq]; exact h2,by rw[hidl]; exact Nat.le_refl _,(ms _).there h2 h4,?_,by simp⟩,ms _,zfq _ _ _⟩
  have:=hset (s.take 16) (by simp; omega)
  rwa [show s.take 16++List.replicate (16 - (s.take 16).length) 0=idB s by
   unfold idB; rw[List.length_take]; congr 2; omega] at this
 rcases hs with⟨ad,c',rfl,rfl⟩ | ⟨b2,o2,c2,rfl,g1,g2⟩
 ·obtain⟨v,w2,he,r⟩:=fin [] rfl
  cases he
  exact⟨_,_,run_copy_none w _ _ _ _ _ _ _ _ _ _ B.Lu8.und hs1 (by simp []),r⟩
 ·obtain⟨v,w2,he,r⟩:=fin (s.take 16) rfl
  cases he
  refine⟨goInt (s.take 16).length,_,?_,r⟩
  have:=run_copy_cells (P:=P) w N.za N.za ty N.zh b 0 16 16 ⟨b2,o2,none⟩ s.length c2 ((s.take 16).map zz) B.Lu8.und hs1 (by rw[List.length_map,List.length_take,Nat.min_comm]) (fun j u hj=>by
   rw[Addr.add_mid]
   refine g2 j u ?_
   rw[List.getElem?_map] at hj ⊢
   cases hx:(s.take 16)[j]? with
   | none=>rw[hx] at hj; simp at hj
   | some y=>
    have hj16:j < 16:=by have:=(List.getElem?_eq_some_iff.1 hx).1; rw[List.length_take] at this; omega
    rw[hx] at hj
    rw[List.getElem?_take_of_lt hj16] at hx
    rw[hx]; exact hj) (fun j hj=>by
   have:=(h4 j (by simp at hj; omega)).1
   simpa using this) (fun j hj=>by
   have:=(h4 j (by simp at hj; omega)).2
   simpa using this) (zot _)
  rw[List.length_map] at this
  exact this
end
def Gave (w:World) (x:List UInt8) (r:Value) (w':World):Prop:=OwnB w' w.heap.size r x∧Mod w w' zy
def zsn (P:Program) (M:zdd) (flex:Bool) (v:Int) (fs:List Fld):Prop:=∀ (w:World) (fv:Value) (t:Tr) (cs:List Value),zik w fv fs→RepA w t cs→wfT t→(zci flex v fs t).length < 549755813888→
 Call P M.zkj #[fv,.int .i64 v,.bool flex,.agg cs.toArray] w (Gave w (zci flex v fs t))
structure VSt (σ:Env) (kind:Int) (fv:Value) (null:Bool) (v:Int) (flex:Bool) (b:Nat):Prop where
 h0:σ 0=.int .i64 kind
 h1:σ 1=fv
 h2:σ 2=.bool null
 h3:σ 3=.int .i64 v
 h4:σ 4=.bool flex
 h6:σ 6=.pointer (some ⟨b,0,none⟩)
 h8:σ 8=.int .i64 kind
theorem VSt.upd {σ:Env} {kind:Int} {fv:Value} {null:Bool} {v:Int} {flex:Bool} {b:Nat} (h:VSt σ kind fv null v flex b) {i:Nat} (hi:9≤i) (x:Value):VSt (upd σ i x) kind fv null v flex b:=by
 obtain⟨h0,h1,h2,h3,h4,h6,h8⟩:=h
 constructor<;>(rw[zg (by omega)]; assumption)
section
variable {P:Program} {N:Nums} {M:zdd}
theorem zaav (B:Base P N) (S:SpT P N M) (hW:SW P N M) {loc:List Nat} {N':Nat} (hlo:zei loc N') {σ:Env} {w0 w:World} {kind v:Int} {fv vs:Value} {null flex:Bool} {b k k2 size:Nat} {s:List UInt8} (hst:VSt σ kind fv null v flex b) (hb:w.cell? ⟨b,1,none⟩=some vs) (ho:OctA w vs s) (m0:Mod w0 w zy) (hk:9≤k) (hk2:9≤k2) (hkk:k≠k2) (hs:size≤8) :
  W P loc N' (.seq (.ops [⟨some 0,.fieldAddr N.zf (V 6) 1,0,none,[]⟩,⟨some 1,.load N.za (T 0),0,none,[]⟩,⟨some 2,.call ⟨.value (.func M.zfm),#[T 1],#[N.za]⟩,N.za,none,[]⟩,⟨some (k+100),.assign (T 2),0,none,[]⟩])
   (.seq (.seq (.ops [⟨some (k2+100),.move (V 2),0,none,[]⟩]) (.cond k2 (.ops [⟨some (k+100),.assign (.const (.slice none 0 0)),0,none,[]⟩]) .skip))
   (.seq (.ops [⟨some 0,.move (V 4),0,none,[]⟩,⟨some 1,.move (V 2),0,none,[]⟩,⟨some 2,.move (V k),0,none,[]⟩,⟨some 3,.call ⟨.builtin .len,#[T 2],#[N.za]⟩,N.ze,none,[]⟩,⟨some 4,.call ⟨.value (.func M.zec),#[T 0,T 1,T 3,.const (.int .i64 (size:Nat))],#[N.zay,N.zay,N.ze,N.ze]⟩,N.za,none,[]⟩,⟨some 5,.move (V k),0,none,[]⟩,⟨some 6,.call ⟨.builtin .append,#[T 4,T 5],#[N.za,N.za]⟩,N.za,none,[]⟩,⟨some 107,.assign (T 6),0,none,[]⟩]) .ret)))
   (fun e σ' w'=>e=.ret∧Gave w0 (zae flex null (if null then [] else zbv s).length size++(if null then [] else zbv s)) (σ' 7) w') σ w:=by
 have hal:(zbv s).length≤32767:=by simp [zbv,most]; omega
 refine zd fun K hK=>zi fun τ=>?_
 simp +decide only [bK,bE,BEq.rfl,Nat.reduceAdd,Nat.zero_add,hst.h6,S.tr.h1.run,B.Lu8.run_load1 rfl,hb]
 rw[zan hW.whole.has]
 simp +decide only [bK,bE,BEq.rfl]
 refine(zwp B hW.whole ho).mono ?_
 rintro x _ ⟨rfl,hx⟩
 rw[zk,zhl (by decide),zhl (by decide),zhl (by decide),locs_envOf]
 refine hK _ _ ?_
 clear hK K
 have h1:VSt (upd σ k x) kind fv null v flex b:=hst.upd hk x
 have g1:(upd σ k x) k=x:=upd_same _ _ _
 obtain⟨σ1,hσ1⟩:∃ σ1,σ1=upd σ k x:=⟨_,rfl⟩
 rw[← hσ1] at h1 g1 ⊢
 clear hσ1 hst
 have tail:∀ {σ2:Env} {y:Value} {s2:List UInt8},VSt σ2 kind fv null v flex b→σ2 k=y→OctA w y s2→s2=(if null then [] else zbv s)→
   W P loc N' (.seq (.ops [⟨some 0,.move (V 4),0,none,[]⟩,⟨some 1,.move (V 2),0,none,[]⟩,⟨some 2,.move (V k),0,none,[]⟩,⟨some 3,.call ⟨.builtin .len,#[T 2],#[N.za]⟩,N.ze,none,[]⟩,⟨some 4,.call ⟨.value (.func M.zec),#[T 0,T 1,T 3,.const (.int .i64 (size:Nat))],#[N.zay,N.zay,N.ze,N.ze]⟩,N.za,none,[]⟩,⟨some 5,.move (V k),0,none,[]⟩,⟨some 6,.call ⟨.builtin .append,#[T 4,T 5],#[N.za,N.za]⟩,N.za,none,[]⟩,⟨some 107,.assign (T 6),0,none,[]⟩]) .ret)
   (fun e σ' w'=>e=.ret∧Gave w0 (zae flex null (if null then [] else zbv s).length size++(if null then [] else zbv s)) (σ' 7) w') σ2 w:=by
  rintro σ2 y s2 h2 g2 hy hs2
  rw[← hs2]
  have hl2:s2.length≤32767:=by
   rw[hs2]
   cases null
   ·simpa using hal
   ·simp
  refine zd fun K hK=>zi fun τ=>?_
  simp +decide only [bK,bE,Nat.reduceBeqDiff,BEq.rfl,Nat.reduceAdd,h2.h4,h2.h2,g2,hy.run_len B]
  rw[zgq hW.counted.has]
  simp +decide only [bK,bE,Nat.reduceBeqDiff,BEq.rfl]
  refine(zwc B hW.Uvarint hW.Fixed hW.counted w flex null s2.length size hl2 hs).mono ?_
  rintro r w3 ⟨hr,m3⟩
  have hcl:(zae flex null s2.length size).length≤10:=by
   unfold zae
   split
   ·simp
   ·split
    ·exact zkb (by omega)
    ·split<;>(rw[zaw]; omega)
  obtain⟨v4,w4,hap,ho4,m4,_⟩:=zdq (ty:=N.za) B hr (hy.stay m3) m3.size (by omega)
  simp +decide only [bK,g2,hap]
  refine hK _ _ (zb fun σ4 hσ=>zbb ⟨rfl,?_⟩)
  have q:=hσ 7
  simp +decide only [bE,BEq.rfl,Nat.reduceAdd] at q
  rw[q]
  have hr0:=hr.mono_lo m0.size
  exact⟨ho4.mono_lo m0.size,m0.trans' (m3.fresh m4 fun _ _ h=>(hr.blk h).1)⟩
 refine zd fun K hK=>zd fun K1 hK1=>zi fun τ=>?_
 simp +decide only [bK,bE,Nat.reduceAdd,h1.h2]
 rw[zk,locs_envOf]
 refine hK1 _ _ (W_if hlo (upd_same _ _ _) ?_)
 have h3:=h1.upd hk2 (.bool null)
 cases null with
 | true=>
  simp only [if_true]
  refine zao (hK _ _ ?_)
  exact tail (h3.upd hk _) (upd_same _ _ _) (.inl ⟨none,0,rfl,rfl⟩) rfl
 | false=>
  simp only [Bool.false_eq_true,if_false]
  refine zbd (hK _ _ ?_)
  exact tail h3 (by rw[zg hkk]; exact g1) hx rfl
end
section
variable {P:Program} {N:Nums} {M:zdd}
theorem sp_value (B:Base P N) (S:SpT P N M) (hW:SW P N M) {w:World} {kind v:Int} {fv:Value} {null flex:Bool} {t:Tr} {cs:List Value} {sub:List Fld} (hp:kind=10→zsn P M flex v sub) (hf:zik w fv sub) (ht:RepA w t cs) (hwf:wfT t)
  (hl:(valB flex kind (zci flex v sub) null t).length < 549755813888) :
  Call P M.zjf #[.int .i64 kind,fv,.bool null,.int .i64 v,.bool flex,.agg cs.toArray] w (Gave w (valB flex kind (zci flex v sub) null t)):=by
 refine hW.value.call rfl fun loc N' hlo=>?_
 unfold zsi
 obtain⟨vs,vl,vu,rfl,h1,h2,h3⟩:=ht.out
 obtain⟨σ,hσ⟩:∃ σ,σ=zdf #[.int .i64 kind,fv,.bool null,.int .i64 v,.bool flex,.agg [.int .i64 t.n,vs,.bool t.nl,vl,vu].toArray]:=⟨_,rfl⟩
 have f0:σ 0=.int .i64 kind:=by rw[hσ]; rfl
 have f1:σ 1=fv:=by rw[hσ]; rfl
 have f2:σ 2=.bool null:=by rw[hσ]; rfl
 have f3:σ 3=.int .i64 v:=by rw[hσ]; rfl
 have f4:σ 4=.bool flex:=by rw[hσ]; rfl
 have f5:σ 5=.agg [.int .i64 t.n,vs,.bool t.nl,vl,vu].toArray:=by rw[hσ]; rfl
 rw[← hσ]
 clear hσ
 refine zd fun K hK=>zi fun τ=>?_
 simp +decide only [bK,bE,Nat.reduceAdd,f5]
 obtain⟨w1,hw1⟩:∃ w1,w1=w.alloc (.cells (Value.cells (.agg [.int .i64 t.n,vs,.bool t.nl,vl,vu].toArray)) N.zf):=⟨_,rfl⟩
 have m1:Mod w w1 zy:=by rw[hw1]; exact Mod.alloc _ _ _
 have r1:w1.rangeAt w.heap.size 0 [.int .i64 t.n,vs,.bool t.nl,vl,vu]:=by rw[hw1]; exact zr w _ _ _
 rw[← hw1]
 clear hw1
 refine hK _ _ (zb fun σ1 hσ=>?_)
 have a0:=hσ 0
 have a1:=hσ 1
 have a2:=hσ 2
 have a3:=hσ 3
 have a4:=hσ 4
 have a6:=hσ 6
 simp +decide only [bE,Nat.reduceBeqDiff,BEq.rfl,Nat.reduceAdd,Nat.zero_add,f0,f1,f2,f3,f4] at a0 a1 a2 a3 a4 a6
 clear hσ hK K f0 f1 f2 f3 f4 f5
 have x0:=r1 0 _ rfl
 have x1:=r1 1 _ rfl
 refine zd fun K hK=>zd fun K1 hK1=>zi fun τ=>?_
 simp +decide only [bK,bE,Nat.reduceAdd,Nat.zero_add,a0]
 refine hK1 _ _ (zb fun σ2 hσ=>?_)
 have b0:=hσ 0
 have b1:=hσ 1
 have b2:=hσ 2
 have b3:=hσ 3
 have b4:=hσ 4
 have b6:=hσ 6
 have b8:=hσ 8
 simp +decide only [bE,Nat.reduceBeqDiff,BEq.rfl,Nat.reduceAdd,Nat.zero_add,a0,a1,a2,a3,a4,a6] at b0 b1 b2 b3 b4 b6 b8
 clear hσ hK1 K1 a0 a1 a2 a3 a4 a6
 have st:VSt σ2 kind fv null v flex w.heap.size:=⟨b0,b1,b2,b3,b4,b6,b8⟩
 clear b0 b1 b2 b3 b4 b6 b8
 refine zem (zmc hlo st.h8 ?_)
 by_cases e0:kind=0
 ·rw[if_pos e0]
  have st:=st.upd (i:=9) (by omega) (.bool (decide (kind=0)))
  refine zd fun K2 hK2=>zi fun τ=>?_
  have hcv:=fun {w:World}=>zat (P:=P) (w:=w) (k':=.i64) B.int64 B.uint8 (n:=t.n % 2) ⟨_,rfl⟩
  have hw8:IntKind.u8.wrap (t.n % 2)=((t.n % 2).toNat:Nat):=by
   have e:t.n % 2=(((t.n % 2).toNat:Nat):Int):=by omega
   rw[e,zaay _ (by omega)]
   omega
  have e1:∀ ρ:Env,(#[(0,T 3)]:Array (Nat × Operand)).map (fun p=>(p.1,ev ρ p.2))=#[(0,ρ 3)]:=fun ρ=>by simp
  simp +decide only [bK,bE,BEq.rfl,Nat.reduceAdd,Nat.add_zero,st.h6,S.tr.h0.run,B.int64.run_load1 rfl,x0,band1,hcv,e1,hw8]
  rw[zil _ (by omega)]
  obtain⟨w3,hbs,m3,s3,ho3⟩:=zrg (w:=w1) B (x:=UInt8.ofNat (t.n % 2).toNat)
  simp +decide only [bK,hbs]
  refine hK2 _ _ (zb fun σ4 hσ=>zbb ?_)
  simp only [inB]
  refine⟨.inr rfl,_,rfl,?_⟩
  have q:=hσ 7
  simp +decide only [bE,BEq.rfl,Nat.reduceAdd] at q
  rw[q,valB,if_pos e0]
  exact⟨ho3.mono_lo m1.size,m1.trans' m3⟩
 rw[if_neg e0]
 have st:=st.upd (i:=9) (by omega) (.bool (decide (kind=0)))
 refine zmc hlo st.h8 ?_
 by_cases e7:kind=7
 ·rw[if_pos e7]
  have st:=st.upd (i:=10) (by omega) (.bool (decide (kind=7)))
  obtain⟨w3,hmk,m3,s3,ho3⟩:=run_mk16 B w1
  obtain⟨cv,w4,hcp,ho4,m4,s4⟩:=run_cp16 (ty:=N.ze) B ho3 ((h1.stay m1).stay m3)
  refine zd fun K2 hK2=>zi fun τ=>?_
  simp +decide only [bK,bE,BEq.rfl,Nat.reduceAdd,zpb,hmk]
  refine hK2 _ _ (zb fun σ4 hσ=>?_)
  have c6:=hσ 6
  have c11:=hσ 11
  simp +decide only [bE,Nat.reduceBeqDiff,BEq.rfl,Nat.reduceAdd,st.h6] at c6 c11
  clear hσ hK2 K2
  have x1':=zad m3 r1 1 _ rfl
  refine zd fun K2 hK2=>zi fun τ=>?_
  simp +decide only [bK,bE,Nat.reduceBeqDiff,BEq.rfl,Nat.reduceAdd,Nat.zero_add,c6,c11,S.tr.h1.run,B.Lu8.run_load1 rfl,x1',zzb,hcp]
  refine hK2 _ _ (zb fun σ5 hσ=>?_)
  have d11:=hσ 11
  simp +decide only [bE,Nat.reduceBeqDiff,Nat.reduceAdd,c11] at d11
  clear hσ hK2 K2
  refine zd fun K2 hK2=>zi fun τ=>?_
  simp +decide only [bK,bE,BEq.rfl,Nat.reduceAdd,d11]
  refine hK2 _ _ (zb fun σ6 hσ=>zbb ?_)
  simp only [inB]
  refine⟨.inr rfl,_,rfl,?_⟩
  have q:=hσ 7
  simp +decide only [bE,BEq.rfl,Nat.reduceAdd] at q
  rw[q,valB,if_neg e0,if_pos e7]
  exact⟨ho4.mono_lo m1.size,(m1.trans' m3).fresh m4 fun k o h=>by have:k=w1.heap.size:=h; have:=m1.size; omega⟩
 rw[if_neg e7]
 have st:=st.upd (i:=10) (by omega) (.bool (decide (kind=7)))
 refine zmc hlo st.h8 ?_
 by_cases e8:kind=8
 ·rw[if_pos e8]
  have st:=st.upd (i:=12) (by omega) (.bool (decide (kind=8)))
  refine zii (zaav B S hW hlo (k:=13) (k2:=14) (size:=2) (w0:=w) st x1 (h1.stay m1) m1 (by omega) (by omega) (by omega) (by omega)) ?_
  rintro e σ' w' ⟨rfl,hg⟩
  exact⟨.inr rfl,_,rfl,by rw[valB,if_neg e0,if_neg e7,if_pos e8]; exact hg⟩
 rw[if_neg e8]
 have st:=st.upd (i:=12) (by omega) (.bool (decide (kind=8)))
 refine zmc hlo st.h8 ?_
 by_cases e9:kind=9
 ·rw[if_pos e9]
  have st:=st.upd (i:=15) (by omega) (.bool (decide (kind=9)))
  refine zii (zaav B S hW hlo (k:=16) (k2:=17) (size:=4) (w0:=w) st x1 (h1.stay m1) m1 (by omega) (by omega) (by omega) (by omega)) ?_
  rintro e σ' w' ⟨rfl,hg⟩
  exact⟨.inr rfl,_,rfl,by rw[valB,if_neg e0,if_neg e7,if_neg e8,if_pos e9]; exact hg⟩
 rw[if_neg e9]
 have st:=st.upd (i:=15) (by omega) (.bool (decide (kind=9)))
 refine zmc hlo st.h8 ?_
 by_cases e10:kind=10
 ·rw[if_pos e10]
  have st:=st.upd (i:=18) (by omega) (.bool (decide (kind=10)))
  have hv:valB flex kind (zci flex v sub) null t=zci flex v sub t:=by rw[valB,if_neg e0,if_neg e7,if_neg e8,if_neg e9,if_pos e10]
  rw[hv] at hl ⊢
  refine zd fun K2 hK2=>zi fun τ=>?_
  simp +decide only [bK,bE,Nat.reduceBeqDiff,Nat.reduceAdd,st.h1,st.h3,st.h4,st.h6,zga S.tr r1 rfl]
  rw[zgq hW.part.has]
  simp +decide only [bK,bE,Nat.reduceBeqDiff,BEq.rfl]
  refine(hp e10 w1 fv t _ (hf.stay m1) (RepA.stay m1 _ ht) hwf hl).mono ?_
  rintro r w3 ⟨ho3,m3⟩
  refine hK2 _ _ (zb fun σ4 hσ=>zbb ?_)
  simp only [inB]
  refine⟨.inr rfl,_,rfl,?_⟩
  have q:=hσ 7
  simp +decide only [bE,BEq.rfl,Nat.reduceAdd] at q
  rw[q]
  exact⟨ho3.mono_lo m1.size,m1.trans' m3⟩
 rw[if_neg e10]
 have st:=st.upd (i:=18) (by omega) (.bool (decide (kind=10)))
 have hv:valB flex kind (zci flex v sub) null t=fixB t.n (zge kind):=by rw[valB,if_neg e0,if_neg e7,if_neg e8,if_neg e9,if_neg e10]
 refine zbd ?_
 simp only [inB]
 refine hK _ _ ?_
 clear hK K
 have hw8:zge kind≤8:=by unfold zge; (repeat' split)<;>omega
 obtain⟨σ5,hσ5⟩:∃ σ5,σ5=upd (upd (upd (upd (upd σ2 9 (.bool (decide (kind=0)))) 10 (.bool (decide (kind=7)))) 12 (.bool (decide (kind=8)))) 15 (.bool (decide (kind=9)))) 18 (.bool (decide (kind=10))):=⟨_,rfl⟩
 rw[← hσ5] at st ⊢
 clear hσ5
 have md:Mod w1 w1.drew zy:=Mod.drew _ _
 refine zd fun K hK=>zve B.mixed [true,true,true,false,false,false] (by kernel_rfl) (fun w'=>Mod w1 w' zy) md fun τ=>?_
 refine zar (.pointer (some ⟨w.heap.size,0,none⟩)) (fun w' _=>zdv (by
  simp +decide only [bE,Nat.reduceAdd,Nat.zero_add,ev_tmp,st.h6,S.tr.h0.run])) rfl ?_
 refine zar (.int .i64 t.n) (fun w' hw=>zdv (by
  simp +decide only [bE,BEq.rfl,ev_tmp,B.int64.run_load1 rfl,zad hw r1 0 _ rfl,ldc_some])) rfl ?_
 refine zar (.int .i64 kind) (fun w' hw=>by
  rw[zdb,ev_tmp]
  simp +decide only [bE,Nat.reduceBeqDiff,Nat.zero_add,st.h0]) rfl ?_
 simp only [zfv,zgv,List.zip_cons_cons,List.zip_nil_right,List.zipWith_cons_cons,List.zipWith_nil_right,List.filter,Bool.not_true,Bool.not_false,List.map,zid]
 rw[zan hW.width.has]
 simp +decide only [bK,bE,BEq.rfl,Nat.reduceAdd]
 refine(sp_width B hW.width w1.drew kind).mono ?_
 rintro r w3 ⟨rfl,hw3⟩
 refine⟨by rw[← hw3]; exact md,?_⟩
 rw[zah hW.Fixed.has]
 simp +decide only [bK,bE,Nat.reduceBeqDiff,BEq.rfl]
 refine(zht B hW.Fixed w3 t.n (zge kind) hw8).mono ?_
 rintro r w4 ⟨ho4,m4⟩
 have m14:Mod w1 w4 zy:=by rw[← hw3] at m4; exact md.trans' m4
 refine⟨m14,?_⟩
 refine hK _ _ (zb fun σ6 hσ=>zbb ⟨.inr rfl,_,rfl,?_⟩)
 have q:=hσ 7
 simp +decide only [bE,BEq.rfl,Nat.reduceAdd] at q
 rw[q,hv]
 refine⟨ho4.mono_lo ?_,m1.trans' m14⟩
 rw[← hw3]; exact m1.size
end
theorem zkh {α β:Type} (f:α→List β):∀ (l:List α) (j:Nat),((l.take j).flatMap f).length≤(l.flatMap f).length
 | [],j=>by simp
 | a :: l,0=>by simp
 | a :: l,j+1=>by
  have:=zkh f l j
  simp only [List.take_succ_cons,List.flatMap_cons,List.length_append]; omega
theorem ziv {α β:Type} (f:α→List β) {l:List α} {j:Nat} (hj:j < l.length):(l.take (j+1)).flatMap f=(l.take j).flatMap f++f l[j]:=by
 rw[← List.take_append_getElem hj,List.flatMap_append]; simp
theorem zvn {α β:Type} (f:α→List β) {l:List α} {j:Nat} (hj:j < l.length):((l.take j).flatMap f).length+(f l[j]).length≤(l.flatMap f).length:=by
 have:=zkh f l (j+1)
 rw[ziv f hj,List.length_append] at this
 exact this
section
variable {P:Program} {N:Nums} {M:zdd}
def bodyF (N:Nums) (M:zdd):C:=.seq (.ops [⟨some 0,.move (V 13),0,none,[]⟩,⟨some 115,.assign (T 0),0,none,[]⟩]) (.draw [
 ⟨some 0,.move (V 11),0,none,[]⟩,
 ⟨some 1,.fieldAddr M.zn (V 4) 6,0,none,[]⟩,
 ⟨some 2,.load N.ze (T 1),0,none,[1]⟩,
 ⟨some 3,.fieldAddr M.zn (V 4) 7,0,none,[]⟩,
 ⟨some 4,.load M.zaz (T 3),0,none,[3]⟩,
 ⟨some 5,.move (V 1),0,none,[]⟩,
 ⟨some 6,.move (V 2),0,none,[]⟩,
 ⟨some 7,.move (V 9),0,none,[]⟩,
 ⟨some 8,.move (V 15),0,none,[]⟩,
 ⟨some 9,.indexAddr N.zak (T 7) (T 8),0,none,[7,8]⟩,
 ⟨some 10,.load N.zf (T 9),0,none,[9]⟩,
 ⟨some 11,.call ⟨.value (.func M.zjf),#[T 2,T 4,.const (.bool false),T 5,T 6,T 10],#[N.ze,M.zaz,N.zay,N.ze,N.zay,N.zf]⟩,N.za,none,[2,4,5,6,10]⟩,
 ⟨some 12,.call ⟨.builtin .append,#[T 0,T 11],#[N.za,N.za]⟩,N.za,none,[0,11,11]⟩,
 ⟨some 111,.assign (T 12),0,none,[12,12,0,1,2,3,4,5,6,7,8,9,10,11,12]⟩])
structure LSt (w1:World) (σ:Env) (w:World) (v:Int) (flex:Bool) (b n j:Nat) (vl:Value) (acc:List UInt8):Prop where
 h1:σ 1=.int .i64 v
 h2:σ 2=.bool flex
 h4:σ 4=.pointer (some ⟨b,0,none⟩)
 h9:σ 9=vl
 h11:OwnB w w1.heap.size (σ 11) acc
 h12:σ 12=.int .i64 n
 h13:σ 13=.int .i64 j
 le:j≤n
 mod:Mod w1 w zy
theorem zvz {f:FuncId} {xs:Array Operand} {ts:Array TypeId} {d:Option Nat} {ty:TypeId} {af:List Nat} {ρ:Env} {w:World} {K:Env→World→Prop} (hf:zcp P f):zcn P ⟨d,.call ⟨.value (.func f),xs,ts⟩,ty,none,af⟩ ρ w K=Call P f (xs.map (ev ρ)) w fun v w'=>K (put ρ d v) w':=zis hf
theorem W_bodyF (B:Base P N) (S:SpT P N M) (hW:SW P N M) {loc:List Nat} {N':Nat} (hlo:zei loc N') {σ:Env} {w1 w:World} {v:Int} {flex:Bool} {b j:Nat} {vl:Value} {l:List Tr} {acc:List UInt8} {fv:Value} {f:Fld}
  (h:LSt w1 σ w v flex b l.length j vl acc) (hb:w1.rangeAt b 0 [.int .i64 f.kind,.int .i64 f.frm,.int .i64 f.to,.int .i64 f.null,.int .i64 f.tag,.int .i64 f.dflt,.int .i64 f.of,fv]) (hfv:zik w1 fv f.sub) (hvl:zij w1 vl l) (hp:f.of=10→zsn P M flex v f.sub) (hj:j < l.length) (hwl:∀ x∈l,wfT x)
  (hbig:acc.length+(valB flex f.of (zci flex v f.sub) false l[j]).length < 549755813888) {Q:Exit→Env→World→Prop}
  (hQ:∀ (σ':Env) (w':World),LSt w1 σ' w' v flex b l.length j vl (acc++valB flex f.of (zci flex v f.sub) false l[j])→Q .normal σ' w') :
  W P loc N' (bodyF N M) Q σ w:=by
 obtain⟨h1,h2,h4,h9,h11,h12,h13,hle,m1w⟩:=h
 obtain⟨fs,hti⟩:=S.tr.ti
 unfold bodyF
 obtain⟨bb,oo,cc,ct,hv,hr,hg⟩:=hvl.get (List.getElem?_eq_getElem hj)
 refine zd fun K hK=>zi fun τ=>?_
 simp +decide only [bK,bE,BEq.rfl,Nat.reduceAdd,h13]
 refine hK _ _ (zb fun σ1 hσ=>?_)
 have a1:=hσ 1
 have a2:=hσ 2
 have a4:=hσ 4
 have a9:=hσ 9
 have a11:=hσ 11
 have a12:=hσ 12
 have a13:=hσ 13
 have a15:=hσ 15
 simp +decide only [bE,Nat.reduceBeqDiff,BEq.rfl,Nat.reduceAdd,h1,h2,h4,h9,h12,h13] at a1 a2 a4 a9 a11 a12 a13 a15
 clear hσ hK K
 rw[← a11] at h11
 have md:Mod w w.drew zy:=Mod.drew _ _
 have cw:∀ {w':World},Mod w w' (fun i _=>¬ zcl (σ1 11) i)→Mod w1 w' zy:=fun h=>Mod.ofOwn h11 m1w h
 refine zact B.mixed [true,true,true,true,true,true,true,true,true,true,true,false,false,false] (by kernel_rfl) (fun w'=>Mod w w' (fun i _=>¬ zcl (σ1 11) i)) (Mod.drew _ _) fun τ=>?_
 refine zar (σ1 11) (fun w' _=>by
  rw[zdb,ev_tmp]
  simp +decide only [bE,Nat.reduceAdd]) rfl ?_
 refine zar (.pointer (some ⟨b,6,none⟩)) (fun w' _=>zdv (by
  simp +decide only [bE,Nat.reduceBeqDiff,Nat.reduceAdd,Nat.zero_add,ev_tmp,a4,S.f6.run])) rfl ?_
 refine zar (.int .i64 f.of) (fun w' hw=>zdv (by
  simp +decide only [bE,BEq.rfl,ev_tmp,B.int.run_load1 rfl,zad (cw hw) hb 6 _ rfl,ldc_some])) rfl ?_
 refine zar (.pointer (some ⟨b,7,none⟩)) (fun w' _=>zdv (by
  simp +decide only [bE,Nat.reduceBeqDiff,Nat.reduceAdd,Nat.zero_add,ev_tmp,a4,S.f7.run])) rfl ?_
 refine zar fv (fun w' hw=>zdv (by
  simp +decide only [bE,BEq.rfl,ev_tmp,S.lf.run_load1 rfl,zad (cw hw) hb 7 _ rfl,ldc_some])) rfl ?_
 refine zar (.int .i64 v) (fun w' _=>by
  rw[zdb,ev_tmp]
  simp +decide only [bE,Nat.reduceBeqDiff,Nat.reduceAdd,a1]) rfl ?_
 refine zar (.bool flex) (fun w' _=>by
  rw[zdb,ev_tmp]
  simp +decide only [bE,Nat.reduceBeqDiff,Nat.reduceAdd,a2]) rfl ?_
 refine zar vl (fun w' _=>by
  rw[zdb,ev_tmp]
  simp +decide only [bE,Nat.reduceBeqDiff,Nat.reduceAdd,a9]) rfl ?_
 refine zar (.int .i64 j) (fun w' _=>by
  rw[zdb,ev_tmp]
  simp +decide only [bE,Nat.reduceBeqDiff,Nat.reduceAdd,a15]) rfl ?_
 refine zar (.pointer (some ⟨bb,oo+j * 5,none⟩)) (fun w' hw=>zdv (by
  have:=fun {w:World}=>zcb (P:=P) (w:=w) S.tr.lt hti (bl:=bb) (o:=oo) (n:=l.length) (c:=cc) (i:=j) (k:=.i64) hj
  simp +decide only [bE,Nat.reduceBeqDiff,BEq.rfl,ev_tmp]
  rw[hv]; exact this)) rfl ?_
 refine zar (.agg ct.toArray) (fun w' hw=>zdv (by
  simp +decide only [bE,BEq.rfl,ev_tmp]
  exact zga S.tr (zad (cw hw) hg) hr.len)) rfl ?_
 simp only [zfv,zgv,List.zip_cons_cons,List.zip_nil_right,List.zipWith_cons_cons,List.zipWith_nil_right,List.filter,Bool.not_true,Bool.not_false,List.map,zid]
 have m1d:=m1w.trans' md
 rw[zvz hW.value.has]
 have eargs:∀ ρ:Env,(#[T 2,T 4,.const (.bool false),T 5,T 6,T 10]:Array Operand).map (ev ρ)=#[ρ 2,ρ 4,.bool false,ρ 5,ρ 6,ρ 10]:=fun ρ=>by simp
 rw[eargs]
 simp +decide only [bE,Nat.reduceBeqDiff,BEq.rfl]
 refine(sp_value B S hW (sub:=f.sub) (null:=false) hp (hfv.stay m1d) (RepA.stay m1d _ hr) (hwl _ (List.getElem_mem hj)) (by omega)).mono ?_
 rintro r w3 ⟨ho3,m3⟩
 have mw3:Mod w w3 zy:=md.trans' m3
 refine⟨mw3.mono fun _ _ _ h=>h.elim,?_⟩
 obtain⟨v4,w4,hap,ho4,m4,_⟩:=zdq (ty:=N.za) B (h11.stay mw3 fun _ _ _ h=>h) (ho3.octA) (Nat.le_trans m1w.size mw3.size) (by omega)
 have m04:Mod w1 w4 zy:=Mod.ofOwn (h11.stay mw3 fun _ _ _ h=>h) (m1w.trans' mw3) m4
 simp +decide only [bK,bE,Nat.reduceBeqDiff,BEq.rfl,hap]
 refine⟨(mw3.mono fun _ _ _ h=>h.elim).trans m4 fun k o hk h=>h.elim id id,?_⟩
 refine zb fun σ2 hσ=>hQ σ2 w4 ?_
 have b1:=hσ 1
 have b2:=hσ 2
 have b4:=hσ 4
 have b9:=hσ 9
 have b11:=hσ 11
 have b12:=hσ 12
 have b13:=hσ 13
 simp +decide only [bE,Nat.reduceBeqDiff,BEq.rfl,Nat.reduceAdd,a1,a2,a4,a9,a12,a13] at b1 b2 b4 b9 b11 b12 b13
 exact⟨b1,b2,b4,b9,by rw[b11]; exact ho4,b12,b13,hle,m04⟩
end
end Go.Kf
