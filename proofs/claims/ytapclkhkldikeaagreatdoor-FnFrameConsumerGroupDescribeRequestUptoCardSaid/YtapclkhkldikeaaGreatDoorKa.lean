/- A part of the calculus by which the claim's proof goes: over any program and any numbering of its functions; no condition beyond those that each theorem names. -/
import Derived.StillTail
import Derived.Below
import Derived.Scope
import Derived.Laws.Sem
import Derived.Laws.World
import Derived.Deep.MidRow
import Derived.Laws.Tables
import Derived.KernelRfl
set_option linter.unusedSimpArgs false
set_option linter.unusedVariables false
namespace Go.Kf
open Go Go.RowKit
structure ROp where
 dst:Option Nat
 op:Op
 type:TypeId
 guard:Option (Option Nat × Bool)
 after:List Nat
 deriving Inhabited
inductive C where
 | skip | ret
 | label (l:Nat) | goto (l:Nat) | exit (id:Nat)
 | ops (l:List ROp)
 | draw (l:List ROp)
 | seq (a b:C)
 | cond (i:Nat) (a b:C)
 | block (id:Nat) (c:C)
 | loop (c:C)
 | scope (c:C)
 deriving Inhabited
def mapO (f:Nat→Nat):Operand→Operand
 | .tmp t=>.tmp (f t)
 | .const v=>.const v
 | .global g=>.global g
 | .func g=>.func g
def zha (f:Nat→Nat):Callee→Callee
 | .value x=>.value (mapO f x)
 | .invoke x m=>.invoke (mapO f x) m
 | .builtin b=>.builtin b
def zen (f:Nat→Nat):Op→Option Op
 | .move x=>some (.move (mapO f x))
 | .assign x=>some (.assign (mapO f x))
 | .pick c a b=>some (.pick (mapO f c) (mapO f a) (mapO f b))
 | .alloc e=>some (.alloc e)
 | .box e x=>some (.box e (mapO f x))
 | .build t ps=>some (.build t (ps.map fun p=>(p.1,mapO f p.2)))
 | .buildSlice t n ps=>some (.buildSlice t n (ps.map fun p=>(p.1,mapO f p.2)))
 | .load t a=>some (.load t (mapO f a))
 | .store t a x=>some (.store t (mapO f a) (mapO f x))
 | .nilCheck x=>some (.nilCheck (mapO f x))
 | .binOp o t x y u=>some (.binOp o t (mapO f x) (mapO f y) u)
 | .unOp o t x=>some (.unOp o t (mapO f x))
 | .convert s d x=>some (.convert s d (mapO f x))
 | .makeInterface t x=>some (.makeInterface t (mapO f x))
 | .makeFunc fn a b=>some (.makeFunc fn (a.map (mapO f)) (b.map (mapO f)))
 | .makeMap t r=>some (.makeMap t (r.map (mapO f)))
 | .makeSlice t l c=>some (.makeSlice t (mapO f l) (mapO f c))
 | .slice t x l h m=>some (.slice t (mapO f x) (l.map (mapO f)) (h.map (mapO f)) (m.map (mapO f)))
 | .fieldAddr t x i=>some (.fieldAddr t (mapO f x) i)
 | .field t x i=>some (.field t (mapO f x) i)
 | .indexAddr t x i=>some (.indexAddr t (mapO f x) (mapO f i))
 | .index t x i=>some (.index t (mapO f x) (mapO f i))
 | .lookup t x i ok=>some (.lookup t (mapO f x) (mapO f i) ok)
 | .mapUpdate t m k v=>some (.mapUpdate t (mapO f m) (mapO f k) (mapO f v))
 | .extract x i=>some (.extract (mapO f x) i)
 | .range t x=>some (.range t (mapO f x))
 | .next x b=>some (.next (mapO f x) b)
 | .entry x=>some (.entry (mapO f x))
 | .call c=>some (.call { callee:=zha f c.callee,args:=c.args.map (mapO f),argTypes:=c.argTypes })
 | _=>none
def zew (loc:List Nat) (t:Nat):Option Nat:=loc.idxOf? t
def zwr (loc:List Nat) (ops:List Oper):Nat:=
 match ops.filterMap fun o=>o.dst.bind fun d=>if (zew loc d).isSome then none else some d with
 | []=>0
 | d :: l=>l.foldl Nat.min d
def ren (loc:List Nat) (base:Nat) (t:Nat):Nat:=
 match zew loc t with
 | some i=>i+100
 | none=>t - base
def fine (loc:List Nat) (N base:Nat) (t:Nat):Bool:=
 Nat.blt t N && ((zew loc t).isSome || (Nat.ble base t && Nat.blt t (base+90)))
def Operand.tmps:Operand→List Nat
 | .tmp t=>[t]
 | _=>[]
def typed:Op→Bool
 | .call _ | .next ..=>true
 | _=>false
def zkx (loc:List Nat) (N base:Nat) (all:List Oper) (o:Oper):Option ROp:=
 if (o.dst.toList++o.op.operands.toList.flatMap Operand.tmps).all (fine loc N base) then
  (match o.guard with
     | none=>some none
     | some (j,b)=>match all[j]? with
       | some oj=>match oj.dst with
         | some d=>if fine loc N base d then some (some (some (ren loc base d),b)) else none
         | none=>some (some (none,b))
       | none=>none).bind fun g=>
  (zen (ren loc base) o.op).map fun op=>
   { dst:=o.dst.map (ren loc base),op,type:=if typed o.op then o.type else 0,guard:=g,after:=(o.after.toList.filter (Region.binds .any)).map Edge.on }
 else none
def zlh (loc:List Nat) (N:Nat) (ops:List Oper):Option (List ROp):=
 ops.mapM (zkx loc N (zwr loc ops) ops)
def er (loc:List Nat) (N:Nat):Code→Option C
 | .skip=>some .skip
 | .ret=>some .ret
 | .label l=>some (.label l)
 | .goto l=>some (.goto l)
 | .exit id=>some (.exit id)
 | .region _ ops false=>(zlh loc N ops.toList).map fun l=>.ops (l.map fun r=>{ r with after:=[] })
 | .region _ ops true=>(zlh loc N ops.toList).map .draw
 | .seq a b=>(er loc N a).bind fun x=>(er loc N b).map fun y=>.seq x y
 | .cond (.tmp t) a b=>(zew loc t).bind fun i=>(er loc N a).bind fun x=>(er loc N b).map fun y=>.cond i x y
 | .block id c=>(er loc N c).map (.block id)
 | .loop c=>(er loc N c).map .loop
 | .scope c=>(er loc N c).map .scope
 | _=>none
abbrev Env:=Nat→Value
def ev (ρ:Env):Operand→Value
 | .tmp t=>ρ t
 | .const v=>v
 | .global g=>.pointer (some ⟨g,0,none⟩)
 | .func f=>.func (.func f) #[] #[]
def put (ρ:Env) (d:Option Nat) (v:Value):Env:=
 match d with
 | none=>ρ
 | some d=>fun t=>if t=d then v else ρ t
def exec (ρ:Env) (o:ROp):Sem Next:=
 execOp (ev ρ) { dst:=o.dst,op:=o.op,type:=o.type,pos := "", after:=#[],guard:=none }
def upon (P:Program) (d:Option Nat) (ρ:Env) (K:Env→World→Prop):Result Next→Prop
 | .ok (.value v) w=>K (put ρ d v) w
 | .ok .skip w=>K (put ρ d undef) w
 | .ok (.enter f args) w=>Calls P f args w fun e w'=>∃ v,e=.returned v∧K (put ρ d v) w'
 | _=>False
def zdl (ρ:Env):Option (Option Nat × Bool)→Bool
 | none=>true
 | some (some d,b)=>match ρ d with
  | .bool c=>c == b
  | _=>false
 | some (none,_)=>false
def zcn (P:Program) (o:ROp) (ρ:Env) (w:World) (K:Env→World→Prop):Prop:=
 if zdl ρ o.guard=true then upon P o.dst ρ K ((exec ρ o).run P w) else K (put ρ o.dst undef) w
def runR (P:Program):List ROp→Env→World→(Env→World→Prop)→Prop
 | [],ρ,w,K=>K ρ w
 | o :: r,ρ,w,K=>zcn P o ρ w fun ρ w=>runR P r ρ w K
theorem upon_mono {P:Program} {d:Option Nat} {ρ:Env} {K K':Env→World→Prop} (h:∀ ρ w,K ρ w→K' ρ w) {r:Result Next} (hr:upon P d ρ K r):upon P d ρ K' r:=by
 cases r with
 | ok n w=>
  cases n<;>simp only [upon] at hr ⊢<;>first
   | exact h _ _ hr
   | exact hr.mono fun e w' ⟨v,he,hk⟩=>⟨v,he,h _ _ hk⟩
 | halt x w=>simp only [upon] at hr
theorem zhi {P:Program} {o:ROp} {ρ:Env} {w:World} {K K':Env→World→Prop} (h:∀ ρ w,K ρ w→K' ρ w) (hr:zcn P o ρ w K):zcn P o ρ w K':=by
 unfold zcn at *
 split
 ·rename_i hw; rw[if_pos hw] at hr; exact upon_mono h hr
 ·rename_i hw; rw[if_neg hw] at hr; exact h _ _ hr
theorem zwf {P:Program}:∀ (l:List ROp) {ρ:Env} {w:World} {K:Env→World→Prop},runR P (l.map fun r=>{ r with after:=[] }) ρ w K ↔ runR P l ρ w K
 | [],_,_,_=>Iff.rfl
 | r :: l,ρ,w,K=>by
  have e:∀ ρ w,runR P (l.map fun r=>{ r with after:=[] }) ρ w K=runR P l ρ w K:=fun ρ w=>propext (zwf l)
  simp only [List.map_cons,runR,e]
  exact Iff.rfl
structure Fits (loc:List Nat) (N:Nat) (a:Act) (σ:Env):Prop where
 defers:a.defers=[]
 size:a.tmps.size=N
 at_:∀ t i,zew loc t=some i→t < N→a.tmps.getD t undef=σ i
structure Sim (loc:List Nat) (N base:Nat) (a:Act) (ρ:Env):Prop where
 defers:a.defers=[]
 size:a.tmps.size=N
 at_:∀ t,fine loc N base t=true→a.tmps.getD t undef=ρ (ren loc base t)
theorem zzu {loc:List Nat} {t u i:Nat} (h:zew loc t=some i) (h':zew loc u=some i):t=u:=by
 unfold zew at h h'
 have h1:=(List.idxOf?_eq_some_iff.1 h)
 have h2:=(List.idxOf?_eq_some_iff.1 h')
 grind
theorem zacd {loc:List Nat} {N base t:Nat} (h:fine loc N base t=true):t < N:=by unfold fine at h; simp at h; exact h.1
theorem ren_inj {loc:List Nat} {N base t u:Nat} (ht:fine loc N base t=true) (hu:fine loc N base u=true) (h:ren loc base t=ren loc base u):t=u:=by
 unfold ren at h
 unfold fine at ht hu
 cases h1:zew loc t with
 | some i=>
  cases h2:zew loc u with
  | some j=>simp only [h1,h2] at h; exact zzu h1 (by rw[h2]; congr 1; omega)
  | none=>simp [h1,h2] at h ht hu; omega
 | none=>
  cases h2:zew loc u with
  | some j=>simp [h1,h2] at h ht hu; omega
  | none=>simp [h1,h2] at h ht hu; omega
theorem Sim.put {loc:List Nat} {N base:Nat} {a:Act} {ρ:Env} (h:Sim loc N base a ρ) (d:Option Nat) (hd:∀ t,d=some t→fine loc N base t=true) (v:Value) :
  Sim loc N base (a.put d v) (put ρ (d.map (ren loc base)) v):=by
 cases d with
 | none=>exact h
 | some d=>
  refine⟨h.defers,by simp [Act.put,h.size],fun t ht=>?_⟩
  simp only [Act.put,Option.map_some,Kf.put]
  by_cases e:t=d
  ·subst e
   have:t < a.tmps.size:=by rw[h.size]; exact zacd ht
   simp [this]
  ·have hne:ren loc base t≠ren loc base d:=fun he=>e (ren_inj ht (hd d rfl) he)
   have hdt:d≠t:=fun x=>e x.symm
   rw[if_neg hne,← h.at_ t ht]
   simp [Array.getElem?_setIfInBounds_ne hdt]
theorem exec_ren {loc:List Nat} {N base:Nat} {a:Act} {ρ:Env} (h:Sim loc N base a ρ) {o:Oper} {op:Op} (hop:zen (ren loc base) o.op=some op)
  (hf:∀ x∈o.op.operands,∀ t,x=.tmp t→fine loc N base t=true) (r:ROp) (hr:r.op=op) (ht:typed o.op=true→r.type=o.type) :
  execOp a.eval o=exec ρ r:=by
 have e1:execOp a.eval o=execOp (fun x=>ev ρ (mapO (ren loc base) x)) o:=by
  refine execOp_congr o (fun cs b hs=>by rw[hs] at hop; simp [zen] at hop) fun x hx=>?_
  cases x with
  | tmp t=>exact h.at_ t (hf _ hx t rfl)
  | _=>rfl
 rw[e1]
 obtain⟨dst,op0,type,pos,after,guard⟩:=o
 obtain⟨rd,rop,rt,rg,ra⟩:=r
 simp only at hr ht
 subst hr
 clear e1 hf h
 cases op0 with
 | next x b=>
  have ht':rt=type:=ht rfl
  subst ht'
  simp only [zen,Option.some.injEq] at hop
  subst hop
  rfl
 | call c=>
  have ht':rt=type:=ht rfl
  subst ht'
  simp only [zen,Option.some.injEq] at hop
  subst hop
  simp only [exec,execOp]
  congr 1
  unfold resolve
  cases hc:c.callee with
  | builtin b=>
   simp only [zha,Array.map_map,Function.comp_def]
   congr 3
   refine Array.map_congr_left fun x _=>?_
   cases x<;>rfl
  | value f=>simp only [zha,Array.map_map,Function.comp_def]
  | invoke f m=>simp only [zha,Array.map_map,Function.comp_def]
 | binOp b t x y u=>
  simp only [zen,Option.some.injEq] at hop
  subst hop
  cases x<;>cases y<;>rfl
 | _=>first
  | (simp only [zen,Option.some.injEq,reduceCtorEq] at hop; done)
  | (simp only [zen,Option.some.injEq] at hop; subst hop; simp [exec,execOp,Function.comp_def,Option.map_map]; done)
  | (simp only [zen,Option.some.injEq] at hop; subst hop; rfl)
theorem wanted_ren {loc:List Nat} {N base:Nat} {a:Act} {ρ:Env} (h:Sim loc N base a ρ) {all:List Oper} {ops:Array Oper} (hall:∀ j:Nat,all[j]?=ops[j]?) {o:Oper} {r:ROp} (he:zkx loc N base all o=some r) :
  Region.wanted o (yielded ops a.tmps)=zdl ρ r.guard:=by
 unfold zkx at he
 split at he
 case isFalse=>cases he
 unfold Region.wanted
 cases hg:o.guard with
 | none=>
  rw[hg] at he
  simp only [Option.bind_some,Option.map_eq_some_iff] at he
  obtain⟨op,_,rfl⟩:=he
  rfl
 | some g=>
  obtain⟨j,b⟩:=g
  rw[hg] at he
  simp only at he
  cases hj:all[j]? with
  | none=>rw[hj] at he; simp at he
  | some oj=>
   rw[hj] at he
   simp only at he
   have hj':ops[j]?=some oj:=(hall j).symm.trans hj
   unfold yielded
   simp only [hj',Option.bind_some]
   cases hd:oj.dst with
   | none=>
    rw[hd] at he
    simp only [Option.bind_some,Option.map_eq_some_iff] at he
    obtain⟨op,_,rfl⟩:=he
    simp [zdl]
   | some d=>
    rw[hd] at he
    simp only at he
    split at he
    case isFalse=>simp at he
    rename_i hfd
    simp only [Option.bind_some,Option.map_eq_some_iff] at he
    obtain⟨op,_,rfl⟩:=he
    have hs:=h.at_ d hfd
    have hlt:d < a.tmps.size:=by rw[h.size]; exact zacd hfd
    simp only [Option.bind_some,zdl,← hs]
    simp only [hlt,Array.getElem?_eq_getElem,Array.getD_eq_getD_getElem?,Option.getD_some]
    cases a.tmps[d]<;>simp
theorem znp {loc:List Nat} {N base:Nat} {all:List Oper} {o:Oper} {r:ROp} (he:zkx loc N base all o=some r) :
  r.dst=o.dst.map (ren loc base)∧zen (ren loc base) o.op=some r.op∧(typed o.op=true→r.type=o.type) ∧
  (∀ t,o.dst=some t→fine loc N base t=true)∧(∀ x∈o.op.operands,∀ t,x=.tmp t→fine loc N base t=true) ∧
  r.after=(o.after.toList.filter (Region.binds .any)).map Edge.on:=by
 unfold zkx at he
 split at he
 case isFalse=>cases he
 rename_i hall
 rw[List.all_append,Bool.and_eq_true] at hall
 obtain⟨h1,h2⟩:=hall
 rw[Option.bind_eq_some_iff] at he
 obtain⟨g,_,he⟩:=he
 simp only [Option.map_eq_some_iff] at he
 obtain⟨op,hop,rfl⟩:=he
 refine⟨rfl,hop,fun ht=>by simp only [ht,if_true],fun t ht=>?_,fun x hx t ht=>?_,rfl⟩
 ·rw[ht] at h1; simpa using h1
 ·subst ht
  rw[List.all_eq_true] at h2
  exact h2 t (List.mem_flatMap.2 ⟨.tmp t,by simpa using hx,by simp [Operand.tmps]⟩)
theorem zpz {P:Program} {loc:List Nat} {N base:Nat} {all:List Oper} {ops:Array Oper} (hall:∀ j:Nat,all[j]?=ops[j]?) {i:Nat} {o:Oper} {r:ROp}
  (hi:ops[i]?=some o) (he:zkx loc N base all o=some r) {a:Act} {ρ:Env} (h:Sim loc N base a ρ) {w:World} {K:Env→World→Prop} {K':Act→World→Prop} {Q:Exit→Act→World→Prop}
  (hK:∀ a ρ w,Sim loc N base a ρ→K ρ w→K' a w) (hr:zcn P r ρ w K):wpOp P ops Q i K' a w:=by
 obtain⟨hd,hop,hty,hfd,hfo,_⟩:=znp he
 have hw:=wanted_ren h hall he
 unfold wpOp
 simp only [hi]
 unfold zcn at hr
 rw[hw]
 by_cases hb:zdl ρ r.guard=true
 ·rw[if_pos hb] at hr
  rw[if_pos hb]
  left
  unfold Oper.wp
  rw[exec_ren h hop hfo r rfl hty]
  cases hres:(exec ρ r).run P w with
  | ok n w'=>
   rw[hres] at hr
   cases n<;>simp only [upon] at hr<;>simp only [Oper.upon]
   case value v=>exact hK _ _ _ (by rw[hd]; exact h.put _ hfd v) hr
   case skip=>exact hK _ _ _ (by rw[hd]; exact h.put _ hfd undef) hr
   case enter f args=>
    refine hr.mono ?_
    rintro e w'' ⟨v,rfl,hk⟩
    exact hK _ _ _ (by rw[hd]; exact h.put _ hfd v) hk
  | halt x w'=>rw[hres] at hr; simp only [upon] at hr
 ·rw[if_neg hb] at hr
  rw[if_neg hb]
  exact hK _ _ _ (by rw[hd]; exact h.put _ hfd undef) hr
theorem zwt {P:Program} {loc:List Nat} {N base:Nat} {all:List Oper} {ops:Array Oper} (hall:∀ j:Nat,all[j]?=ops[j]?) {Q:Exit→Act→World→Prop} :
  ∀ (rest:List Oper) (rl:List ROp) (k:Nat),rest.mapM (zkx loc N base all)=some rl→(∀ j:Nat,rest[j]?=ops[k+j]?)→
  ∀ {a:Act} {ρ:Env} {w:World} {K:Env→World→Prop},(∀ a ρ w,Sim loc N base a ρ→K ρ w→Q .normal a w)→Sim loc N base a ρ→runR P rl ρ w K→
   wpOps P ops Q (List.range' k rest.length) a w:=by
 intro rest
 induction rest with
 | nil=>
  intro rl k hm _ a ρ w K hK h hr
  simp at hm
  subst hm
  exact hK _ _ _ h hr
 | cons o rest ih=>
  intro rl k hm hj a ρ w K hK h hr
  rw[List.mapM_cons] at hm
  simp only [Option.bind_eq_bind,Option.bind_eq_some_iff,Option.pure_def,Option.some.injEq] at hm
  obtain⟨r,he,rl',hm',rfl⟩:=hm
  rw[List.length_cons,List.range'_succ,wpOps_cons]
  have h0:ops[k]?=some o:=by have:=hj 0; simpa using this.symm
  refine zpz hall h0 he h (K:=fun ρ w=>runR P rl' ρ w K) (fun a ρ w hs hk=>?_) hr
  exact ih rl' (k+1) hm' (fun j=>by have:=hj (j+1); simpa [Nat.add_assoc,Nat.add_comm 1 j] using this) hK hs hk
def zli (σ τ:Env):Env:=fun t=>if t < 100 then τ t else σ (t - 100)
def locs (ρ:Env):Env:=fun i=>ρ (i+100)
@[simp] theorem envOf_loc (σ τ:Env) (i:Nat):zli σ τ (i+100)=σ i:=by
 show (if i+100 < 100 then τ (i+100) else σ (i+100 - 100))=σ i
 rw[if_neg (by omega),Nat.add_sub_cancel]
def lift (loc:List Nat) (N:Nat) (Q:Exit→Env→World→Prop):Exit→Act→World→Prop:=fun e a w=>∃ σ,Fits loc N a σ∧Q e σ w
def W (P:Program) (loc:List Nat) (N:Nat) (c:C) (Q:Exit→Env→World→Prop) (σ:Env) (w:World):Prop:=
 ∀ code,er loc N code=some c→∀ a,Fits loc N a σ→code.wp P (lift loc N Q) a w
def zfd (next:Env→World→Prop) (Q:Exit→Env→World→Prop):Exit→Env→World→Prop
 | .normal,σ,w=>next σ w
 | e,σ,w=>Q e σ w
def inB (id:Nat) (Q:Exit→Env→World→Prop):Exit→Env→World→Prop
 | .exit id',σ,w=>if id'=id then Q .normal σ w else Q (.exit id') σ w
 | e,σ,w=>Q e σ w
theorem Fits.sim {loc:List Nat} {N base:Nat} {a:Act} {σ:Env} (h:Fits loc N a σ):Sim loc N base a (zli σ fun t=>a.tmps.getD (base+t) undef):=by
 refine⟨h.defers,h.size,fun t ht=>?_⟩
 have hN:=zacd ht
 unfold fine at ht
 unfold ren
 cases hl:zew loc t with
 | some i=>simp only [envOf_loc]; exact h.at_ t i hl hN
 | none=>
  simp [hl] at ht
  simp only [zli]
  rw[if_pos (by omega)]
  congr 1
  omega
theorem Sim.fits {loc:List Nat} {N base:Nat} {a:Act} {ρ:Env} (h:Sim loc N base a ρ):Fits loc N a (locs ρ):=by
 refine⟨h.defers,h.size,fun t i hl hN=>?_⟩
 have hf:fine loc N base t=true:=by unfold fine; simp [hl,hN]
 rw[h.at_ t hf]
 simp [ren,hl,locs]
section
variable {P:Program} {loc:List Nat} {N:Nat} {Q:Exit→Env→World→Prop} {σ:Env} {w:World}
theorem zii {c:C} {Q':Exit→Env→World→Prop} (h:W P loc N c Q σ w) (hq:∀ e σ w,Q e σ w→Q' e σ w):W P loc N c Q' σ w:=
 fun code hc a ha=>wp_mono (h code hc a ha) fun _ _ _ ⟨σ,hf,hQ⟩=>⟨σ,hf,hq _ _ _ hQ⟩
theorem zcj {id:Nat} {ops:Array Oper} {d:Bool}:er loc N (.region id ops d)=(zlh loc N ops.toList).map (if d then .draw else fun l=>.ops (l.map fun r=>{ r with after:=[] })):=by
 cases d<;>rfl
theorem zbd (h:Q .normal σ w):W P loc N .skip Q σ w:=by
 intro code hc a ha
 cases code with
 | skip=>exact wp_skip ⟨σ,ha,h⟩
 | region id ops d=>rw[zcj] at hc; cases h0:zlh loc N ops.toList<;>cases d<;>simp [h0] at hc
 | cond x a b=>cases x<;>simp [er,Option.bind_eq_some_iff] at hc
 | _=>simp [er,Option.bind_eq_some_iff] at hc
theorem zbb (h:Q .ret σ w):W P loc N .ret Q σ w:=by
 intro code hc a ha
 cases code with
 | ret=>exact wp_ret ⟨σ,ha,h⟩
 | region id ops d=>rw[zcj] at hc; cases h0:zlh loc N ops.toList<;>cases d<;>simp [h0] at hc
 | cond x a b=>cases x<;>simp [er,Option.bind_eq_some_iff] at hc
 | _=>simp [er,Option.bind_eq_some_iff] at hc
theorem zof {id:Nat} (h:Q (.exit id) σ w):W P loc N (.exit id) Q σ w:=by
 intro code hc a ha
 cases code with
 | exit id'=>simp [er] at hc; subst hc; exact wp_exit ⟨σ,ha,h⟩
 | region id ops d=>rw[zcj] at hc; cases h0:zlh loc N ops.toList<;>cases d<;>simp [h0] at hc
 | cond x a b=>cases x<;>simp [er,Option.bind_eq_some_iff] at hc
 | _=>simp [er,Option.bind_eq_some_iff] at hc
theorem W_label {l:Nat} (h:Q .normal σ w):W P loc N (.label l) Q σ w:=by
 intro code hc a ha
 cases code with
 | label l'=>exact wp_label ⟨σ,ha,h⟩
 | region id ops d=>rw[zcj] at hc; cases h0:zlh loc N ops.toList<;>cases d<;>simp [h0] at hc
 | cond x a b=>cases x<;>simp [er,Option.bind_eq_some_iff] at hc
 | _=>simp [er,Option.bind_eq_some_iff] at hc
theorem W_seq {x y:C} (h:W P loc N x (zfd (W P loc N y Q) Q) σ w):W P loc N (.seq x y) Q σ w:=by
 intro code hc a ha
 cases code with
 | seq c d=>
  simp only [er,Option.bind_eq_some_iff,Option.map_eq_some_iff,C.seq.injEq] at hc
  obtain⟨x',hx,y',hy,rfl,rfl⟩:=hc
  refine wp_seq (wp_mono (h c hx a ha) ?_)
  rintro e a' w' ⟨σ',hf,hq⟩
  cases e with
  | normal=>exact hq d hy a' hf
  | _=>exact⟨σ',hf,hq⟩
 | region id ops d=>rw[zcj] at hc; cases h0:zlh loc N ops.toList<;>cases d<;>simp [h0] at hc
 | cond x a b=>cases x<;>simp [er,Option.bind_eq_some_iff] at hc
 | _=>simp [er] at hc
theorem W_cond {i:Nat} {x y:C} {t:Bool} (hi:σ i=.bool t) (hN:∀ s,loc[i]?=some s→s < N) (h:W P loc N (if t then x else y) Q σ w):W P loc N (.cond i x y) Q σ w:=by
 intro code hc a ha
 cases code with
 | cond o c d=>
  cases o with
  | tmp s=>
   simp only [er,Option.bind_eq_some_iff,Option.map_eq_some_iff,C.cond.injEq] at hc
   obtain⟨i',hl,x',hx,y',hy,rfl,rfl,rfl⟩:=hc
   have hs:loc[i']?=some s:=by
    have:=List.idxOf?_eq_some_iff.1 hl
    grind
   have he:a.eval (.tmp s)=.bool t:=by
    show a.tmps.getD s undef=_
    rw[ha.at_ s i' hl (hN s hs),hi]
   refine wp_cond he ?_
   cases t
   ·exact h d hy a ha
   ·exact h c hx a ha
  | _=>simp [er] at hc
 | region id ops d=>rw[zcj] at hc; cases h0:zlh loc N ops.toList<;>cases d<;>simp [h0] at hc
 | _=>simp [er,Option.bind_eq_some_iff] at hc
theorem zem {id:Nat} {c:C} (h:W P loc N c (inB id Q) σ w):W P loc N (.block id c) Q σ w:=by
 intro code hc a ha
 cases code with
 | block id' c'=>
  simp only [er,Option.map_eq_some_iff,C.block.injEq] at hc
  obtain⟨x,hx,rfl,rfl⟩:=hc
  refine wp_block (wp_mono (h c' hx a ha) ?_)
  rintro e a' w' ⟨σ',hf,hq⟩
  cases e with
  | exit k=>
   simp only [inB] at hq
   simp only [Exit.inBlock]
   split
   ·rename_i hk; rw[if_pos hk] at hq; exact⟨σ',hf,hq⟩
   ·rename_i hk; rw[if_neg hk] at hq; exact⟨σ',hf,hq⟩
  | _=>exact⟨σ',hf,hq⟩
 | region id ops d=>rw[zcj] at hc; cases h0:zlh loc N ops.toList<;>cases d<;>simp [h0] at hc
 | cond x a b=>cases x<;>simp [er,Option.bind_eq_some_iff] at hc
 | _=>simp [er,Option.bind_eq_some_iff] at hc
theorem wp_loop_g {c:Code} {Q:Exit→Act→World→Prop} (I:Nat→Act→World→Prop)
  (round:∀ n a w,I n a w→c.wp P (Exit.then (fun a' w'=>∃ m,m < n∧I m a' w') Q) a w) {n:Nat} {a:Act} {w:World} (h₀:I n a w):(Code.loop c).wp P Q a w:=by
 intro b k cs
 have key:∀ n a w,I n a w→
   ∃ e a' w',Q e a' w'∧Arrives P (lone (b.at a (.code c :: .inLoop c :: k)) cs w) b k cs e a' w':=by
  intro n
  induction n using Nat.strongRecOn with
  | _ n ih=>
   intro a w hI
   obtain⟨e,a₁,w₁,hq,harr⟩:=round n a w hI b (.inLoop c :: k) cs
   cases e with
   | normal=>
    obtain⟨m,hlt,hI₁⟩:=hq
    obtain⟨e₂,a₂,w₂,hq₂,harr₂⟩:=ih m hlt a₁ w₁ hI₁
    exact⟨e₂,a₂,w₂,hq₂,.of_steps (Steps.trans harr (.one step_inLoop)) harr₂⟩
   | exit id=>exact⟨_,a₁,w₁,hq,.pass (x:=.inLoop c) rfl (fun _ _=>.inl (by simp)) harr⟩
   | goto l=>exact⟨_,a₁,w₁,hq,.pass (x:=.inLoop c) rfl (fun _ _=>.inl (by simp)) harr⟩
   | ret=>exact⟨_,a₁,w₁,hq,.pass (x:=.inLoop c) rfl (fun _ _=>.inl (by simp)) harr⟩
   | panic ch=>exact⟨_,a₁,w₁,hq,.pass (x:=.inLoop c) rfl (fun _ _=>.inl (by simp)) harr⟩
   | outgrown=>exact⟨_,a₁,w₁,hq,.pass (x:=.inLoop c) rfl (fun _ _=>.inl (by simp)) harr⟩
 obtain⟨e,a',w',hq,harr⟩:=key _ a w h₀
 exact⟨e,a',w',hq,.of_steps (.one step_loop) harr⟩
theorem zpk {c:C} (I:Nat→Env→World→Prop) {n:Nat} (h₀:I n σ w)
  (round:∀ n σ w,I n σ w→W P loc N c (zfd (fun σ' w'=>∃ m,m < n∧I m σ' w') Q) σ w):W P loc N (.loop c) Q σ w:=by
 intro code hc a ha
 cases code with
 | loop c'=>
  simp only [er,Option.map_eq_some_iff,C.loop.injEq] at hc
  obtain⟨x,hx,rfl⟩:=hc
  refine wp_loop_g (fun n a w=>∃ σ,Fits loc N a σ∧I n σ w) ?_ (n:=n) ⟨σ,ha,h₀⟩
  rintro n a w ⟨σ,hf,hI⟩
  refine wp_mono (round n σ w hI c' hx a hf) ?_
  rintro e a' w' ⟨σ',hf',hq⟩
  cases e with
  | normal=>obtain⟨m,hm,hI'⟩:=hq; exact⟨m,hm,σ',hf',hI'⟩
  | _=>exact⟨σ',hf',hq⟩
 | region id ops d=>rw[zcj] at hc; cases h0:zlh loc N ops.toList<;>cases d<;>simp [h0] at hc
 | cond x a b=>cases x<;>simp [er,Option.bind_eq_some_iff] at hc
 | _=>simp [er,Option.bind_eq_some_iff] at hc
theorem zi {l:List ROp} (h:∀ τ,runR P l (zli σ τ) w fun ρ w=>Q .normal (locs ρ) w):W P loc N (.ops l) Q σ w:=by
 intro code hc a ha
 cases code with
 | region id ops d=>
  rw[zcj] at hc
  cases h0:zlh loc N ops.toList with
  | none=>rw[h0] at hc; simp at hc
  | some rl=>
   rw[h0] at hc
   cases d with
   | true=>simp at hc
   | false=>
    simp at hc
    subst hc
    have h:=fun τ=>(zwf rl).1 (h τ)
    refine wp_region ?_
    have:=zwt (P:=P) (loc:=loc) (N:=N) (base:=zwr loc ops.toList) (all:=ops.toList) (ops:=ops) (fun j=>by simp) (Q:=lift loc N Q) ops.toList rl 0 h0 (fun j=>by simp)
     (a:=a) (w:=w) (K:=fun ρ w=>Q .normal (locs ρ) w) (fun a ρ w hs hk=>⟨_,hs.fits,hk⟩) ha.sim (h _)
    simpa [List.range_eq_range'] using this
 | cond x a b=>cases x<;>simp [er,Option.bind_eq_some_iff] at hc
 | _=>simp [er,Option.bind_eq_some_iff] at hc
def zkp:C→Nat→Option C
 | .seq a b,l=>
  match zkp a l with
  | some rest=>some (.seq rest b)
  | none=>zkp b l
 | .label l',l=>if l' == l then some .skip else none
 | _,_=>none
theorem findC_er {l:Nat}:∀ {code:Code} {c rc:C},er loc N code=some c→zkp c l=some rc→∃ rest,findLabel code l=some rest∧er loc N rest=some rc:=by
 intro code
 induction code with
 | seq a b iha ihb=>
  intro c rc hc hf
  simp only [er,Option.bind_eq_some_iff,Option.map_eq_some_iff] at hc
  obtain⟨x,hx,y,hy,rfl⟩:=hc
  simp only [zkp] at hf
  simp only [findLabel]
  cases h1:zkp x l with
  | some r=>
   rw[h1] at hf
   simp only [Option.some.injEq] at hf
   subst hf
   obtain⟨rest,h2,h3⟩:=iha hx h1
   rw[h2]
   exact⟨_,rfl,by simp [er,h3,hy]⟩
  | none=>
   rw[h1] at hf
   obtain⟨rest,h2,h3⟩:=ihb hy hf
   have h4:findLabel a l=none:=by
    cases h5:findLabel a l with
    | none=>rfl
    | some r=>
     exfalso
     have key:∀ (code:Code) (c:C) (r:Code),er loc N code=some c→findLabel code l=some r→(zkp c l).isSome=true:=by
      intro code
      induction code with
      | seq a b iha ihb=>
       intro c r hc hf
       simp only [er,Option.bind_eq_some_iff,Option.map_eq_some_iff] at hc
       obtain⟨x,hx,y,hy,rfl⟩:=hc
       simp only [findLabel] at hf
       simp only [zkp]
       cases h1:zkp x l with
       | some r=>rfl
       | none=>
        cases h6:findLabel a l with
        | some r'=>
         have:=iha x r' hx h6
         rw[h1] at this; cases this
        | none=>rw[h6] at hf; exact ihb y r hy hf
      | label l'=>intro c r hc hf; simp [er] at hc; subst hc; simp only [findLabel,zkp] at *; split at hf<;>simp_all
      | _=>intro c r hc hf; simp [findLabel] at hf
     have:=key a x r hx h5
     rw[h1] at this; cases this
   rw[h4]
   exact⟨rest,h2,h3⟩
 | label l'=>
  intro c rc hc hf
  simp [er] at hc
  subst hc
  simp only [zkp] at hf
  simp only [findLabel]
  split at hf
  ·rename_i h
   simp only [Option.some.injEq] at hf
   subst hf
   exact⟨.skip,by simp [h],rfl⟩
  ·cases hf
 | region id ops d=>intro c rc hc hf; rw[zcj] at hc; cases h0:zlh loc N ops.toList<;>cases d<;>simp [h0] at hc<;>subst hc<;>simp [zkp] at hf
 | cond x a b=>intro c rc hc hf; cases x<;>simp [er,Option.bind_eq_some_iff] at hc; obtain⟨i,_,x,_,y,_,rfl⟩:=hc; simp [zkp] at hf
 | skip=>intro c rc hc hf; simp [er] at hc; subst hc; simp [zkp] at hf
 | ret=>intro c rc hc hf; simp [er] at hc; subst hc; simp [zkp] at hf
 | goto l=>intro c rc hc hf; simp [er] at hc; subst hc; simp [zkp] at hf
 | exit l=>intro c rc hc hf; simp [er] at hc; subst hc; simp [zkp] at hf
 | block id c=>intro c rc hc hf; simp [er] at hc; obtain⟨x,_,rfl⟩:=hc; simp [zkp] at hf
 | loop c=>intro c rc hc hf; simp [er] at hc; obtain⟨x,_,rfl⟩:=hc; simp [zkp] at hf
 | scope c=>intro c rc hc hf; simp [er] at hc; obtain⟨x,_,rfl⟩:=hc; simp [zkp] at hf
 | _=>intro c rc hc hf; simp [er] at hc
def noJ (Q:Exit→Env→World→Prop):Exit→Env→World→Prop
 | .goto _,_,_=>False
 | e,σ,w=>Q e σ w
def jumpQ (P:Program) (loc:List Nat) (N:Nat) (c:C) (Q:Exit→Env→World→Prop):Exit→Env→World→Prop
 | .goto l,σ,w=>∃ rest,zkp c l=some rest∧W P loc N rest (noJ Q) σ w
 | e,σ,w=>Q e σ w
theorem W_scope {c:C} (h:W P loc N c (jumpQ P loc N c Q) σ w):W P loc N (.scope c) Q σ w:=by
 intro code hc a ha
 cases code with
 | scope c'=>
  simp only [er,Option.map_eq_some_iff,C.scope.injEq] at hc
  obtain⟨x,hx,rfl⟩:=hc
  intro b k cs
  obtain⟨e,a₁,w₁,⟨σ',hf,hq⟩,harr⟩:=h c' hx a ha b (.inScope c' :: k) cs
  cases e with
  | normal=>exact⟨.normal,a₁,w₁,⟨σ',hf,hq⟩,.head step_scope (Steps.trans harr (.one step_inScope))⟩
  | exit id=>exact⟨.exit id,a₁,w₁,⟨σ',hf,hq⟩,fun k' hk=>.head step_scope (harr k' (by simp [exitTo,hk]))⟩
  | ret=>exact⟨_,a₁,w₁,⟨σ',hf,hq⟩,.of_steps (.one step_scope) harr⟩
  | panic ch=>exact⟨_,a₁,w₁,⟨σ',hf,hq⟩,.of_steps (.one step_scope) harr⟩
  | outgrown=>exact⟨_,a₁,w₁,⟨σ',hf,hq⟩,.of_steps (b:=b) (k:=k) (cs:=cs) (e:=.outgrown) (.one step_scope) harr⟩
  | goto l=>
   obtain⟨rc,hrc,hw⟩:=hq
   obtain⟨rest,hfl,her⟩:=findC_er hx hrc
   have h1:Steps P (lone (b.at a (.code (.scope c') :: k)) cs w) (lone (b.at a₁ (.code rest :: .inScope c' :: k)) cs w₁):=.head step_scope (harr _ (by simp [gotoIn,hfl]))
   obtain⟨e₂,a₂,w₂,⟨σ₂,hf₂,hq₂⟩,harr₂⟩:=hw rest her a₁ hf b (.inScope c' :: k) cs
   cases e₂ with
   | normal=>exact⟨.normal,a₂,w₂,⟨σ₂,hf₂,hq₂⟩,h1.trans (Steps.trans harr₂ (.one step_inScope))⟩
   | exit id=>exact⟨.exit id,a₂,w₂,⟨σ₂,hf₂,hq₂⟩,fun k' hk=>h1.trans (harr₂ k' (by simp [exitTo,hk]))⟩
   | ret=>exact⟨_,a₂,w₂,⟨σ₂,hf₂,hq₂⟩,.of_steps h1 harr₂⟩
   | panic ch=>exact⟨_,a₂,w₂,⟨σ₂,hf₂,hq₂⟩,.of_steps h1 harr₂⟩
   | outgrown=>exact⟨_,a₂,w₂,⟨σ₂,hf₂,hq₂⟩,.of_steps (b:=b) (k:=k) (cs:=cs) (e:=.outgrown) h1 harr₂⟩
   | goto l=>exact hq₂.elim
 | region id ops d=>rw[zcj] at hc; cases h0:zlh loc N ops.toList<;>cases d<;>simp [h0] at hc
 | cond x a b=>cases x<;>simp [er,Option.bind_eq_some_iff] at hc
 | _=>simp [er,Option.bind_eq_some_iff] at hc
theorem W_goto {l:Nat} (h:Q (.goto l) σ w):W P loc N (.goto l) Q σ w:=by
 intro code hc a ha
 cases code with
 | goto l'=>simp [er] at hc; subst hc; exact wp_goto ⟨σ,ha,h⟩
 | region id ops d=>rw[zcj] at hc; cases h0:zlh loc N ops.toList<;>cases d<;>simp [h0] at hc
 | cond x a b=>cases x<;>simp [er,Option.bind_eq_some_iff] at hc
 | _=>simp [er,Option.bind_eq_some_iff] at hc
end
def Hands (P:Program) (loc:List Nat) (N:Nat) (fn:Func) (σ:Env) (w:World) (v:Value):Prop:=
 ∀ a,Fits loc N a σ→(results fn a.tmps).run P w=.ok v w
theorem calls_of_W {P:Program} {loc:List Nat} {f:FuncId} {fn:Func} {code:Code} {c:C} {args:Array Value} {w:World} {R:Ending→World→Prop}
  (hf:P.funcs[f]?=some fn) (hb:fn.body=some code) (he:er loc fn.ntmps code=some c) (hsz:args.size≤fn.ntmps) (σ:Env)
  (hσ:∀ t i,zew loc t=some i→t < fn.ntmps→(args.getD t undef)=σ i)
  (h:W P loc fn.ntmps c (fun e σ w=>(e=.normal∨e=.ret)∧∃ v,Hands P loc fn.ntmps fn σ w v∧R (.returned v) w) σ w):Calls P f args w R:=by
 have hfit:Fits loc fn.ntmps { tmps:=args++Array.replicate (fn.ntmps - args.size) undef,defers:=[] } σ:=by
  refine⟨rfl,by simp; omega,fun t i hl hN=>?_⟩
  rw[← hσ t i hl hN]
  simp only [Array.getD_eq_getD_getElem?,Array.getElem?_append]
  split
  ·rfl
  ·rename_i hlt
   rw[Array.getElem?_eq_none (by omega:args.size≤t)]
   by_cases h2:t - args.size < fn.ntmps - args.size<;>simp [h2]
 refine calls_of_wp hf hb (wp_mono (h code he _ hfit) ?_)
 rintro e a w ⟨σ',hf',hor,v,hv,hR⟩
 rcases hor with rfl | rfl
 ·exact⟨hf'.defers,v,hv a hf',hR⟩
 ·exact⟨hf'.defers,v,hv a hf',hR⟩
def readyP (l:List ROp) (pend:List Nat) (i:Nat):Prop:=i∈pend∧∀ e∈(l.getD i default).after,e ∉ pend
def anyP (P:Program) (l:List ROp) (K:Env→World→Prop):Nat→List Nat→Env→World→Prop
 | 0,_,ρ,w=>K ρ w
 | f+1,pend,ρ,w=>∀ i,readyP l pend i→zcn P (l.getD i default) ρ w fun ρ w=>anyP P l K f (pend.erase i) ρ w
def zhh (r:ROp):List Nat:=
 r.op.operands.toList.flatMap Operand.tmps++(match r.guard with | some (some d,_)=>[d] | _=>[])
def zvq (l:List ROp):Bool:=l.zipIdx.all fun (r,i)=>r.after.all fun e=>Nat.blt e i
theorem zma {l:List ROp} (h:zvq l=true) {i e:Nat} (hi:i < l.length) (he:e∈(l.getD i default).after):e < i:=by
 unfold zvq at h
 rw[List.all_eq_true] at h
 have h1:=h (l[i],i) (List.mem_zipIdx_iff_getElem?.2 (by simp [hi]))
 simp only [List.all_eq_true] at h1
 have h2:=h1 e (by simpa [List.getD,hi] using he)
 simpa using h2
theorem zaac {l:List ROp} (hb:zvq l=true):∀ (pend:List Nat),pend≠[]→(∀ i∈pend,i < l.length)→∃ i,readyP l pend i:=by
 intro pend hne hlt
 obtain⟨m,hm,hmin⟩:∃ m,m∈pend∧∀ x∈pend,m≤x:=by
  cases hmin:pend.min? with
  | none=>simp at hmin; exact absurd hmin hne
  | some m=>
   have:=List.min?_eq_some_iff.1 hmin
   exact⟨m,this.1,fun x hx=>this.2 x hx⟩
 exact⟨m,hm,fun e he hep=>by have:=zma hb (hlt m hm) he; have:=hmin e hep; omega⟩
section
variable {P:Program} {loc:List Nat} {N:Nat} {Q:Exit→Env→World→Prop} {σ:Env} {w:World}
theorem mapM_get {α β:Type} {f:α→Option β}:∀ {l:List α} {r:List β},l.mapM f=some r→∀ i:Nat,r[i]?=(l[i]?).bind f
 | [],r,h,i=>by simp at h; subst h; simp
 | a :: l,r,h,i=>by
  rw[List.mapM_cons] at h
  simp only [Option.bind_eq_bind,Option.bind_eq_some_iff,Option.pure_def,Option.some.injEq] at h
  obtain⟨b,hb,r',hr,rfl⟩:=h
  cases i with
  | zero=>simp [hb]
  | succ i=>simpa using mapM_get hr i
theorem zpr {α β:Type} {f:α→Option β}:∀ {l:List α} {r:List β},l.mapM f=some r→r.length=l.length
 | [],r,h=>by simp at h; subst h; rfl
 | a :: l,r,h=>by
  rw[List.mapM_cons] at h
  simp only [Option.bind_eq_bind,Option.bind_eq_some_iff,Option.pure_def,Option.some.injEq] at h
  obtain⟨b,_,r',hr,rfl⟩:=h
  simp [zpr hr]
theorem zwu {base:Nat} {ops:Array Oper} {rl:List ROp} (hm:ops.toList.mapM (zkx loc N base ops.toList)=some rl) (hb:zvq rl=true) {K:Env→World→Prop}
  (hK:∀ a ρ w,Sim loc N base a ρ→K ρ w→lift loc N Q .normal a w):∀ (f:Nat) (pend:List Nat) (listed:Array Bool) (a:Act) (ρ:Env) (w:World),pend.length=f→pend.Nodup→(∀ i∈pend,i < ops.size)→
   listed.size=ops.size→(∀ i,i < ops.size→(listed.getD i true=false ↔ i∈pend))→Sim loc N base a ρ→anyP P rl K f pend ρ w→wpAny P .any ops (lift loc N Q) f listed a w:=by
 have hgt:=mapM_get hm
 have hlen:rl.length=ops.size:=by simpa using zpr hm
 have hget:∀ i o,ops[i]?=some o→∃ r,zkx loc N base ops.toList o=some r∧rl.getD i default=r:=by
  intro i o hi
  have h1:=hgt i
  have hi':ops.toList[i]?=some o:=by simpa using hi
  rw[hi'] at h1
  simp only [Option.bind_some] at h1
  have hil:i < rl.length:=by rw[hlen]; exact(Array.getElem?_eq_some_iff.1 hi).1
  refine⟨rl[i],?_,by simp [List.getD,hil]⟩
  rw[← h1]; simp [hil]
 have hready:∀ (pend:List Nat) (listed:Array Bool),(∀ i∈pend,i < ops.size)→listed.size=ops.size→(∀ i,i < ops.size→(listed.getD i true=false ↔ i∈pend))→
   ∀ i,i∈Region.ready .any ops listed ↔ readyP rl pend i:=by
  intro pend listed hp hs hl i
  rw[mem_ready]
  constructor
  ·rintro ⟨h0,o,ho,hall⟩
   have hi:i < ops.size:=(Array.getElem?_eq_some_iff.1 ho).1
   refine⟨(hl i hi).1 h0,fun e he hep=>?_⟩
   obtain⟨r,hr,hg⟩:=hget i o ho
   rw[hg,(znp hr).2.2.2.2.2] at he
   obtain⟨ed,hed,rfl⟩:=List.mem_map.1 he
   have hed':=List.mem_filter.1 hed
   have h3:=hall ed (by simpa using hed'.1) hed'.2
   have h4:=(hl ed.on (hp _ hep)).2 hep
   have hlt:ed.on < listed.size:=by rw[hs]; exact hp _ hep
   simp [hlt] at h3 h4
   rw[h3] at h4; cases h4
  ·rintro ⟨hi,hall⟩
   have hil:=hp i hi
   have ho:ops[i]?=some ops[i]:=by simp [hil]
   refine⟨(hl i hil).2 hi,ops[i],ho,fun e he hbe=>?_⟩
   obtain⟨r,hr,hg⟩:=hget i _ ho
   have hmem:e.on∈(rl.getD i default).after:=by
    rw[hg,(znp hr).2.2.2.2.2]
    exact List.mem_map.2 ⟨e,List.mem_filter.2 ⟨by simpa using he,hbe⟩,rfl⟩
   have hback:=zma hb (by rw[hlen]; exact hil) hmem
   have hnp:=hall _ hmem
   have hlt:e.on < ops.size:=by omega
   have h4:¬ listed.getD e.on true=false:=fun h=>hnp ((hl e.on hlt).1 h)
   have hlt':e.on < listed.size:=by rw[hs]; exact hlt
   simp [hlt'] at h4 ⊢
   exact h4
 intro f
 induction f with
 | zero=>
  intro pend listed a ρ w hf _ hp hs hl hsim hany
  have hnil:pend=[]:=List.length_eq_zero_iff.1 hf
  subst hnil
  refine⟨?_,hK _ _ _ hsim hany⟩
  cases hr:Region.ready .any ops listed with
  | nil=>rfl
  | cons x xs=>
   have:=(hready [] listed hp hs hl x).1 (by rw[hr]; simp)
   exact absurd this.1 (by simp)
 | succ f ih=>
  intro pend listed a ρ w hf hnd hp hs hl hsim hany
  refine⟨fun hr=>?_,fun i hi=>?_⟩
  ·have hne:pend≠[]:=by intro h; rw[h] at hf; simp at hf
   obtain⟨i,hi⟩:=zaac hb pend hne (fun i h=>by rw[hlen]; exact hp i h)
   have:=(hready pend listed hp hs hl i).2 hi
   rw[hr] at this; cases this
  ·have hi':=(hready pend listed hp hs hl i).1 hi
   have hil:=hp i hi'.1
   have ho:ops[i]?=some ops[i]:=by simp [hil]
   obtain⟨r,hr,hg⟩:=hget i _ ho
   have hst:=hany i hi'
   rw[hg] at hst
   refine zpz (fun j=>by simp) ho hr hsim (fun a' ρ' w' hsim' hk=>?_) hst
   refine ih (pend.erase i) _ a' ρ' w' (by rw[List.length_erase_of_mem hi'.1]; omega) (hnd.erase i) (fun j hj=>hp j (List.mem_of_mem_erase hj)) (by simpa using hs) (fun j hj=>?_) hsim' hk
   have hjs:j < listed.size:=by rw[hs]; exact hj
   rw[hnd.mem_erase_iff,← hl j hj]
   by_cases hij:i=j
   ·subst hij; simp [hjs]
   ·rw[getD_set_ne true hij]
    exact⟨fun h=>⟨fun e=>hij e.symm,h⟩,fun h=>h.2⟩
theorem W_draw {l:List ROp} (hm:P.follows .mixedOrders=true) (hb:zvq l=true) (h:∀ τ,anyP P l (fun ρ w=>Q .normal (locs ρ) w) l.length (List.range l.length) (zli σ τ) w.drew):W P loc N (.draw l) Q σ w:=by
 intro code hc a ha
 cases code with
 | region id ops d=>
  rw[zcj] at hc
  cases h0:zlh loc N ops.toList with
  | none=>rw[h0] at hc; simp at hc
  | some rl=>
   rw[h0] at hc
   cases d with
   | false=>simp at hc
   | true=>
    simp at hc
    subst hc
    have hlen:rl.length=ops.size:=by simpa using zpr h0
    refine wp_region_any hm ?_
    have h1:=h (fun t=>a.tmps.getD (zwr loc ops.toList+t) undef)
    rw[hlen] at h1
    refine zwu h0 hb (K:=fun ρ w=>Q .normal (locs ρ) w) (fun a ρ w hs hk=>⟨_,hs.fits,hk⟩) ops.size (List.range ops.size) _ a _ _ (by simp) List.nodup_range (fun i hi=>by simpa using hi) (by simp) (fun i hi=>by simp [hi]) ha.sim h1
 | cond x a b=>cases x<;>simp [er,Option.bind_eq_some_iff] at hc
 | _=>simp [er,Option.bind_eq_some_iff] at hc
end
def zmd (P:Program) (r:ROp) (ρ:Env) (w:World) (v:Value):Prop:=
 (zdl ρ r.guard=true∧(exec ρ r).run P w=.ok (.value v) w)∨(zdl ρ r.guard=false∧v=undef)
def zkf (P:Program) (Cw:World→Prop) (l:List ROp) (rd:Nat→Bool) (K:Env→Prop):List Nat→Env→Prop
 | [],ρ=>K ρ
 | i :: is,ρ=>if rd i=true then ∃ v,(∀ w,Cw w→zmd P (l.getD i default) ρ w v)∧zkf P Cw l rd K is (put ρ (l.getD i default).dst v) else zkf P Cw l rd K is ρ
def reach (l:List ROp):Nat→Nat→Nat→Bool
 | 0,j,i=>(l.getD j default).after.contains i
 | f+1,j,i=>(l.getD j default).after.contains i || (l.getD j default).after.any fun k=>reach l f k i
def zps (l:List ROp) (rd:Nat→Bool) (j:Nat):Bool:=(List.range l.length).all fun i=>!rd i || reach l l.length j i
def zmw (P:Program) (Cw:World→Prop) (l:List ROp) (rd:Nat→Bool) (K:Env→World→Prop):List Nat→Env→World→Prop
 | [],ρ,w=>K ρ w
 | j :: E,ρ,w=>zcn P (l.getD j default) ρ w fun ρ w=>(zps l rd j=true∨Cw w)∧zmw P Cw l rd K E ρ w
def isSel:Op→Bool
 | .select ..=>true
 | _=>false
def pairB (l:List ROp) (rd:Nat→Bool) (i j:Nat):Bool:=
 match (l.getD i default).dst with
 | none=>true
 | some d=>
  if Nat.blt d 100 then
   if i == j then !(zhh (l.getD j default)).contains d
   else (match (l.getD j default).dst with | some d'=>!(Nat.beq d' d) | none=>true) &&
    (!(zhh (l.getD j default)).contains d || ((l.getD j default).after.contains i && (!rd j || rd i)))
  else !rd i && (i == j || (l.getD i default).after.contains j)
def stepB (l:List ROp) (rd:Nat→Bool) (i j:Nat):Bool:=
 !(!rd i && !rd j && Nat.blt i j) || (List.range l.length).any fun k=>Nat.ble i k && Nat.blt k j && !rd k && (l.getD j default).after.contains k
def zrm (l:List ROp) (rd:Nat→Bool):Bool:=
 zvq l && l.all (fun r=>!isSel r.op) && (List.range l.length).all fun i=>(List.range l.length).all fun j=>pairB l rd i j && stepB l rd i j
theorem zru {r:ROp} (hs:isSel r.op=false) {ρ ρ':Env} (h:∀ t∈zhh r,ρ t=ρ' t):exec ρ r=exec ρ' r:=by
 unfold exec
 refine execOp_congr _ (fun cs b he=>by simp only at he; rw[he] at hs; cases hs) fun x hx=>?_
 cases x with
 | tmp t=>exact h t (List.mem_append_left _ (List.mem_flatMap.2 ⟨.tmp t,by simpa using hx,by simp [Operand.tmps]⟩))
 | _=>rfl
theorem zmf {r:ROp} {ρ ρ':Env} (h:∀ t∈zhh r,ρ t=ρ' t):zdl ρ r.guard=zdl ρ' r.guard:=by
 cases hg:r.guard with
 | none=>rfl
 | some g=>
  obtain⟨o,b⟩:=g
  cases o with
  | none=>rfl
  | some d=>simp only [zdl]; rw[h d (List.mem_append_right _ (by simp [hg]))]
theorem zjv {P:Program} {r:ROp} (hs:isSel r.op=false) {ρ ρ':Env} (h:∀ t∈zhh r,ρ t=ρ' t) {w:World} {v:Value} (hy:zmd P r ρ w v):zmd P r ρ' w v:=by
 unfold zmd at *
 rw[← zru hs h,← zmf h]
 exact hy
theorem upon_map {P:Program} {d:Option Nat} {ρ ρ':Env} {K K':Env→World→Prop} (h:∀ v w,K (put ρ d v) w→K' (put ρ' d v) w) {r:Result Next} (hr:upon P d ρ K r):upon P d ρ' K' r:=by
 cases r with
 | ok n w=>
  cases n<;>simp only [upon] at hr ⊢<;>first
   | exact h _ _ hr
   | exact hr.mono fun e w' ⟨v,he,hk⟩=>⟨v,he,h _ _ hk⟩
 | halt x w=>simp only [upon] at hr
section
variable {P:Program} {l:List ROp} {rd:Nat→Bool}
theorem zrl (h:zrm l rd=true) {i j:Nat} (hi:i < l.length) (hj:j < l.length):pairB l rd i j=true∧stepB l rd i j=true:=by
 unfold zrm at h
 rw[Bool.and_eq_true,List.all_eq_true] at h
 have h1:=h.2 i (List.mem_range.2 hi)
 rw[List.all_eq_true] at h1
 simpa using h1 j (List.mem_range.2 hj)
theorem zzm (h:zrm l rd=true) {i:Nat} (hi:i < l.length):isSel (l.getD i default).op=false:=by
 unfold zrm at h
 simp only [Bool.and_eq_true,List.all_eq_true] at h
 have:=h.1.2 l[i] (List.getElem_mem hi)
 simpa [List.getD,hi] using this
theorem zok (h:zrm l rd=true):zvq l=true:=by
 unfold zrm at h
 simp only [Bool.and_eq_true] at h
 exact h.1.1
theorem zmj (h:zrm l rd=true) {i j d:Nat} (hi:i < l.length) (hj:j < l.length) (hd:(l.getD i default).dst=some d) (hlt:d < 100) :
  (i=j→d ∉ zhh (l.getD j default))∧(i≠j→(l.getD j default).dst≠some d∧(d∈zhh (l.getD j default)→i∈(l.getD j default).after∧(rd j=true→rd i=true))):=by
 have h1:=(zrl h hi hj).1
 unfold pairB at h1
 rw[hd] at h1
 have hb:Nat.blt d 100=true:=by simpa using hlt
 simp only [hb,if_true] at h1
 refine⟨fun e=>?_,fun e=>?_⟩
 ·have:(i == j)=true:=by simpa using e
  rw[this] at h1; simpa using h1
 ·have:(i == j)=false:=by simpa using e
  rw[this] at h1
  simp only [Bool.false_eq_true,if_false,Bool.and_eq_true] at h1
  refine⟨fun hc=>?_,fun hm=>?_⟩
  ·rw[hc] at h1; simp at h1
  ·have h2:=h1.2
   simp only [Bool.or_eq_true,Bool.not_eq_true',List.contains_eq_mem,decide_eq_true_eq,Bool.and_eq_true,decide_eq_false_iff_not] at h2
   rcases h2 with h2 | h2
   ·exact absurd hm h2
   ·refine⟨h2.1,fun hr=>?_⟩
    rcases h2.2 with h3 | h3
    ·rw[hr] at h3; cases h3
    ·exact h3
theorem zol (h:zrm l rd=true) {i j d:Nat} (hi:i < l.length) (hj:j < l.length) (hd:(l.getD i default).dst=some d) (hge:¬ d < 100) :
  rd i=false∧(i≠j→j∈(l.getD i default).after):=by
 have h1:=(zrl h hi hj).1
 unfold pairB at h1
 rw[hd] at h1
 have hb:Nat.blt d 100=false:=by
  cases hb:Nat.blt d 100 with
  | false=>rfl
  | true=>exact absurd (by simpa using hb) hge
 simp only [hb,Bool.false_eq_true,if_false,Bool.and_eq_true,Bool.not_eq_true',Bool.or_eq_true,beq_iff_eq,List.contains_eq_mem,decide_eq_true_eq] at h1
 exact⟨h1.1,fun e=>h1.2.resolve_left e⟩
theorem zri (hp:zrm l rd=true) {Cw:World→Prop} {K:Env→Prop}:∀ (is:List Nat) (ρ:Env),is.Pairwise (· < ·)→(∀ i∈is,i < l.length)→zkf P Cw l rd K is ρ→
  ∃ ρ1,K ρ1∧(∀ t,(∀ i∈is,rd i=true→(l.getD i default).dst≠some t)→ρ1 t=ρ t) ∧
   ∀ i∈is,rd i=true→∃ v,(∀ d,(l.getD i default).dst=some d→ρ1 d=v)∧∀ w,Cw w→zmd P (l.getD i default) ρ1 w v
 | [],ρ,_,_,h=>⟨ρ,h,fun _ _=>rfl,fun _ hi=>by cases hi⟩
 | i :: is,ρ,hs,hlt,h=>by
  have hs':=List.pairwise_cons.1 hs
  have hi:=hlt i (by simp)
  have hlt':∀ j∈is,j < l.length:=fun j hj=>hlt j (by simp [hj])
  unfold zkf at h
  by_cases hr:rd i=true
  ·rw[if_pos hr] at h
   obtain⟨v,hy,h⟩:=h
   obtain⟨ρ1,hK,hrest,hall⟩:=zri hp is _ hs'.2 hlt' h
   have hown:∀ d,(l.getD i default).dst=some d→d < 100:=fun d hd=>by
    refine Decidable.byContradiction fun hge=>?_
    have:=(zol hp hi hi hd hge).1
    rw[hr] at this; cases this
   refine⟨ρ1,hK,fun t ht=>?_,fun j hj hrj=>?_⟩
   ·rw[hrest t fun j hj hrj=>ht j (by simp [hj]) hrj]
    have:=ht i (by simp) hr
    cases hd:(l.getD i default).dst with
    | none=>rfl
    | some d=>
     simp only [put]
     rw[if_neg (fun e=>this (by rw[hd,e]))]
   ·rcases List.mem_cons.1 hj with rfl | hj'
    ·have hval:∀ d,(l.getD j default).dst=some d→ρ1 d=v:=fun d hd=>by
      rw[hrest d fun k hk hrk hdk=>by
       have hne:j≠k:=by have:=hs'.1 k hk; omega
       exact((zmj hp hi (hlt' k hk) hd (hown d hd)).2 hne).1 hdk]
      rw[hd]; simp [put]
     refine⟨v,hval,fun w hw=>zjv (zzm hp hi) (fun t ht=>?_) (hy w hw)⟩
     have hnd:(l.getD j default).dst≠some t:=fun hd=>(zmj hp hi hi hd (hown t hd)).1 rfl ht
     rw[hrest t fun k hk hrk hdk=>by
      have hk':=hlt' k hk
      have hkd:t < 100:=Decidable.byContradiction fun hge=>by
       have:=(zol hp hk' hk' hdk hge).1
       rw[hrk] at this; cases this
      have hne:k≠j:=by have:=hs'.1 k hk; omega
      have:=((zmj hp hk' hi hdk hkd).2 hne).2 ht
      have:=zma (zok hp) hi this.1
      have:=hs'.1 k hk; omega]
     cases hd:(l.getD j default).dst with
     | none=>rfl
     | some d=>
      simp only [put]
      rw[if_neg (fun e=>hnd (by rw[hd,e]))]
    ·exact hall j hj' hrj
  ·rw[if_neg hr] at h
   obtain⟨ρ1,hK,hrest,hall⟩:=zri hp is _ hs'.2 hlt' h
   refine⟨ρ1,hK,fun t ht=>hrest t fun j hj hrj=>ht j (by simp [hj]) hrj,fun j hj hrj=>?_⟩
   rcases List.mem_cons.1 hj with rfl | hj'
   ·exact absurd hrj hr
   ·exact hall j hj' hrj
def zgh (l:List ROp) (rd:Nat→Bool) (ρ1:Env) (pend:List Nat) (ρ:Env):Env:=fun t=>
 if pend.any (fun i=>rd i && decide ((l.getD i default).dst=some t)) then ρ1 t else ρ t
theorem zfw {ρ1 ρ:Env} {pend:List Nat} {t i:Nat} (hi:i∈pend) (hr:rd i=true) (hd:(l.getD i default).dst=some t):zgh l rd ρ1 pend ρ t=ρ1 t:=by
 unfold zgh
 rw[if_pos]
 rw[List.any_eq_true]
 exact⟨i,hi,by simp only [hr,hd,decide_true,Bool.and_self]⟩
theorem zea {ρ1 ρ:Env} {pend:List Nat} {t:Nat} (h:∀ i∈pend,rd i=true→(l.getD i default).dst≠some t):zgh l rd ρ1 pend ρ t=ρ t:=by
 unfold zgh
 rw[if_neg]
 rw[List.any_eq_true]
 rintro ⟨i,hi,hx⟩
 simp only [Bool.and_eq_true,decide_eq_true_eq] at hx
 exact h i hi hx.1 hx.2
theorem zrj (hb:zvq l=true) {pend:List Nat} (hcl:∀ j,j < l.length→j ∉ pend→∀ e∈(l.getD j default).after,e ∉ pend):∀ (f j i:Nat),j < l.length→(∀ e∈(l.getD j default).after,e ∉ pend)→reach l f j i=true→i ∉ pend
 | 0,j,i,hj,hall,h=>by simp [reach] at h; exact hall i h
 | f+1,j,i,hj,hall,h=>by
  simp only [reach,Bool.or_eq_true,List.contains_eq_mem,decide_eq_true_eq,List.any_eq_true] at h
  rcases h with h | ⟨k,hk,h⟩
  ·exact hall i h
  ·have hkl:k < l.length:=by have:=zma hb hj hk; omega
   exact zrj hb hcl f k i hkl (hcl k hkl (hall k hk)) h
theorem zaat (hp:zrm l rd=true) {Cw:World→Prop} {K:Env→World→Prop} {ρ1:Env}
  (hread:∀ i,i < l.length→rd i=true→∃ v,(∀ d,(l.getD i default).dst=some d→ρ1 d=v)∧∀ w,Cw w→zmd P (l.getD i default) ρ1 w v) :
  ∀ (f:Nat) (pend:List Nat) (ρ:Env) (w:World),pend.length=f→pend.Pairwise (· < ·)→(∀ i∈pend,i < l.length)→
   (∀ j,j < l.length→j ∉ pend→∀ e∈(l.getD j default).after,e ∉ pend)→
   (∀ i j,i < l.length→j < l.length→rd i=false→rd j=false→i < j→i∈pend→j∈pend)→
   (∀ t,(∀ j,j < l.length→j ∉ pend→rd j=false→(l.getD j default).dst≠some t)→zgh l rd ρ1 pend ρ t=ρ1 t)→
   ((∃ i∈pend,rd i=true)→Cw w)→
   zmw P Cw l rd K (pend.filter fun i=>!rd i) (zgh l rd ρ1 pend ρ) w→anyP P l K f pend ρ w:=by
 intro f
 induction f with
 | zero=>
  intro pend ρ w hf _ _ _ _ _ _ hc
  have hnil:pend=[]:=List.length_eq_zero_iff.1 hf
  subst hnil
  have:zgh l rd ρ1 [] ρ=ρ:=funext fun t=>zea (fun i hi=>by cases hi)
  rw[this] at hc
  exact hc
 | succ f ih=>
  intro pend ρ w hf hs hlt hcl hup hinv hCw hc i hready
  obtain⟨hi,hall⟩:=hready
  have hil:=hlt i hi
  have hnd:pend.Nodup:=hs.imp (fun h=>Nat.ne_of_lt h)
  have hlook:∀ t∈zhh (l.getD i default),zgh l rd ρ1 pend ρ t=ρ t:=fun t ht=>zea fun k hk hrk hdk=>by
   have hkl:=hlt k hk
   have hkd:t < 100:=Decidable.byContradiction fun hge=>by
    have:=(zol hp hkl hkl hdk hge).1
    rw[hrk] at this; cases this
   by_cases hki:k=i
   ·subst hki; exact(zmj hp hkl hkl hdk hkd).1 rfl ht
   ·exact hall k (((zmj hp hkl hil hdk hkd).2 hki).2 ht).1 hk
  have hsel:=zzm hp hil
  have hs':(pend.erase i).Pairwise (· < ·):=hs.sublist List.erase_sublist
  have hlt':∀ j∈pend.erase i,j < l.length:=fun j hj=>hlt j (List.mem_of_mem_erase hj)
  have hlen':(pend.erase i).length=f:=by rw[List.length_erase_of_mem hi]; omega
  have hmem:∀ j,j∈pend.erase i ↔ j≠i∧j∈pend:=fun j=>hnd.mem_erase_iff
  have hcl':∀ j,j < l.length→j ∉ pend.erase i→∀ e∈(l.getD j default).after,e ∉ pend.erase i:=fun j hj hjp e he hep=>by
   have hep':=(hmem e).1 hep
   by_cases hji:j=i
   ·subst hji; exact hall e he hep'.2
   ·exact hcl j hj (fun h=>hjp ((hmem j).2 ⟨hji,h⟩)) e he hep'.2
  by_cases hr:rd i=true
  ·
   obtain⟨v,hv,hy⟩:=hread i hil hr
   have hdst:∀ d,(l.getD i default).dst=some d→d < 100:=fun d hd=>Decidable.byContradiction fun hge=>by
    have:=(zol hp hil hil hd hge).1
    rw[hr] at this; cases this
   have heq:∀ t∈zhh (l.getD i default),ρ1 t=ρ t:=fun t ht=>by
    rw[← hlook t ht]
    refine(hinv t fun j hj hjp hrj hdj=>?_).symm
    by_cases hjd:t < 100
    ·by_cases hji:j=i
     ·subst hji; rw[hr] at hrj; cases hrj
     ·have:=(((zmj hp hj hil hdj hjd).2 hji).2 ht).2 hr
      rw[hrj] at this; cases this
    ·by_cases hji:j=i
     ·subst hji; rw[hr] at hrj; cases hrj
     ·exact hcl j hj hjp i ((zol hp hj hil hdj hjd).2 hji) hi
   have hy':=zjv hsel heq (hy w (hCw ⟨i,hi,hr⟩))
   have hfill:zgh l rd ρ1 (pend.erase i) (put ρ (l.getD i default).dst v)=zgh l rd ρ1 pend ρ:=by
    funext t
    by_cases ht:∃ k∈pend.erase i,rd k=true∧(l.getD k default).dst=some t
    ·obtain⟨k,hk,hrk,hdk⟩:=ht
     rw[zfw hk hrk hdk,zfw ((hmem k).1 hk).2 hrk hdk]
    ·rw[zea fun k hk hrk hdk=>ht ⟨k,hk,hrk,hdk⟩]
     cases hd:(l.getD i default).dst with
     | none=>
      simp only [put]
      exact(zea fun k hk hrk hdk=>by
       by_cases hki:k=i
       ·subst hki; rw[hd] at hdk; cases hdk
       ·exact ht ⟨k,(hmem k).2 ⟨hki,hk⟩,hrk,hdk⟩).symm
     | some d=>
      simp only [put]
      by_cases htd:t=d
      ·subst htd
       rw[if_pos rfl,zfw hi hr hd,hv t hd]
      ·rw[if_neg htd]
       exact(zea fun k hk hrk hdk=>by
        by_cases hki:k=i
        ·subst hki; rw[hd] at hdk; exact htd (Option.some.inj hdk).symm
        ·exact ht ⟨k,(hmem k).2 ⟨hki,hk⟩,hrk,hdk⟩).symm
   have hfil:(pend.erase i).filter (fun j=>!rd j)=pend.filter fun j=>!rd j:=by
    rw[hnd.erase_eq_filter,List.filter_filter]
    refine List.filter_congr fun j hj=>?_
    by_cases hji:j=i
    ·subst hji; simp [hr]
    ·simp [hji]
   have hgo:anyP P l K f (pend.erase i) (put ρ (l.getD i default).dst v) w:=by
    refine ih _ _ _ hlen' hs' hlt' hcl' (fun a b ha hb hra hrb hab hap=>?_) (fun t ht=>?_) (fun ⟨k,hk,hrk⟩=>hCw ⟨k,((hmem k).1 hk).2,hrk⟩) (by rw[hfil,hfill]; exact hc)
    ·have:=(hmem a).1 hap
     refine(hmem b).2 ⟨fun e=>?_,hup a b ha hb hra hrb hab this.2⟩
     subst e; rw[hr] at hrb; cases hrb
    ·rw[hfill]
     refine hinv t fun j hj hjp hrj=>ht j hj (fun h=>hjp ((hmem j).1 h).2) hrj
   unfold zcn
   rcases hy' with⟨hw,hrun⟩ | ⟨hw,rfl⟩
   ·rw[if_pos hw,hrun]; exact hgo
   ·rw[if_neg (by rw[hw]; simp)]; exact hgo
  ·
   have hr':rd i=false:=by simpa using hr
   have hhead:∃ E,(pend.filter fun j=>!rd j)=i :: E:=by
    cases hE:pend.filter fun j=>!rd j with
    | nil=>
     have:i∈pend.filter fun j=>!rd j:=List.mem_filter.2 ⟨hi,by simp [hr']⟩
     rw[hE] at this; cases this
    | cons h E=>
     refine⟨E,?_⟩
     have hsf:(h :: E).Pairwise (· < ·):=by rw[← hE]; exact hs.sublist List.filter_sublist
     have him:i∈h :: E:=by rw[← hE]; exact List.mem_filter.2 ⟨hi,by simp [hr']⟩
     have hhm:h∈pend∧(!rd h)=true:=(List.mem_filter (p:=fun j=>!rd j)).1 (by rw[hE]; exact List.mem_cons_self)
     rcases List.mem_cons.1 him with rfl | him'
     ·rfl
     ·exfalso
      have hhi:=(List.pairwise_cons.1 hsf).1 i him'
      have hrh:rd h=false:=by simpa using hhm.2
      have hsb:=(zrl hp (hlt h hhm.1) hil).2
      unfold stepB at hsb
      rw[hrh,hr'] at hsb
      have hbl:Nat.blt h i=true:=by simpa using hhi
      rw[hbl] at hsb
      simp only [Bool.not_false,Bool.and_self,Bool.not_true,Bool.false_or,List.any_eq_true,Bool.and_eq_true,List.contains_eq_mem,decide_eq_true_eq,Bool.not_eq_true'] at hsb
      obtain⟨k,hk,⟨⟨hk1,hk2⟩,hk3⟩,hk4⟩:=hsb
      have hk1':h≤k:=by simpa using hk1
      have hkp:k∈pend:=by
       rcases Nat.lt_or_ge h k with hlt2 | hge2
       ·exact hup h k (hlt h hhm.1) (List.mem_range.1 hk) hrh hk3 hlt2 hhm.1
       ·have:k=h:=by omega
        rw[this]; exact hhm.1
      exact hall k hk4 hkp
   obtain⟨E,hE⟩:=hhead
   rw[hE] at hc
   simp only [zmw] at hc
   have hfil:(pend.erase i).filter (fun j=>!rd j)=E:=by
    have h1:(pend.erase i).filter (fun j=>!rd j)=(pend.filter fun j=>!rd j).filter fun j=>j != i:=by
     rw[hnd.erase_eq_filter,List.filter_filter,List.filter_filter]
     refine List.filter_congr fun j _=>Bool.and_comm _ _
    rw[h1,hE]
    have hsf:(i :: E).Pairwise (· < ·):=by rw[← hE]; exact hs.sublist List.filter_sublist
    rw[List.filter_cons]
    simp only [bne_self_eq_false,Bool.false_eq_true,if_false]
    refine List.filter_eq_self.2 fun j hj=>?_
    have:=(List.pairwise_cons.1 hsf).1 j hj
    simp; omega
   have hown:∀ k∈pend.erase i,rd k=true→∀ d,(l.getD i default).dst=some d→(l.getD k default).dst≠some d:=fun k hk hrk d hd hdk=>by
    have hkl:=hlt' k hk
    have hkd:d < 100:=Decidable.byContradiction fun hge=>by
     have:=(zol hp hkl hkl hdk hge).1
     rw[hrk] at this; cases this
    exact((zmj hp hil hkl hd hkd).2 (fun e=>((hmem k).1 hk).1 e.symm)).1 hdk
   have hfill:∀ v,zgh l rd ρ1 (pend.erase i) (put ρ (l.getD i default).dst v)=put (zgh l rd ρ1 pend ρ) (l.getD i default).dst v:=by
    intro v
    have hsame:∀ t,(l.getD i default).dst≠some t→zgh l rd ρ1 (pend.erase i) (put ρ (l.getD i default).dst v) t=zgh l rd ρ1 pend ρ t:=by
     intro t hti
     by_cases ht:∃ k∈pend.erase i,rd k=true∧(l.getD k default).dst=some t
     ·obtain⟨k,hk,hrk,hdk⟩:=ht
      rw[zfw hk hrk hdk,zfw ((hmem k).1 hk).2 hrk hdk]
     ·rw[zea fun k hk hrk hdk=>ht ⟨k,hk,hrk,hdk⟩]
      rw[zea (pend:=pend) fun k hk hrk hdk=>by
       by_cases hki:k=i
       ·subst hki; rw[hr'] at hrk; cases hrk
       ·exact ht ⟨k,(hmem k).2 ⟨hki,hk⟩,hrk,hdk⟩]
      cases hd:(l.getD i default).dst with
      | none=>rfl
      | some d=>
       simp only [put]
       rw[if_neg (fun e=>hti (by rw[hd,e]))]
    funext t
    by_cases hti:(l.getD i default).dst=some t
    ·rw[zea fun k hk hrk=>hown k hk hrk t hti,hti]
     simp [put]
    ·rw[hsame t hti]
     cases hd:(l.getD i default).dst with
     | none=>rfl
     | some d=>
      simp only [put]
      rw[if_neg (fun e=>hti (by rw[hd,e]))]
   have hgo:∀ v w',((zps l rd i=true∨Cw w')∧zmw P Cw l rd K E (put (zgh l rd ρ1 pend ρ) (l.getD i default).dst v) w')→anyP P l K f (pend.erase i) (put ρ (l.getD i default).dst v) w':=by
    rintro v w' ⟨hlast,hch⟩
    refine ih _ _ _ hlen' hs' hlt' hcl' (fun a b ha hb hra hrb hab hap=>?_) (fun t ht=>?_) (fun ⟨k,hk,hrk⟩=>?_) (by rw[hfil,hfill]; exact hch)
    ·have:=(hmem a).1 hap
     refine(hmem b).2 ⟨fun e=>?_,hup a b ha hb hra hrb hab this.2⟩
     subst e
     have him:a∈pend.filter fun j=>!rd j:=List.mem_filter.2 ⟨this.2,by simp [hra]⟩
     rw[hE] at him
     have hsf:(b :: E).Pairwise (· < ·):=by rw[← hE]; exact hs.sublist List.filter_sublist
     rcases List.mem_cons.1 him with e | he
     ·omega
     ·have:=(List.pairwise_cons.1 hsf).1 a he; omega
    ·rw[hfill]
     have hti:=ht i hil (fun h=>((hmem i).1 h).1 rfl) hr'
     have h1:put (zgh l rd ρ1 pend ρ) (l.getD i default).dst v t=zgh l rd ρ1 pend ρ t:=by
      cases hd:(l.getD i default).dst with
      | none=>rfl
      | some d=>simp only [put]; rw[if_neg (fun e=>hti (by rw[hd,e]))]
     rw[h1]
     exact hinv t fun j hj hjp hrj=>ht j hj (fun h=>hjp ((hmem j).1 h).2) hrj
    ·rcases hlast with hlast | hcw
     ·unfold zps at hlast
      rw[List.all_eq_true] at hlast
      have:=hlast k (List.mem_range.2 (hlt' k hk))
      simp only [hrk,Bool.not_true,Bool.false_or] at this
      exact absurd ((hmem k).1 hk).2 (zrj (zok hp) hcl _ i k hil hall this)
     ·exact hcw
   have hexec:exec (zgh l rd ρ1 pend ρ) (l.getD i default)=exec ρ (l.getD i default):=zru hsel hlook
   have hwant:zdl (zgh l rd ρ1 pend ρ) (l.getD i default).guard=zdl ρ (l.getD i default).guard:=zmf hlook
   unfold zcn at hc ⊢
   rw[hexec,hwant] at hc
   by_cases hw:zdl ρ (l.getD i default).guard=true
   ·rw[if_pos hw] at hc ⊢
    exact upon_map hgo hc
   ·rw[if_neg hw] at hc ⊢
    exact hgo _ _ hc
theorem zws (hp:zrm l rd=true) {Cw:World→Prop} {K:Env→World→Prop} {ρ:Env} {w:World} (hw:Cw w)
  (h:zkf P Cw l rd (fun ρ1=>zmw P Cw l rd K ((List.range l.length).filter fun i=>!rd i) ρ1 w) (List.range l.length) ρ):anyP P l K l.length (List.range l.length) ρ w:=by
 obtain⟨ρ1,hK,hrest,hall⟩:=zri hp _ _ List.pairwise_lt_range (fun i hi=>List.mem_range.1 hi) h
 have hfill:zgh l rd ρ1 (List.range l.length) ρ=ρ1:=by
  funext t
  by_cases ht:∃ k∈List.range l.length,rd k=true∧(l.getD k default).dst=some t
  ·obtain⟨k,hk,hrk,hdk⟩:=ht
   exact zfw hk hrk hdk
  ·rw[zea fun k hk hrk hdk=>ht ⟨k,hk,hrk,hdk⟩]
   exact(hrest t fun k hk hrk hdk=>ht ⟨k,hk,hrk,hdk⟩).symm
 refine zaat hp (ρ1:=ρ1) (fun i hi hr=>?_) l.length _ ρ w (by simp) List.pairwise_lt_range (fun i hi=>List.mem_range.1 hi) (fun j hj hjp=>absurd (List.mem_range.2 hj) hjp)
  (fun a b _ hb _ _ _ _=>List.mem_range.2 hb) (fun t _=>by rw[hfill]) (fun _=>hw) (by rw[hfill]; exact hK)
 exact hall i (List.mem_range.2 hi) hr
end
def zql:Op→Bool
 | .move _ | .assign _ | .pick .. | .load .. | .nilCheck _ | .binOp .. | .unOp .. | .convert .. | .fieldAddr .. | .field .. | .indexAddr .. | .index .. | .slice .. | .extract ..=>true
 | .call c=>match c.callee with
  | .builtin .len=>true
  | _=>false
 | _=>false
theorem zrv {P:Program} {w w':World} {s:Sem Value} {n:Next} (h:(do pure (Next.value (← s)):Sem Next).run P w=.ok n w'):∃ v,n=.value v:=by
 cases hs:s.run P w with
 | ok v w1=>simp [hs] at h; exact⟨v,h.1.symm⟩
 | halt x w1=>simp [hs] at h
theorem zaao {P:Program} {α:Type} {s:Sem α} {f:α→Sem Next} (hf:∀ a w n w',(f a).run P w=.ok n w'→∃ v,n=.value v) {w w':World} {n:Next} (h:(s >>= f).run P w=.ok n w'):∃ v,n=.value v:=by
 rw[Sem.run_bind] at h
 cases hs:s.run P w with
 | ok a w1=>rw[hs] at h; exact hf a w1 n w' h
 | halt x w1=>rw[hs] at h; simp at h
theorem zzk {P:Program} {w w':World} {ρ:Env} {o:ROp} {n:Next} (hp:zql o.op=true) (h:(exec ρ o).run P w=.ok n w'):∃ v,n=.value v:=by
 obtain⟨d,op,ty,g,af⟩:=o
 cases op with
 | move x=>simp [exec,execOp] at h; exact⟨_,h.1.symm⟩
 | assign x=>simp [exec,execOp] at h; exact⟨_,h.1.symm⟩
 | pick c a b=>
  have e:exec ρ ⟨d,.pick c a b,ty,g,af⟩=(do pure (Next.value (← (do pure (if ← asBool (ev ρ c) then ev ρ a else ev ρ b):Sem Value))):Sem Next):=by simp [exec,execOp]
  rw[e] at h; exact zrv h
 | nilCheck x=>
  simp only [exec,execOp] at h
  split at h
  ·simp [runtimePanic,program,bind,Sem.bind,Sem.run,goPanic] at h
  ·simp [runtimePanic,program,bind,Sem.bind,Sem.run,goPanic] at h
  ·simp [runtimePanic,program,bind,Sem.bind,Sem.run,goPanic] at h
  ·split at h
   ·simp [runtimePanic,program,bind,Sem.bind,Sem.run,goPanic] at h
   ·refine zaao (fun p w n w' h=>?_) h
    refine zaao (fun b w n w' h=>?_) h
    split at h
    ·simp [unsupported,bind,Sem.bind] at h
    ·simp at h; exact⟨_,h.1.symm⟩
   ·simp at h; exact⟨_,h.1.symm⟩
  ·simp at h; exact⟨_,h.1.symm⟩
 | call c=>
  obtain⟨ce,args,ts⟩:=c
  cases ce with
  | builtin b=>
   cases b<;>simp [zql] at hp
   have e:exec ρ ⟨d,.call ⟨.builtin .len,args,ts⟩,ty,g,af⟩=(do pure (Next.value (← Builtin.len_ ts ty (args.map (ev ρ)))):Sem Next):=by simp [exec,execOp,resolve,invoke,builtin]
   rw[e] at h; exact zrv h
  | _=>simp [zql] at hp
 | _=>first
  | (simp [zql] at hp; done)
  | exact zrv h
theorem zwb {P:Program} {o:ROp} (hp:zql o.op=true) {ρ:Env} {w:World} {K:Env→World→Prop} (h:zcn P o ρ w K) :
  ∃ v w',((zdl ρ o.guard=true∧(exec ρ o).run P w=.ok (.value v) w')∨(zdl ρ o.guard=false∧v=undef∧w'=w))∧K (put ρ o.dst v) w':=by
 unfold zcn at h
 by_cases hw:zdl ρ o.guard=true
 ·rw[if_pos hw] at h
  cases hr:(exec ρ o).run P w with
  | ok n w'=>
   obtain⟨v,rfl⟩:=zzk hp hr
   rw[hr] at h
   exact⟨v,w',.inl ⟨hw,rfl⟩,h⟩
  | halt x w'=>rw[hr] at h; simp [upon] at h
 ·rw[if_neg hw] at h
  exact⟨undef,w,.inr ⟨by simpa using hw,rfl,rfl⟩,h⟩
def zjt (P:Program) (w:World) (K:Env→Prop):List ROp→Env→Prop
 | [],ρ=>K ρ
 | o :: r,ρ=>zcn P o ρ w fun ρ' w'=>w'=w∧zjt P w K r ρ'
section
variable {P:Program} {w:World}
theorem znh {l:List ROp} {rd:Nat→Bool}:∀ (r:List ROp) (k:Nat) (ρ:Env) (K K':Env→Prop),(∀ i o,r[i]?=some o→l.getD (k+i) default=o∧rd (k+i)=true∧zql o.op=true)→(∀ ρ,K ρ→K' ρ)→
  zjt P w K r ρ→∀ rest,(∀ ρ,K' ρ→zkf P (·=w) l rd K' rest ρ)→zkf P (·=w) l rd K' (List.range' k r.length++rest) ρ
 | [],k,ρ,K,K',_,hK,h,rest,hrest=>hrest ρ (hK _ h)
 | o :: r,k,ρ,K,K',hl,hK,h,rest,hrest=>by
  obtain⟨h1,h2,h3⟩:=hl 0 o rfl
  simp only [Nat.add_zero] at h1 h2
  rw[List.length_cons,List.range'_succ,List.cons_append]
  unfold zkf
  rw[if_pos h2,h1]
  obtain⟨v,w',hor,hw',hs⟩:=zwb h3 h
  refine⟨v,fun w1 e=>?_,znh r (k+1) _ K K' (fun i o hi=>by have:=hl (i+1) o (by simpa using hi); rwa [show k+(i+1)=k+1+i by omega] at this) hK hs rest hrest⟩
  subst e
  rcases hor with⟨ha,hb⟩ | ⟨ha,hb,_⟩
  ·left; refine⟨ha,?_⟩; rw[hb,hw']
  ·right; exact⟨ha,hb⟩
theorem ztx {l:List ROp} {rd:Nat→Bool} {Cw:World→Prop} {K:Env→Prop}:∀ (is:List Nat) (ρ:Env),(∀ i∈is,rd i=false)→K ρ→zkf P Cw l rd K is ρ
 | [],_,_,h=>h
 | i :: is,ρ,hr,h=>by
  unfold zkf
  rw[if_neg (by rw[hr i (by simp)]; simp)]
  exact ztx is ρ (fun j hj=>hr j (by simp [hj])) h
theorem zqq {l:List ROp} {rd:Nat→Bool} {Cw:World→Prop} {K:Env→World→Prop} (hlast:∀ i,zps l rd i=true∨l.length≤i∨rd i=true):∀ (r:List ROp) (k:Nat) (ρ:Env) (w:World),
  (∀ i o,r[i]?=some o→l.getD (k+i) default=o∧rd (k+i)=false∧k+i < l.length)→runR P r ρ w K→zmw P Cw l rd K (List.range' k r.length) ρ w
 | [],_,_,_,_,h=>h
 | o :: r,k,ρ,w,hl,h=>by
  obtain⟨h1,h2,h3⟩:=hl 0 o rfl
  simp only [Nat.add_zero] at h1 h2 h3
  rw[List.length_cons,List.range'_succ]
  unfold zmw
  rw[h1]
  refine zhi (fun ρ' w' h'=>⟨.inl ?_,zqq hlast r (k+1) ρ' w' (fun i o hi=>by have:=hl (i+1) o (by simpa using hi); rwa [show k+(i+1)=k+1+i by omega] at this) h'⟩) h
  rcases hlast k with h4 | h4 | h4
  ·exact h4
  ·omega
  ·rw[h2] at h4; cases h4
end
def tailB (rs cs:List ROp):Bool:=
 zrm (rs++cs) (fun i=>Nat.blt i rs.length) && rs.all (fun o=>zql o.op) && (List.range cs.length).all fun j=>zps (rs++cs) (fun i=>Nat.blt i rs.length) (rs.length+j)
theorem zvd {P:Program} {loc:List Nat} {N:Nat} {Q:Exit→Env→World→Prop} {σ:Env} {w:World} {l:List ROp} (hm:P.follows .mixedOrders=true) (rs cs:List ROp) (hl:l=rs++cs) (hB:tailB rs cs=true)
  (h:∀ τ,zjt P w.drew (fun ρ=>runR P cs ρ w.drew fun ρ w=>Q .normal (locs ρ) w) rs (zli σ τ)):W P loc N (.draw l) Q σ w:=by
 subst hl
 unfold tailB at hB
 rw[Bool.and_eq_true,Bool.and_eq_true,List.all_eq_true,List.all_eq_true] at hB
 obtain⟨⟨hp,hpure⟩,hlast⟩:=hB
 refine W_draw hm (zok hp) fun τ=>zws hp (Cw:=(·=w.drew)) rfl ?_
 have hlt:∀ i,Nat.blt i rs.length=true ↔ i < rs.length:=fun i=>by simp
 have hrange:List.range (rs++cs).length=List.range' 0 rs.length++List.range' rs.length cs.length:=by
  have:=List.range'_append (s:=0) (m:=rs.length) (n:=cs.length) (step:=1)
  rw[List.range_eq_range',List.length_append,← this]
  simp
 have hfilter:((List.range (rs++cs).length).filter fun i=>!Nat.blt i rs.length)=List.range' rs.length cs.length:=by
  rw[hrange,List.filter_append]
  have h1:(List.range' 0 rs.length).filter (fun i=>!Nat.blt i rs.length)=[]:=by
   rw[List.filter_eq_nil_iff]
   intro i hi
   rw[List.mem_range'_1] at hi
   have:=(hlt i).2 (by omega)
   simp [this]
  have h2:(List.range' rs.length cs.length).filter (fun i=>!Nat.blt i rs.length)=List.range' rs.length cs.length:=by
   rw[List.filter_eq_self]
   intro i hi
   rw[List.mem_range'_1] at hi
   cases hb:Nat.blt i rs.length with
   | false=>rfl
   | true=>have:=(hlt i).1 hb; omega
  rw[h1,h2,List.nil_append]
 rw[hfilter]
 have hK:∀ ρ,runR P cs ρ w.drew (fun ρ w=>Q .normal (locs ρ) w)→zmw P (·=w.drew) (rs++cs) (fun i=>Nat.blt i rs.length) (fun ρ w=>Q .normal (locs ρ) w) (List.range' rs.length cs.length) ρ w.drew:=by
  intro ρ hr
  refine zqq (fun i=>?_) cs rs.length ρ _ (fun i o hi=>?_) hr
  ·by_cases h1:i < rs.length
   ·exact .inr (.inr ((hlt i).2 h1))
   ·by_cases h2:(rs++cs).length≤i
    ·exact .inr (.inl h2)
    ·left
     have:=hlast (i - rs.length) (List.mem_range.2 (by simp at h2; omega))
     rwa [show rs.length+(i - rs.length)=i by omega] at this
  ·have hi':=(List.getElem?_eq_some_iff.1 hi).1
   refine⟨by simp [List.getD,List.getElem?_append_right,hi],?_,by simp; omega⟩
   cases hb:Nat.blt (rs.length+i) rs.length with
   | false=>rfl
   | true=>have:=(hlt _).1 hb; omega
 rw[hrange]
 refine znh (l:=rs++cs) (rd:=fun i=>Nat.blt i rs.length) rs 0 _ _ _ (fun i o hi=>?_) hK (h τ) _ (fun ρ hr=>ztx _ _ (fun i hi=>?_) hr)
 ·have hi':=(List.getElem?_eq_some_iff.1 hi).1
  refine⟨by simp [List.getD,List.getElem?_append_left hi',hi],(hlt _).2 (by omega),hpure o (List.mem_of_getElem? hi)⟩
 ·rw[List.mem_range'_1] at hi
  cases hb:Nat.blt i rs.length with
  | false=>rfl
  | true=>have:=(hlt _).1 hb; omega
theorem zyh {P:Program} {loc:List Nat} {N:Nat} {Q:Exit→Env→World→Prop} {σ:Env} {w:World} {l:List ROp} (hm:P.follows .mixedOrders=true) (k:Nat) (hB:tailB (l.take k) (l.drop k)=true)
  (h:∀ τ,zjt P w.drew (fun ρ=>runR P (l.drop k) ρ w.drew fun ρ w=>Q .normal (locs ρ) w) (l.take k) (zli σ τ)):W P loc N (.draw l) Q σ w:=
 zvd hm _ _ (List.take_append_drop k l).symm hB h
def upd (σ:Env) (i:Nat) (v:Value):Env:=fun j=>if j=i then v else σ j
@[simp] theorem upd_same (σ:Env) (i:Nat) (v:Value):upd σ i v i=v:=by simp [upd]
theorem zg {σ:Env} {i j:Nat} {v:Value} (h:j≠i):upd σ i v j=σ j:=by simp [upd,h]
@[simp] theorem locs_envOf (σ τ:Env):locs (zli σ τ)=σ:=by funext i; simp [locs]
@[simp] theorem envOf_var (σ τ:Env) (i:Nat):zli σ τ (i+100)=σ i:=envOf_loc σ τ i
theorem zk (ρ:Env) (i:Nat) (v:Value):locs (put ρ (some (i+100)) v)=upd (locs ρ) i v:=by
 funext j
 simp only [locs,put,upd]
 by_cases h:j=i
 ·subst h; simp
 ·rw[if_neg (by omega),if_neg h]
theorem zhl {ρ:Env} {k:Nat} {v:Value} (h:k < 100):locs (put ρ (some k) v)=locs ρ:=by
 funext j
 simp only [locs,put]
 rw[if_neg (by omega)]
def sel (b:Bool) (x y:Value):Value:=match b with
 | true=>x
 | false=>y
@[congr] theorem sel_congr {b b':Bool} {x y:Value} (h:b=b'):sel b x y=sel b' x y:=by rw[h]
@[simp] theorem sel_true (x y:Value):sel true x y=x:=rfl
@[simp] theorem sel_false (x y:Value):sel false x y=y:=rfl
theorem zin (ρ:Env) (d:Nat) (v:Value) (t:Nat):put ρ (some d) v t=sel (t == d) v (ρ t):=by
 show (if t=d then v else ρ t)=_
 by_cases h:t=d
 ·simp [h]
 ·have:(t == d)=false:=by simpa using h
  rw[if_neg h,this]; rfl
theorem zb {K:Env→World→Prop} {ρ:Env} {w:World} (h:∀ σ':Env,(∀ i,σ' i=ρ (i+100))→K σ' w):K (locs ρ) w:=h _ fun _=>rfl
theorem put_none (ρ:Env) (v:Value):put ρ none v=ρ:=rfl
@[simp] theorem ev_tmp (ρ:Env) (t:Nat):ev ρ (.tmp t)=ρ t:=rfl
@[simp] theorem ev_const (ρ:Env) (v:Value):ev ρ (.const v)=v:=rfl
@[simp] theorem ev_global (ρ:Env) (g:Nat):ev ρ (.global g)=.pointer (some ⟨g,0,none⟩):=rfl
@[simp] theorem ev_func (ρ:Env) (f:Nat):ev ρ (.func f)=.func (.func f) #[] #[]:=rfl
def zgz (K:Value→World→Prop):Result Value→Prop
 | .ok v w=>K v w
 | .halt _ _=>False
def zabh (K:World→Prop):Result Unit→Prop
 | .ok _ w=>K w
 | .halt _ _=>False
@[simp] theorem stepV_ok (K:Value→World→Prop) (v:Value) (w:World):zgz K (.ok v w)=K v w:=rfl
@[simp] theorem stepU_ok (K:World→Prop) (v:Unit) (w:World):zabh K (.ok v w)=K w:=rfl
@[congr] theorem stepV_congr {K:Value→World→Prop} {r r':Result Value} (h:r=r'):zgz K r=zgz K r':=by rw[h]
@[congr] theorem stepU_congr {K:World→Prop} {r r':Result Unit} (h:r=r'):zabh K r=zabh K r':=by rw[h]
section
variable {P:Program} {ρ:Env} {w:World} {K:Env→World→Prop} {d:Option Nat} {ty:TypeId} {af:List Nat}
theorem zbg {o:ROp} (hg:o.guard=none):zcn P o ρ w K=upon P o.dst ρ K ((exec ρ o).run P w):=by
 unfold zcn; rw[hg]; simp [zdl]
theorem zap {op:Op} {g:Nat} {b:Bool} (h:ρ g=.bool b):zcn P ⟨d,op,ty,some (some g,b),af⟩ ρ w K=zcn P ⟨d,op,ty,none,af⟩ ρ w K:=by
 unfold zcn; simp only [zdl,h,beq_self_eq_true,if_true]; rfl
theorem zbi {op:Op} {g:Nat} {b:Bool} (h:ρ g=.bool (!b)):zcn P ⟨d,op,ty,some (some g,b),af⟩ ρ w K=K (put ρ d undef) w:=by
 unfold zcn; simp only [zdl,h]; cases b<;>simp
theorem zbx {s:Sem Value}:upon P d ρ K ((do pure (Next.value (← s)):Sem Next).run P w)=zgz (fun v w=>K (put ρ d v) w) (s.run P w):=by
 cases h:s.run P w with
 | ok v w'=>simp [h,upon]
 | halt x w'=>simp [h,upon,zgz]
theorem zym {s:Sem Unit}:upon P d ρ K ((do s; pure Next.skip:Sem Next).run P w)=zabh (fun w=>K (put ρ d undef) w) (s.run P w):=by
 cases h:s.run P w with
 | ok v w'=>simp [h,upon]
 | halt x w'=>simp [h,upon,zabh]
theorem zln {x:Operand}:zcn P ⟨d,.move x,ty,none,af⟩ ρ w K=K (put ρ d (ev ρ x)) w:=by rw[zbg rfl]; rfl
theorem ztn {x:Operand}:zcn P ⟨d,.assign x,ty,none,af⟩ ρ w K=K (put ρ d (ev ρ x)) w:=by rw[zbg rfl]; rfl
theorem zca {c a b:Operand}:zcn P ⟨d,.pick c a b,ty,none,af⟩ ρ w K=zgz (fun v w=>K (put ρ d v) w) ((do pure (if ← asBool (ev ρ c) then ev ρ a else ev ρ b):Sem Value).run P w):=by
 rw[zbg rfl,← zbx]
 simp [exec,execOp]
theorem zrd {e:TypeId}:zcn P ⟨d,.alloc e,ty,none,af⟩ ρ w K=zgz (fun v w=>K (put ρ d v) w) ((Instr.alloc e true (.tuple #[])).run P w):=by rw[zbg rfl,← zbx]; rfl
theorem step_box {e:TypeId} {x:Operand}:zcn P ⟨d,.box e x,ty,none,af⟩ ρ w K=zgz (fun v w=>K (put ρ d v) w) ((Instr.box e (ev ρ x)).run P w):=by rw[zbg rfl,← zbx]; rfl
theorem zlp {e:TypeId} {ps:Array (Nat × Operand)}:zcn P ⟨d,.build e ps,ty,none,af⟩ ρ w K=zgz (fun v w=>K (put ρ d v) w) ((Instr.build e (ps.map fun p=>(p.1,ev ρ p.2))).run P w):=by rw[zbg rfl,← zbx]; rfl
theorem zkd {e:TypeId} {n:Nat} {ps:Array (Nat × Operand)}:zcn P ⟨d,.buildSlice e n ps,ty,none,af⟩ ρ w K=zgz (fun v w=>K (put ρ d v) w) ((Instr.buildSlice e n (ps.map fun p=>(p.1,ev ρ p.2))).run P w):=by rw[zbg rfl,← zbx]; rfl
theorem zqd {t:TypeId} {x:Operand}:zcn P ⟨d,.load t x,ty,none,af⟩ ρ w K=zgz (fun v w=>K (put ρ d v) w) ((Instr.loadAt t (ev ρ x)).run P w):=by rw[zbg rfl,← zbx]; rfl
theorem zrc {t:TypeId} {x y:Operand}:zcn P ⟨none,.store t x y,ty,none,af⟩ ρ w K=zabh (fun w=>K ρ w) ((Instr.storeAt t (ev ρ x) (ev ρ y)).run P w):=by rw[zbg rfl]; exact zym
theorem zw {x:Operand} {a:Addr} (h:ev ρ x=.pointer (some a)):zcn P ⟨d,.nilCheck x,ty,none,af⟩ ρ w K=K (put ρ d (.pointer (some a))) w:=by
 rw[zbg rfl]; simp only [exec,execOp,h]; rfl
theorem zwa {o:BinOp} {t u:TypeId} {x y:Operand}:zcn P ⟨d,.binOp o t x y u,ty,none,af⟩ ρ w K=zgz (fun v w=>K (put ρ d v) w) ((do eqGuard o t x y (ev ρ x) (ev ρ y); binOp o t (ev ρ x) (ev ρ y):Sem Value).run P w):=by rw[zbg rfl,← zbx]; rfl
theorem zyx {o:UnOp} {t:TypeId} {x:Operand}:zcn P ⟨d,.unOp o t x,ty,none,af⟩ ρ w K=zgz (fun v w=>K (put ρ d v) w) ((Op.unary o (ev ρ x)).run P w):=by rw[zbg rfl,← zbx]; rfl
theorem zsb {s t:TypeId} {x:Operand}:zcn P ⟨d,.convert s t x,ty,none,af⟩ ρ w K=zgz (fun v w=>K (put ρ d v) w) ((convert s t (ev ρ x)).run P w):=by rw[zbg rfl,← zbx]; rfl
theorem zhs {t:TypeId} {x:Operand}:zcn P ⟨d,.makeInterface t x,ty,none,af⟩ ρ w K=zgz (fun v w=>K (put ρ d v) w) ((Instr.makeInterface t (ev ρ x)).run P w):=by rw[zbg rfl,← zbx]; rfl
theorem zmg {fn:Fn} {a b:Array Operand}:zcn P ⟨d,.makeFunc fn a b,ty,none,af⟩ ρ w K=zgz (fun v w=>K (put ρ d v) w) ((Instr.makeFunc fn (a.map (ev ρ)) (b.map (ev ρ))).run P w):=by rw[zbg rfl,← zbx]; rfl
theorem zyz {t:TypeId} {r:Option Operand}:zcn P ⟨d,.makeMap t r,ty,none,af⟩ ρ w K=zgz (fun v w=>K (put ρ d v) w) ((Instr.makeMap t (r.map (ev ρ))).run P w):=by rw[zbg rfl,← zbx]; rfl
theorem zpb {t:TypeId} {l c:Operand}:zcn P ⟨d,.makeSlice t l c,ty,none,af⟩ ρ w K=zgz (fun v w=>K (put ρ d v) w) ((Instr.makeSlice t (ev ρ l) (ev ρ c)).run P w):=by rw[zbg rfl,← zbx]; rfl
theorem zvv {t:TypeId} {x:Operand} {l h m:Option Operand}:zcn P ⟨d,.slice t x l h m,ty,none,af⟩ ρ w K=zgz (fun v w=>K (put ρ d v) w) ((Instr.sliceAt t (ev ρ x) (l.map (ev ρ)) (h.map (ev ρ)) (m.map (ev ρ))).run P w):=by rw[zbg rfl,← zbx]; rfl
theorem zpd {t:TypeId} {x:Operand} {i:Nat}:zcn P ⟨d,.fieldAddr t x i,ty,none,af⟩ ρ w K=zgz (fun v w=>K (put ρ d v) w) ((Instr.fieldAt t (ev ρ x) i).run P w):=by rw[zbg rfl,← zbx]; rfl
theorem zvx {t:TypeId} {x:Operand} {i:Nat}:zcn P ⟨d,.field t x i,ty,none,af⟩ ρ w K=zgz (fun v w=>K (put ρ d v) w) ((Instr.field t (ev ρ x) i).run P w):=by rw[zbg rfl,← zbx]; rfl
theorem zpc {t:TypeId} {x i:Operand}:zcn P ⟨d,.indexAddr t x i,ty,none,af⟩ ρ w K=zgz (fun v w=>K (put ρ d v) w) ((Instr.indexAt t (ev ρ x) (ev ρ i)).run P w):=by rw[zbg rfl,← zbx]; rfl
theorem zvw {t:TypeId} {x i:Operand}:zcn P ⟨d,.index t x i,ty,none,af⟩ ρ w K=zgz (fun v w=>K (put ρ d v) w) ((Instr.index t (ev ρ x) (ev ρ i)).run P w):=by rw[zbg rfl,← zbx]; rfl
theorem zabf {t:TypeId} {x i:Operand} {ok:Bool}:zcn P ⟨d,.lookup t x i ok,ty,none,af⟩ ρ w K=zgz (fun v w=>K (put ρ d v) w) ((Instr.lookup t (ev ρ x) (ev ρ i) ok).run P w):=by rw[zbg rfl,← zbx]; rfl
theorem zvi {t:TypeId} {m k x:Operand}:zcn P ⟨none,.mapUpdate t m k x,ty,none,af⟩ ρ w K=zabh (fun w=>K ρ w) ((Instr.mapUpdate t (ev ρ m) (ev ρ k) (ev ρ x)).run P w):=by rw[zbg rfl]; exact zym
theorem zsa {x:Operand} {i:Nat}:zcn P ⟨d,.extract x i,ty,none,af⟩ ρ w K=zgz (fun v w=>K (put ρ d v) w) ((Instr.extract (ev ρ x) i).run P w):=by rw[zbg rfl,← zbx]; rfl
theorem step_range {t:TypeId} {x:Operand}:zcn P ⟨d,.range t x,ty,none,af⟩ ρ w K=zgz (fun v w=>K (put ρ d v) w) ((Instr.range t (ev ρ x)).run P w):=by rw[zbg rfl,← zbx]; rfl
theorem zyy {x:Operand} {b:Bool}:zcn P ⟨d,.next x b,ty,none,af⟩ ρ w K=zgz (fun v w=>K (put ρ d v) w) ((Instr.next (ev ρ x) b ty).run P w):=by rw[zbg rfl,← zbx]; rfl
theorem step_entry {x:Operand}:zcn P ⟨d,.entry x,ty,none,af⟩ ρ w K=zgz (fun v w=>K (put ρ d v) w) ((Instr.entry (ev ρ x)).run P w):=by rw[zbg rfl,← zbx]; rfl
theorem step_len {x:Operand} {ts:Array TypeId}:zcn P ⟨d,.call ⟨.builtin .len,#[x],ts⟩,ty,none,af⟩ ρ w K=zgz (fun v w=>K (put ρ d v) w) ((Builtin.len_ ts ty #[ev ρ x]).run P w):=by
 rw[zbg rfl,← zbx]
 simp [exec,execOp,resolve,invoke,builtin]
theorem zto {x y:Operand} {ts:Array TypeId}:zcn P ⟨d,.call ⟨.builtin .append,#[x,y],ts⟩,ty,none,af⟩ ρ w K=zgz (fun v w=>K (put ρ d v) w) ((Builtin.append_ ts ty #[ev ρ x,ev ρ y]).run P w):=by
 rw[zbg rfl,← zbx]
 simp [exec,execOp,resolve,invoke,builtin]
theorem zzb {x y:Operand} {ts:Array TypeId}:zcn P ⟨d,.call ⟨.builtin .copy,#[x,y],ts⟩,ty,none,af⟩ ρ w K=zgz (fun v w=>K (put ρ d v) w) ((Builtin.copy_ ts ty #[ev ρ x,ev ρ y]).run P w):=by
 rw[zbg rfl,← zbx]
 simp [exec,execOp,resolve,invoke,builtin]
def zcp (P:Program) (f:FuncId):Prop:=∃ fn,P.funcs[f]?=some fn∧fn.body.isSome=true∧(fn.name == "runtime.NumGoroutine")=false
theorem znf {f:FuncId} {args:Array Value} (h:zcp P f):(callFunc f args).run P w=.ok (.enter f args) w:=by
 obtain⟨fn,hf,hb,hn⟩:=h
 have hb':fn.body.isNone=false:=by cases hx:fn.body<;>simp_all
 have e:callFunc f args=.program fun p=>(match p.funcs[f]? with
  | none=>stuck "call: no such function"
  | some fn=>
   if fn.name == "runtime.NumGoroutine" then Sem.pure .numGoroutine
   else if fn.body.isNone then
    (do
    mark (.extern f)
    if let some e:=Extern.findNext fn then return ← e args
    match Extern.find fn with
    | some e=>pure (.value (← e args))
    | none=>
     if fn.name.endsWith ".init" && !fn.name.startsWith "(" && !fn.name.startsWith "gosem." then pure (.value (.tuple #[]))
     else unsupported (.extern fn.name))
   else Sem.pure (.enter f args)):=rfl
 rw[e]
 simp only [Sem.run,hf,hn,hb',Bool.false_eq_true,if_false]
theorem step_call {f:FuncId} {xs:Array Operand} {ts:Array TypeId} (hf:zcp P f) :
  zcn P ⟨d,.call ⟨.value (.func f),xs,ts⟩,ty,none,af⟩ ρ w K=Calls P f (xs.map (ev ρ)) w fun e w'=>∃ v,e=.returned v∧K (put ρ d v) w':=by
 rw[zbg rfl]
 have e:(exec ρ ⟨d,.call ⟨.value (.func f),xs,ts⟩,ty,none,af⟩).run P w=.ok (.enter f (xs.map (ev ρ))) w:=by
  have h1:=znf (P:=P) (w:=w) (args:=xs.map (ev ρ)) hf
  simp only [exec,execOp,resolve,ev_func,Deferred.ofValue,Sem.run_bind,invoke]
  simpa [invoke] using h1
 rw[e]; rfl
theorem zvy {x:Operand} {f:FuncId} {cap:Array Value} {xs:Array Operand} {ts:Array TypeId} (hx:ev ρ x=.func (.func f) #[] cap) (hf:zcp P f) :
  zcn P ⟨d,.call ⟨.value x,xs,ts⟩,ty,none,af⟩ ρ w K=Calls P f (xs.map (ev ρ)++cap) w fun e w'=>∃ v,e=.returned v∧K (put ρ d v) w':=by
 rw[zbg rfl]
 have e:(exec ρ ⟨d,.call ⟨.value x,xs,ts⟩,ty,none,af⟩).run P w=.ok (.enter f (xs.map (ev ρ)++cap)) w:=by
  have h1:=znf (P:=P) (w:=w) (args:=xs.map (ev ρ)++cap) hf
  simp only [exec,execOp,resolve,hx,Deferred.ofValue,Sem.run_bind,invoke]
  simpa [invoke] using h1
 rw[e]; rfl
end
structure TI (P:Program) (t:TypeId) (d:TypeDesc) (sz by':Nat) (z:Value):Prop where
 und:P.underlying t=some d
 info:∃ i,P.info? t=some i∧i.size=sz∧i.bytes=by'∧i.zero=some z
def zqn:TypeDesc→Bool
 | .struct _ | .array ..=>true
 | _=>false
section
variable {P:Program} {t:TypeId} {d:TypeDesc} {sz by':Nat} {z:Value} {w:World}
theorem TI.run_und (h:TI P t d sz by' z):(underlying t).run P w=.ok d w:=by
 simp [underlying,program,Sem.run,bind,Sem.bind,h.und,pure]
theorem TI.run_size (h:TI P t d sz by' z):(sizeOf t).run P w=.ok sz w:=by
 obtain⟨i,hi,h1,_,_⟩:=h.info
 simp [sizeOf,typeInfo,program,Sem.run,bind,Sem.bind,hi,pure,h1]
theorem TI.run_zero (h:TI P t d sz by' z):(zeroValue t).run P w=.ok z w:=by
 obtain⟨i,hi,_,_,h3⟩:=h.info
 simp [zeroValue,typeInfo,program,Sem.run,bind,Sem.bind,hi,pure,h3]
theorem TI.run_isAgg (h:TI P t d sz by' z):(isAgg t).run P w=.ok (zqn d) w:=by
 unfold isAgg
 rw[Sem.run_bind,h.run_und]
 cases d<;>rfl
end
structure Mod (w w':World) (M:Nat→Nat→Prop):Prop where
 os:w'.os=w.os
 tape:w'.tape=w.tape
 output:w'.output=w.output
 size:w.heap.size≤w'.heap.size
 block:∀ k,k < w.heap.size→(∀ o,¬ M k o)→w'.heap[k]?=w.heap[k]?
 cell:∀ k o,k < w.heap.size→¬ M k o→w'.cell? ⟨k,o,none⟩=w.cell? ⟨k,o,none⟩
 isCell:∀ k o,k < w.heap.size→(w'.cell? ⟨k,o,none⟩).isSome=(w.cell? ⟨k,o,none⟩).isSome
 frozen:∀ k o,k < w.heap.size→w'.frozen? ⟨k,o,none⟩=w.frozen? ⟨k,o,none⟩
 shape:∀ k,k < w.heap.size→w'.shape? k=w.shape? k
def zy:Nat→Nat→Prop:=fun _ _=>False
def blk (r:Nat):Nat→Nat→Prop:=fun k _=>k=r
def rng (b o n:Nat):Nat→Nat→Prop:=fun k i=>k=b∧o≤i∧i < o+n
def orM (M M':Nat→Nat→Prop):Nat→Nat→Prop:=fun k o=>M k o∨M' k o
theorem Mod.refl (w:World) (M:Nat→Nat→Prop):Mod w w M:=⟨rfl,rfl,rfl,Nat.le_refl _,fun _ _ _=>rfl,fun _ _ _ _=>rfl,fun _ _ _=>rfl,fun _ _ _=>rfl,fun _ _=>rfl⟩
theorem Mod.mono {w w':World} {M M':Nat→Nat→Prop} (h:Mod w w' M) (hm:∀ k o,k < w.heap.size→M k o→M' k o):Mod w w' M':=
 ⟨h.os,h.tape,h.output,h.size,fun k hk hn=>h.block k hk fun o ho=>hn o (hm k o hk ho),fun k o hk hn=>h.cell k o hk fun ho=>hn (hm k o hk ho),h.isCell,h.frozen,h.shape⟩
theorem Mod.trans {w w1 w2:World} {M M1 M2:Nat→Nat→Prop} (h:Mod w w1 M1) (h':Mod w1 w2 M2) (hm:∀ k o,k < w.heap.size→M1 k o∨M2 k o→M k o):Mod w w2 M:=by
 have hs:=h.size
 refine⟨h'.os.trans h.os,h'.tape.trans h.tape,h'.output.trans h.output,Nat.le_trans h.size h'.size,fun k hk hn=>?_,fun k o hk hn=>?_,fun k o hk=>?_,fun k o hk=>?_,fun k hk=>?_⟩
 ·rw[h'.block k (by omega) fun o ho=>hn o (hm k o hk (.inr ho)),h.block k hk fun o ho=>hn o (hm k o hk (.inl ho))]
 ·rw[h'.cell k o (by omega) fun ho=>hn (hm k o hk (.inr ho)),h.cell k o hk fun ho=>hn (hm k o hk (.inl ho))]
 ·rw[h'.isCell k o (by omega),h.isCell k o hk]
 ·rw[h'.frozen k o (by omega),h.frozen k o hk]
 ·rw[h'.shape k (by omega),h.shape k hk]
theorem Mod.trans' {w w1 w2:World} {M:Nat→Nat→Prop} (h:Mod w w1 M) (h':Mod w1 w2 M):Mod w w2 M:=h.trans h' fun _ _ _ hm=>hm.elim id id
theorem Mod.fresh {w w1 w2:World} {M M':Nat→Nat→Prop} (h:Mod w w1 M) (h':Mod w1 w2 M') (hm:∀ k o,M' k o→w.heap.size≤k):Mod w w2 M:=
 h.trans h' fun k o hk ho=>ho.elim id fun ho=>by have:=hm k o ho; omega
theorem Mod.drew (w:World) (M:Nat→Nat→Prop):Mod w w.drew M:=⟨rfl,rfl,rfl,Nat.le_refl _,fun _ _ _=>rfl,fun _ _ _ _=>rfl,fun _ _ _=>rfl,fun _ _ _=>rfl,fun _ _=>rfl⟩
theorem heap_alloc (w:World) (o:Obj) (k:Nat) (h:k < w.heap.size):(w.alloc o).heap[k]?=w.heap[k]?:=Below.heap_alloc w o k h
theorem Mod.of_blocks {w w':World} {M:Nat→Nat→Prop} (h1:w'.os=w.os) (h2:w'.tape=w.tape) (h3:w'.output=w.output) (h4:w.heap.size≤w'.heap.size) (h5:∀ k,k < w.heap.size→w'.heap[k]?=w.heap[k]?):Mod w w' M:=
 ⟨h1,h2,h3,h4,fun k hk _=>h5 k hk,fun k o hk _=>World.cell?_of_block (h5 k hk),fun k o hk=>by rw[World.cell?_of_block (h5 k hk)],fun k o hk=>World.frozen?_of_block (h5 k hk),fun k hk=>by simp [World.shape?,h5 k hk]⟩
theorem Mod.alloc (w:World) (o:Obj) (M:Nat→Nat→Prop):Mod w (w.alloc o) M:=
 .of_blocks rfl rfl rfl (by show w.heap.size≤(w.heap.push o).size; rw[Array.size_push]; omega) fun k hk=>heap_alloc w o k hk
theorem zsc (w:World) (b o:Nat) (v:Value):(w.setCell ⟨b,o,none⟩ v).heap[b]?=(w.heap[b]?).map fun
  | .cells c e f=>.cells (c.setIfInBounds o v) e f
  | x=>x:=by
 simp only [World.setCell,Array.getElem?_modify,if_true]
 cases hh:w.heap[b]? with
 | none=>rfl
 | some ob=>cases ob<;>rfl
theorem zpu (w:World) (b o:Nat) (v:Value) (i:Nat):((w.setCell ⟨b,o,none⟩ v).cell? ⟨b,i,none⟩).isSome=(w.cell? ⟨b,i,none⟩).isSome:=by
 simp only [World.cell?,zsc]
 cases hh:w.heap[b]? with
 | none=>rfl
 | some ob=>
  cases ob<;>simp
  rename_i c e f
  by_cases h:i < c.size<;>simp [h]
theorem zxd (w:World) (b o:Nat) (v:Value):(w.setCell ⟨b,o,none⟩ v).shape? b=w.shape? b:=by
 simp only [World.shape?,zsc]
 cases hh:w.heap[b]? with
 | none=>rfl
 | some ob=>cases ob<;>simp
theorem Mod.setCell {w:World} {b o:Nat} {v:Value} {M:Nat→Nat→Prop} (hm:b < w.heap.size→M b o):Mod w (w.setCell ⟨b,o,none⟩ v) M:=by
 have hne:∀ k,k≠b→(w.setCell ⟨b,o,none⟩ v).heap[k]?=w.heap[k]?:=fun k hk=>Below.heap_setCell _ _ _ _ hk
 refine⟨rfl,rfl,rfl,by simp [World.setCell],fun k hk hn=>?_,fun k i hk hn=>?_,fun k i hk=>?_,fun k i hk=>World.frozen?_setCell _ _ _ _,fun k hk=>?_⟩
 ·by_cases e:k=b
  ·subst e; exact absurd (hm hk) (hn o)
  ·exact hne k e
 ·by_cases e:k=b
  ·subst e
   have hio:i≠o:=fun e2=>by subst e2; exact hn (hm hk)
   exact World.cell?_setCell_other w _ _ v fun e=>hio (by injection e with e1 e2; exact e2.symm)
  ·exact World.cell?_of_block (hne k e)
 ·by_cases e:k=b
  ·subst e; exact zpu _ _ _ _ _
  ·rw[World.cell?_of_block (hne k e)]
 ·by_cases e:k=b
  ·subst e; exact zxd _ _ _ _
  ·simp [World.shape?,hne k e]
theorem Mod.setCells {M:Nat→Nat→Prop} {b:Nat}:∀ (vs:List Value) (o:Nat) (w:World),(b < w.heap.size→∀ i,o≤i→i < o+vs.length→M b i)→Mod w (w.setCells b o vs) M
 | [],_,w,_=>.refl w M
 | v :: vs,o,w,hm=>by
  refine Mod.trans' (w1:=w.setCell ⟨b,o,none⟩ v) (Mod.setCell fun hb=>hm hb o (Nat.le_refl _) (by simp)) ?_
  refine Mod.setCells vs (o+1) _ fun hb i h1 h2=>hm (by simpa [World.setCell] using hb) i (by omega) (by simp; omega)
theorem Mod.below {w w':World} (h:Mod w w' zy):Below w.heap.size w w':=
 ⟨h.os,h.tape,h.output,h.size,fun k hk=>h.block k hk fun _ hf=>hf⟩
theorem Mod.rangeAt {w w':World} {M:Nat→Nat→Prop} (h:Mod w w' M) {b o:Nat} {cs:List Value} (hb:b < w.heap.size) (hm:∀ i,o≤i→i < o+cs.length→¬ M b i) (hr:w.rangeAt b o cs):w'.rangeAt b o cs:=by
 intro j v hj
 have hl:j < cs.length:=(List.getElem?_eq_some_iff.1 hj).1
 rw[h.cell b (o+j) hb (hm _ (by omega) (by omega))]
 exact hr j v hj
theorem Mod.there {w w':World} {M:Nat→Nat→Prop} (h:Mod w w' M) {b o n:Nat} (hb:b < w.heap.size) (hr:w.there b o n):w'.there b o n:=
 fun j hj=>⟨by rw[h.isCell b _ hb]; exact(hr j hj).1,by rw[h.frozen b _ hb]; exact(hr j hj).2⟩
theorem zde {w:World} {b o:Nat} (h:(w.cell? ⟨b,o,none⟩).isSome=true):b < w.heap.size:=by
 unfold World.cell? at h
 cases hh:w.heap[b]? with
 | none=>rw[hh] at h; simp at h
 | some x=>exact(Array.getElem?_eq_some_iff.1 hh).1
theorem zwz {w:World} {b o n:Nat} (h:w.there b o n) (hn:0 < n):b < w.heap.size:=zde (by have:=(h 0 hn).1; exact this)
theorem zx {w:World} {b o:Nat} {cs ds:List Value}:w.rangeAt b o (cs++ds) ↔ w.rangeAt b o cs∧w.rangeAt b (o+cs.length) ds:=by
 constructor
 ·intro h
  refine⟨fun j v hj=>h j v (by rw[List.getElem?_append_left (List.getElem?_eq_some_iff.1 hj).1]; exact hj),fun j v hj=>?_⟩
  have:=h (cs.length+j) v (by rw[List.getElem?_append_right (by omega)]; simpa using hj)
  rw[← Nat.add_assoc] at this
  exact this
 ·rintro ⟨h1,h2⟩ j v hj
  by_cases hl:j < cs.length
  ·rw[List.getElem?_append_left hl] at hj; exact h1 j v hj
  ·rw[List.getElem?_append_right (by omega)] at hj
   have:=h2 (j - cs.length) v hj
   rwa [show o+cs.length+(j - cs.length)=o+j by omega] at this
theorem zfe {w:World} {b o:Nat} {v:Value}:w.rangeAt b o [v] ↔ w.cell? ⟨b,o,none⟩=some v:=by
 constructor
 ·intro h; exact h 0 v rfl
 ·intro h j u hj
  cases j with
  | zero=>simp at hj; subst hj; exact h
  | succ j=>simp at hj
theorem zoe (w:World) (o:Obj):(w.alloc o).heap[w.heap.size]?=some o:=by
 show (w.heap.push o)[w.heap.size]?=some o
 exact Array.getElem?_push_size
theorem zr (w:World) (cs:Array Value) (t:TypeId) (fr:Nat × Nat):(w.alloc (.cells cs t fr)).rangeAt w.heap.size 0 cs.toList:=by
 intro j v hj
 simp only [Nat.zero_add,World.cell?,zoe]
 simpa using hj
theorem zbq (w:World) (cs:Array Value) (t:TypeId):(w.alloc (.cells cs t)).there w.heap.size 0 cs.size:=by
 intro j hj
 simp only [Nat.zero_add,World.cell?,World.frozen?,zoe]
 constructor
 ·simp [hj]
 ·simp
theorem zav (w:World) (o:Obj):(w.alloc o).heap.size=w.heap.size+1:=by
 show (w.heap.push o).size=_
 exact Array.size_push _
section
variable {P:Program} {w:World}
structure HF (P:Program) (T:TypeId) (k off:Nat):Prop where
 out:∃ fs f i,P.underlying T=some (.struct fs)∧fs[k]?=some f∧f.offset=off∧P.info? f.type=some i∧i.size≠0
theorem HF.run {T:TypeId} {k off:Nat} (h:HF P T k off) (b o:Nat):(Instr.fieldAt T (.pointer (some ⟨b,o,none⟩)) k).run P w=.ok (.pointer (some ⟨b,o+off,none⟩)) w:=by
 obtain⟨fs,f,i,h1,h2,h3,h4,h5⟩:=h.out
 subst h3
 simp [Instr.fieldAt,underlying,program,Sem.run,bind,Sem.bind,h1,h2,pure,Instr.sureAddr,fieldPlace,sizeOf,typeInfo,h4,h5,Addr.add_mid]
def ldv (d:TypeDesc) (cs:List Value):Value:=if zqn d then .agg cs.toArray else cs.headD undef
theorem TI.run_load {t:TypeId} {d:TypeDesc} {sz by':Nat} {z:Value} (h:TI P t d sz by' z) {b o:Nat} {cs:List Value} (hc:w.rangeAt b o cs) (hl:cs.length=sz) (h1:zqn d=false→sz=1) :
  (Instr.loadAt t (.pointer (some ⟨b,o,none⟩))).run P w=.ok (ldv d cs) w:=by
 simp only [Instr.loadAt,Instr.sureAddr,Sem.run_bind,Sem.run_pure,Result.andThen_ok,loadVar]
 rw[h.run_isAgg]
 simp only [Result.andThen_ok]
 cases hd:zqn d with
 | true=>
  have hl2:(loadCells ⟨b,o,none⟩ cs.length).run P w=.ok cs.toArray w:=
   run_loadCells_list (P:=P) w ⟨b,o,none⟩ cs (fun j v hv=>by rw[Addr.add_mid]; exact hc j v hv)
  simp only [if_true,Sem.run_bind,h.run_size,Result.andThen_ok,Sem.run_pure,← hl,hl2,ldv,hd]
 | false=>
  have:=h1 hd
  subst hl
  match cs,this with
  | [v],_=>
   have hv:w.cell? ⟨b,o,none⟩=some v:=hc 0 v rfl
   simp [load,Sem.run,hv,ldv,hd]
theorem TI.run_store {t:TypeId} {d:TypeDesc} {sz by':Nat} {z:Value} (h:TI P t d sz by' z) {b o:Nat} {v:Value} {cs:List Value} (hv:v.cells=cs.toArray) (hl:cs.length=sz) (ht:w.there b o sz)
  (h1:∀ c∈cs,c.oneCell'=true):(Instr.storeAt t (.pointer (some ⟨b,o,none⟩)) v).run P w=.ok () (w.setCells b o cs):=by
 have hs:=run_storeCells_cells (P:=P) b o cs 0 w (fun j hj=>by simpa using(ht j (by omega)).1) (fun j hj=>by simpa using(ht j (by omega)).2) h1
 simp only [Nat.add_zero] at hs
 simp only [Instr.storeAt,Instr.sureAddr,Sem.run_bind,Sem.run_pure,Result.andThen_ok,storeVar,h.run_size,hv]
 rw[if_neg (by simp [hl])]
 simpa using hs
theorem TI.run_alloc {t:TypeId} {d:TypeDesc} {sz by':Nat} {z:Value} (h:TI P t d sz by' z) (old:Value) :
  (Instr.alloc t true old).run P w=.ok (.pointer (some ⟨w.heap.size,0,none⟩)) (w.alloc (.cells z.cells t)):=by
 simp only [Instr.alloc,Sem.run_bind,h.run_zero,Result.andThen_ok]
 rfl
theorem run_box (t:TypeId) (v:Value):(Instr.box t v).run P w=.ok (.pointer (some ⟨w.heap.size,0,none⟩)) (w.alloc (.cells v.cells t)):=rfl
theorem TI.run_len {t e ty:TypeId} {sz by':Nat} {z:Value} (h:TI P t (.slice e) sz by' z) {a:Option Addr} {n c:Nat}:(Builtin.len_ #[t] ty #[.slice a n c]).run P w=.ok (.int .i64 n) w:=by
 simp [Builtin.len_,Sem.run_bind,h.run_und,goInt]
theorem run_lss {t:TypeId} {x y:Operand} {k:IntKind} {a b:Int}:(do eqGuard .lss t x y (.int k a) (.int k b); binOp .lss t (.int k a) (.int k b):Sem Value).run P w=.ok (.bool (decide (a < b))) w:=by
 simp [eqGuard,binOp,Op.intCmp]
theorem run_leq {t:TypeId} {x y:Operand} {k:IntKind} {a b:Int}:(do eqGuard .leq t x y (.int k a) (.int k b); binOp .leq t (.int k a) (.int k b):Sem Value).run P w=.ok (.bool (decide (a≤b))) w:=by
 simp [eqGuard,binOp,Op.intCmp]
theorem run_gtr {t:TypeId} {x y:Operand} {k:IntKind} {a b:Int}:(do eqGuard .gtr t x y (.int k a) (.int k b); binOp .gtr t (.int k a) (.int k b):Sem Value).run P w=.ok (.bool (decide (a > b))) w:=by
 simp [eqGuard,binOp,Op.intCmp]
theorem run_geq {t:TypeId} {x y:Operand} {k:IntKind} {a b:Int}:(do eqGuard .geq t x y (.int k a) (.int k b); binOp .geq t (.int k a) (.int k b):Sem Value).run P w=.ok (.bool (decide (a ≥ b))) w:=by
 simp [eqGuard,binOp,Op.intCmp]
theorem run_ieql {t:TypeId} {x y:Operand} {k:IntKind} {a b:Int}:(do eqGuard .eql t x y (.int k a) (.int k b); binOp .eql t (.int k a) (.int k b):Sem Value).run P w=.ok (.bool (a == b)) w:=by
 simp [eqGuard,binOp,Op.intCmp]
theorem run_ineq {t:TypeId} {x y:Operand} {k:IntKind} {a b:Int}:(do eqGuard .neq t x y (.int k a) (.int k b); binOp .neq t (.int k a) (.int k b):Sem Value).run P w=.ok (.bool (a != b)) w:=by
 simp [eqGuard,binOp,Op.intCmp]
theorem run_iadd {t:TypeId} {x y:Operand} {k:IntKind} {a b:Int}:(do eqGuard .add t x y (.int k a) (.int k b); binOp .add t (.int k a) (.int k b):Sem Value).run P w=.ok (.int k (k.wrap (a+b))) w:=by
 simp [eqGuard,binOp,Op.intArith]
theorem run_isub {t:TypeId} {x y:Operand} {k:IntKind} {a b:Int}:(do eqGuard .sub t x y (.int k a) (.int k b); binOp .sub t (.int k a) (.int k b):Sem Value).run P w=.ok (.int k (k.wrap (a - b))) w:=by
 simp [eqGuard,binOp,Op.intArith]
theorem run_not {b:Bool}:(Op.unary .not (.bool b)).run P w=.ok (.bool !b) w:=rfl
theorem run_pick {b:Bool} {x y:Value}:(do pure (if ← asBool (.bool b) then x else y):Sem Value).run P w=.ok (if b then x else y) w:=by
 simp [asBool]
theorem zat {s t:TypeId} {ds:TypeDesc} {k k':IntKind} {a b a' b':Nat} {z z':Value} (hs:TI P s ds a b z) (ht:TI P t (.int k) a' b' z') {n:Int} (hds:∃ k,ds=.int k) :
  (convert s t (.int k' n)).run P w=.ok (.int k (k.wrap n)) w:=by
 obtain⟨k2,rfl⟩:=hds
 simp [convert,Sem.run_bind,hs.run_und,ht.run_und,Conv.intToInt]
theorem zne {t e:TypeId} {a b a' b':Nat} {z z':Value} {de:TypeDesc} (ht:TI P t (.slice e) a b z) (he:TI P e de a' b' z') {ad:Option Addr} {n c l:Nat} {k:IntKind} (hl:l≤n) :
  (Instr.sliceAt t (.slice ad n c) (some (.int k l)) none none).run P w=.ok (.slice (if c=l then ad else ad.map (·.add (l * a'))) (n - l) (c - l)) w:=by
 simp [Instr.sliceAt,Instr.slice,Instr.sliceBounds,Instr.sliceBound,Sem.run_bind,ht.run_und,he.run_size,asIntOf,hl]
theorem zhj {t e:TypeId} {a b a' b':Nat} {z z':Value} {de:TypeDesc} (ht:TI P t (.slice e) a b z) (he:TI P e de a' b' z') {ad:Option Addr} {n c h:Nat} {k:IntKind} (hl:h≤c) :
  (Instr.sliceAt t (.slice ad n c) none (some (.int k h)) none).run P w=.ok (.slice ad h c) w:=by
 simp [Instr.sliceAt,Instr.slice,Instr.sliceBounds,Instr.sliceBound,Sem.run_bind,ht.run_und,he.run_size,asIntOf,hl,Addr.add]
theorem zqh {t e:TypeId} {a b a' b':Nat} {z z':Value} {de:TypeDesc} (ht:TI P t (.slice e) a b z) (he:TI P e de a' b' z') {ad:Option Addr} {n c h:Nat} {k:IntKind} (hl:h≤c) :
  (Instr.sliceAt t (.slice ad n c) none (some (.int k h)) (some (.int k h))).run P w=.ok (.slice ad h h) w:=by
 simp [Instr.sliceAt,Instr.slice,Instr.sliceBounds,Instr.sliceBound,Sem.run_bind,ht.run_und,he.run_size,asIntOf,hl,Addr.add]
theorem zcb {t e:TypeId} {a b a' b':Nat} {z z':Value} {de:TypeDesc} (ht:TI P t (.slice e) a b z) (he:TI P e de a' b' z') {bl o n c i:Nat} {k:IntKind} (hi:i < n) :
  (Instr.indexAt t (.slice (some ⟨bl,o,none⟩) n c) (.int k i)).run P w=.ok (.pointer (some ⟨bl,o+i * a',none⟩)) w:=by
 simp [Instr.indexAt,Sem.run_bind,ht.run_und,he.run_size,asIntOf,hi,Addr.add_mid]
def ldc (c:Option Value) (w:World) (r:Result Value):Result Value:=
 match c with
 | some v=>.ok v w
 | none=>r
@[simp] theorem ldc_some (v:Value) (w:World) (r:Result Value):ldc (some v) w r=.ok v w:=rfl
theorem TI.run_load1 {t:TypeId} {d:TypeDesc} {sz by':Nat} {z:Value} (h:TI P t d sz by' z) (hd:zqn d=false) (b o:Nat) :
  (Instr.loadAt t (.pointer (some ⟨b,o,none⟩))).run P w=ldc (w.cell? ⟨b,o,none⟩) w ((load ⟨b,o,none⟩).run P w):=by
 simp only [Instr.loadAt,Instr.sureAddr,Sem.run_bind,Sem.run_pure,Result.andThen_ok,loadVar]
 rw[h.run_isAgg,hd]
 simp only [Result.andThen_ok,Bool.false_eq_true,if_false]
 cases hc:w.cell? ⟨b,o,none⟩ with
 | none=>rfl
 | some v=>simp [load,Sem.run,hc]
theorem TI.run_store1 {t:TypeId} {d:TypeDesc} {by':Nat} {z:Value} (h:TI P t d 1 by' z) {b o:Nat} {v:Value} (hv:v.oneCell'=true) (ht:w.there b o 1) :
  (Instr.storeAt t (.pointer (some ⟨b,o,none⟩)) v).run P w=.ok () (w.setCell ⟨b,o,none⟩ v):=by
 have hc:v.cells=[v].toArray:=by cases v<;>first | rfl | simp [Value.oneCell'] at hv
 exact h.run_store (w:=w) (b:=b) (o:=o) hc rfl ht (by simpa using hv)
theorem zhk {t e:TypeId} {a b a' b':Nat} {z z':Value} {de:TypeDesc} (ht:TI P t (.slice e) a b z) (he:TI P e de a' b' z') {bl o n c:Nat} {i:Int} {k:IntKind} (h0:0≤i) (hi:i < n) :
  (Instr.indexAt t (.slice (some ⟨bl,o,none⟩) n c) (.int k i)).run P w=.ok (.pointer (some ⟨bl,o+i.toNat * a',none⟩)) w:=by
 obtain⟨m,rfl⟩:=Int.eq_ofNat_of_zero_le h0
 exact zcb ht he (by omega)
def bor (k:IntKind) (a b:Int):Int:=k.wrap (BitVec.ofInt k.bits a ||| BitVec.ofInt k.bits b).toNat
def band (k:IntKind) (a b:Int):Int:=k.wrap (BitVec.ofInt k.bits a &&& BitVec.ofInt k.bits b).toNat
def shl (k:IntKind) (x y:Int):Int:=k.wrap (x * 2 ^ min y.toNat k.bits)
theorem run_or {t:TypeId} {x y:Operand} {k:IntKind} {a b:Int}:(do eqGuard .or t x y (.int k a) (.int k b); binOp .or t (.int k a) (.int k b):Sem Value).run P w=.ok (.int k (bor k a b)) w:=by
 simp [eqGuard,binOp,Op.intBits,bor]
theorem run_band {t:TypeId} {x y:Operand} {k:IntKind} {a b:Int}:(do eqGuard .and t x y (.int k a) (.int k b); binOp .and t (.int k a) (.int k b):Sem Value).run P w=.ok (.int k (band k a b)) w:=by
 simp [eqGuard,binOp,Op.intBits,band]
theorem zxf {t:TypeId} {x y:Operand} {k yk:IntKind} {a b:Int} (hb:0≤b):(do eqGuard .shl t x y (.int k a) (.int yk b); binOp .shl t (.int k a) (.int yk b):Sem Value).run P w=.ok (.int k (shl k a b)) w:=by
 simp [eqGuard,binOp,Op.shift,shl,show ¬ b < 0 by omega]
theorem zsf {a b:Value}:(Instr.extract (.tuple #[a,b]) 0).run P w=.ok a w:=rfl
theorem zse {a b:Value}:(Instr.extract (.tuple #[a,b]) 1).run P w=.ok b w:=rfl
theorem locs_def (ρ:Env) (i:Nat):locs ρ i=ρ (i+100):=rfl
theorem znq (σ τ:Env) (t:Nat):zli σ τ t=sel (decide (t < 100)) (τ t) (σ (t - 100)):=by
 show (if t < 100 then τ t else σ (t - 100))=_
 by_cases h:t < 100<;>simp [h]
theorem zd {loc:List Nat} {N:Nat} {x y:C} {Q:Exit→Env→World→Prop} {σ:Env} (h:∀ K:Env→World→Prop,(∀ σ w,W P loc N y Q σ w→K σ w)→W P loc N x (zfd K Q) σ w):W P loc N (.seq x y) Q σ w:=
 W_seq (h _ fun _ _ h=>h)
end
def zfv (P:Program) (Cw:World→Prop) (K:Env→Prop):List (ROp × Bool)→Env→Prop
 | [],ρ=>K ρ
 | (o,true) :: r,ρ=>∃ v,(∀ w,Cw w→zmd P o ρ w v)∧zfv P Cw K r (put ρ o.dst v)
 | (_,false) :: r,ρ=>zfv P Cw K r ρ
def zid (P:Program) (Cw:World→Prop) (K:Env→World→Prop):List ROp→Env→World→Prop
 | [],ρ,w=>K ρ w
 | [o],ρ,w=>zcn P o ρ w K
 | o :: p :: r,ρ,w=>zcn P o ρ w fun ρ w=>Cw w∧zid P Cw K (p :: r) ρ w
def rdOf (rd:List Bool) (i:Nat):Bool:=rd.getD i false
def planZ (l:List ROp) (rd:List Bool):Bool:=
 Nat.beq rd.length l.length && zrm l (rdOf rd) && (match ((List.range l.length).filter fun i=>!rdOf rd i).getLast? with
  | some j=>zps l (rdOf rd) j
  | none=>true)
theorem zmh {P:Program} {Cw:World→Prop} {K:Env→Prop} {l:List ROp} {rd:Nat→Bool}:∀ (r:List (ROp × Bool)) (k:Nat) (ρ:Env),(∀ i p,r[i]?=some p→l.getD (k+i) default=p.1∧rd (k+i)=p.2)→
  zfv P Cw K r ρ→zkf P Cw l rd K (List.range' k r.length) ρ
 | [],k,ρ,_,h=>h
 | (o,b) :: r,k,ρ,hl,h=>by
  obtain⟨h1,h2⟩:=hl 0 (o,b) rfl
  simp only [Nat.add_zero] at h1 h2
  rw[List.length_cons,List.range'_succ]
  unfold zkf
  have hr:∀ i p,r[i]?=some p→l.getD (k+1+i) default=p.1∧rd (k+1+i)=p.2:=fun i p hp=>by
   have:=hl (i+1) p (by simpa using hp)
   rwa [show k+(i+1)=k+1+i by omega] at this
  cases b with
  | true=>
   rw[if_pos h2,h1]
   obtain⟨v,hv,h⟩:=h
   exact⟨v,hv,zmh r (k+1) _ hr h⟩
  | false=>
   rw[if_neg (by rw[h2]; simp)]
   exact zmh r (k+1) _ hr h
theorem zuo {P:Program} {Cw:World→Prop} {K:Env→World→Prop} {l:List ROp} {rd:Nat→Bool}:∀ (J:List Nat) (ρ:Env) (w:World),(∀ j,J.getLast?=some j→zps l rd j=true)→
  zid P Cw K (J.map fun j=>l.getD j default) ρ w→zmw P Cw l rd K J ρ w
 | [],_,_,_,h=>h
 | [j],ρ,w,hj,h=>by
  unfold zmw
  refine zhi (fun ρ w hk=>⟨.inl (hj j rfl),?_⟩) h
  exact hk
 | j :: i :: J,ρ,w,hj,h=>by
  unfold zmw
  refine zhi (fun ρ w hk=>⟨.inr hk.1,?_⟩) h
  exact zuo (i :: J) ρ w (fun j' h'=>hj j' (by simpa using h')) hk.2
theorem zor {l:List ROp} {rd:Nat→Bool}:∀ (r:List (ROp × Bool)) (k:Nat),(∀ i p,r[i]?=some p→l.getD (k+i) default=p.1∧rd (k+i)=p.2)→
  ((List.range' k r.length).filter fun i=>!rd i).map (fun j=>l.getD j default)=(r.filter fun p=>!p.2).map Prod.fst
 | [],k,_=>rfl
 | (o,b) :: r,k,hl=>by
  obtain⟨h1,h2⟩:=hl 0 (o,b) rfl
  simp only [Nat.add_zero] at h1 h2
  have hr:∀ i p,r[i]?=some p→l.getD (k+1+i) default=p.1∧rd (k+1+i)=p.2:=fun i p hp=>by
   have:=hl (i+1) p (by simpa using hp)
   rwa [show k+(i+1)=k+1+i by omega] at this
  rw[List.length_cons,List.range'_succ]
  cases b with
  | true=>rw[List.filter_cons_of_neg (by rw[h2]; simp),List.filter_cons_of_neg (by simp)]; exact zor r (k+1) hr
  | false=>rw[List.filter_cons_of_pos (by rw[h2]; simp),List.filter_cons_of_pos (by simp),List.map_cons,List.map_cons,h1,zor r (k+1) hr]
def zgv (l:List ROp) (rd:List Bool):List ROp:=((l.zip rd).filter fun p=>!p.2).map Prod.fst
theorem zact {P:Program} {loc:List Nat} {N:Nat} {Q:Exit→Env→World→Prop} {σ:Env} {w:World} {l:List ROp} (hm:P.follows .mixedOrders=true) (rd:List Bool) (hB:planZ l rd=true) (Cw:World→Prop) (hw:Cw w.drew)
  (h:∀ τ,zfv P Cw (fun ρ1=>zid P Cw (fun ρ w=>Q .normal (locs ρ) w) (zgv l rd) ρ1 w.drew) (l.zip rd) (zli σ τ)):W P loc N (.draw l) Q σ w:=by
 unfold planZ at hB
 rw[Bool.and_eq_true,Bool.and_eq_true] at hB
 obtain⟨⟨hl,hp⟩,hlast⟩:=hB
 have hl:rd.length=l.length:=by simpa using hl
 have hzl:(l.zip rd).length=l.length:=by simp [hl]
 have hz:∀ i p,(l.zip rd)[i]?=some p→l.getD (0+i) default=p.1∧rdOf rd (0+i)=p.2:=by
  intro i p hi
  rw[List.getElem?_zip_eq_some] at hi
  simp [List.getD,rdOf,hi.1,hi.2]
 refine W_draw hm (zok hp) fun τ=>zws hp (Cw:=Cw) hw ?_
 have hcs:=zor (l:=l) (rd:=rdOf rd) (l.zip rd) 0 hz
 rw[hzl,← List.range_eq_range'] at hcs
 have h1:=h τ
 have e:List.range l.length=List.range' 0 (l.zip rd).length:=by rw[hzl,List.range_eq_range']
 rw[show (List.range l.length)=List.range' 0 (l.zip rd).length from e]
 refine zmh (l.zip rd) 0 _ hz ?_
 have key:∀ ρ1,zid P Cw (fun ρ w=>Q .normal (locs ρ) w) (zgv l rd) ρ1 w.drew→zmw P Cw l (rdOf rd) (fun ρ w=>Q .normal (locs ρ) w) ((List.range' 0 (l.zip rd).length).filter fun i=>!rdOf rd i) ρ1 w.drew:=by
  intro ρ1 hc
  rw[← e]
  refine zuo _ _ _ (fun j hj=>?_) ?_
  ·rw[hj] at hlast; exact hlast
  ·rw[hcs]; exact hc
 have mono:∀ (r:List (ROp × Bool)) (ρ:Env) (K K':Env→Prop),(∀ ρ,K ρ→K' ρ)→zfv P Cw K r ρ→zfv P Cw K' r ρ:=by
  intro r
  induction r with
  | nil=>intro ρ K K' hk h; exact hk _ h
  | cons p r ih=>
   intro ρ K K' hk h
   obtain⟨o,b⟩:=p
   cases b with
   | true=>obtain⟨v,hv,h⟩:=h; exact⟨v,hv,ih _ _ _ hk h⟩
   | false=>exact ih _ _ _ hk h
 exact mono _ _ _ _ key h1
theorem zar {P:Program} {Cw:World→Prop} {K:Env→Prop} {o:ROp} {r:List (ROp × Bool)} {ρ:Env} (v:Value) (h:∀ w,Cw w→(exec ρ o).run P w=.ok (.value v) w) (hg:o.guard=none) (hr:zfv P Cw K r (put ρ o.dst v)):zfv P Cw K ((o,true) :: r) ρ:=
 ⟨v,fun w hw=>.inl ⟨by rw[hg]; rfl,h w hw⟩,hr⟩
theorem zdb {P:Program} {ρ:Env} {d:Option Nat} {ty:TypeId} {x:Operand} {g:Option (Option Nat × Bool)} {af:List Nat} {w:World}:(exec ρ ⟨d,.move x,ty,g,af⟩).run P w=.ok (.value (ev ρ x)) w:=rfl
theorem zdv {P:Program} {s:Sem Value} {w:World} {v:Value} (h:s.run P w=.ok v w):(do pure (Next.value (← s)):Sem Next).run P w=.ok (.value v) w:=by simp [h]
abbrev T (k:Nat):Operand:=.tmp k
abbrev V (i:Nat):Operand:=.tmp (i+100)
structure Nums where
 zda:Nat:=0
 zhd:Nat:=0
 zex:Nat:=0
 zba:Nat:=0
 zdo:Nat:=0
 zcg:Nat:=0
 zby:Nat:=0
 zcu:Nat:=0
 zaf:Nat:=0
 zbm:Nat:=0
 zfy:Nat:=0
 zcc:Nat:=0
 zgn:Nat:=0
 zdt:Nat:=0
 zct:Nat:=0
 zco:Nat:=0
 zeg:Nat:=0
 zu:Nat:=0
 zdr:Nat:=0
 zbj:Nat:=0
 zbu:Nat:=0
 zbs:Nat:=0
 zcd:Nat:=0
 zfg:Nat:=0
 zq:Nat:=0
 zdw:Nat:=0
 zhn:Nat:=0
 zdp:Nat:=0
 zcz:Nat:=0
 zdi:Nat:=0
 zlx:Nat:=0
 zdn:Nat:=0
 zek:Nat:=0
 zej:Nat:=0
 zrt:Nat:=0
 f_got:Nat:=0
 zdu:Nat:=0
 zno:Nat:=0
 zhm:Nat:=0
 f_sorted:Nat:=0
 zff:Nat:=0
 zkk:Nat:=0
 zrs:Nat:=0
 zlw:Nat:=0
 zfr:Nat:=0
 zj:Nat:=0
 t_:Nat:=0
 zaq:Nat:=0
 zpa:Nat:=0
 zag:Nat:=0
 zp:Nat:=0
 zak:Nat:=0
 zbo:Nat:=0
 za:Nat:=0
 zbk:Nat:=0
 zbc:Nat:=0
 zv:Nat:=0
 ztl:Nat:=0
 zcy:Nat:=0
 zbe:Nat:=0
 zbt:Nat:=0
 zay:Nat:=0
 zgc:Nat:=0
 zpm:Nat:=0
 zov:Nat:=0
 ze:Nat:=0
 zbf:Nat:=0
 zbr:Nat:=0
 zcv:Nat:=0
 zjd:Nat:=0
 zaba:Nat:=0
 zab:Nat:=0
 zal:Nat:=0
 zf:Nat:=0
 zac:Nat:=0
 zcq:Nat:=0
 zfj:Nat:=0
 zc:Nat:=0
 zyw:Nat:=0
 zaj:Nat:=0
 zh:Nat:=0
def zlb (N:Nums):C:=
 .seq (
 .ops [
 ⟨some 0,.box N.zbt (V 0),0,none,[]⟩,
 ⟨some (2+100),.assign (.const (.int .u16 0)),0,none,[]⟩]) (
 .seq (
 .ops [
 ⟨some 0,.move (V 1),0,none,[]⟩,
 ⟨some 1,.indexAddr N.za (T 0) (.const (.int .i64 1)),0,none,[]⟩,
 ⟨some 2,.load N.zh (T 1),0,none,[]⟩]) (
 .seq (
 .draw [
 ⟨some 0,.move (V 1),0,none,[]⟩,
 ⟨some 1,.indexAddr N.za (T 0) (.const (.int .i64 1)),0,none,[0]⟩,
 ⟨some 2,.load N.zh (T 1),0,none,[1]⟩,
 ⟨some 3,.convert N.zh N.zfj (T 2),0,none,[2]⟩,
 ⟨some 4,.move (V 1),0,none,[]⟩,
 ⟨some 5,.indexAddr N.za (T 4) (.const (.int .i64 0)),0,none,[4]⟩,
 ⟨some 6,.load N.zh (T 5),0,none,[5]⟩,
 ⟨some 7,.convert N.zh N.zfj (T 6),0,none,[6]⟩,
 ⟨some 8,.binOp .shl N.zfj (T 7) (.const (.int .u64 8)) N.zcq,0,none,[7]⟩,
 ⟨some 9,.binOp .or N.zfj (T 3) (T 8) N.zfj,0,none,[3,8]⟩,
 ⟨some (2+100),.assign (T 9),0,none,[9,0,1,2,3,4,5,6,7,8,9]⟩]) (
 .ret)))
def zla (N:Nums):C:=
 .seq (
 .ops [
 ⟨some 0,.box N.zbt (V 0),0,none,[]⟩,
 ⟨some (2+100),.assign (.const (.int .u32 0)),0,none,[]⟩]) (
 .seq (
 .ops [
 ⟨some 0,.move (V 1),0,none,[]⟩,
 ⟨some 1,.indexAddr N.za (T 0) (.const (.int .i64 3)),0,none,[]⟩,
 ⟨some 2,.load N.zh (T 1),0,none,[]⟩]) (
 .seq (
 .draw [
 ⟨some 0,.move (V 1),0,none,[]⟩,
 ⟨some 1,.indexAddr N.za (T 0) (.const (.int .i64 3)),0,none,[0]⟩,
 ⟨some 2,.load N.zh (T 1),0,none,[1]⟩,
 ⟨some 3,.convert N.zh N.zc (T 2),0,none,[2]⟩,
 ⟨some 4,.move (V 1),0,none,[]⟩,
 ⟨some 5,.indexAddr N.za (T 4) (.const (.int .i64 2)),0,none,[4]⟩,
 ⟨some 6,.load N.zh (T 5),0,none,[5]⟩,
 ⟨some 7,.convert N.zh N.zc (T 6),0,none,[6]⟩,
 ⟨some 8,.binOp .shl N.zc (T 7) (.const (.int .u64 8)) N.zcq,0,none,[7]⟩,
 ⟨some 9,.binOp .or N.zc (T 3) (T 8) N.zc,0,none,[3,8]⟩,
 ⟨some 10,.move (V 1),0,none,[]⟩,
 ⟨some 11,.indexAddr N.za (T 10) (.const (.int .i64 1)),0,none,[10]⟩,
 ⟨some 12,.load N.zh (T 11),0,none,[11]⟩,
 ⟨some 13,.convert N.zh N.zc (T 12),0,none,[12]⟩,
 ⟨some 14,.binOp .shl N.zc (T 13) (.const (.int .u64 16)) N.zcq,0,none,[13]⟩,
 ⟨some 15,.binOp .or N.zc (T 9) (T 14) N.zc,0,none,[9,14]⟩,
 ⟨some 16,.move (V 1),0,none,[]⟩,
 ⟨some 17,.indexAddr N.za (T 16) (.const (.int .i64 0)),0,none,[16]⟩,
 ⟨some 18,.load N.zh (T 17),0,none,[17]⟩,
 ⟨some 19,.convert N.zh N.zc (T 18),0,none,[18]⟩,
 ⟨some 20,.binOp .shl N.zc (T 19) (.const (.int .u64 24)) N.zcq,0,none,[19]⟩,
 ⟨some 21,.binOp .or N.zc (T 15) (T 20) N.zc,0,none,[15,20]⟩,
 ⟨some (2+100),.assign (T 21),0,none,[21,0,1,2,3,4,5,6,7,8,9,10,11,12,13,14,15,16,17,18,19,20,21]⟩]) (
 .ret)))
def zkz (N:Nums):C:=
 .seq (
 .ops [
 ⟨some 0,.box N.zbt (V 0),0,none,[]⟩,
 ⟨some (2+100),.assign (.const (.int .u64 0)),0,none,[]⟩]) (
 .seq (
 .ops [
 ⟨some 0,.move (V 1),0,none,[]⟩,
 ⟨some 1,.indexAddr N.za (T 0) (.const (.int .i64 7)),0,none,[]⟩,
 ⟨some 2,.load N.zh (T 1),0,none,[]⟩]) (
 .seq (
 .draw [
 ⟨some 0,.move (V 1),0,none,[]⟩,
 ⟨some 1,.indexAddr N.za (T 0) (.const (.int .i64 7)),0,none,[0]⟩,
 ⟨some 2,.load N.zh (T 1),0,none,[1]⟩,
 ⟨some 3,.convert N.zh N.zaj (T 2),0,none,[2]⟩,
 ⟨some 4,.move (V 1),0,none,[]⟩,
 ⟨some 5,.indexAddr N.za (T 4) (.const (.int .i64 6)),0,none,[4]⟩,
 ⟨some 6,.load N.zh (T 5),0,none,[5]⟩,
 ⟨some 7,.convert N.zh N.zaj (T 6),0,none,[6]⟩,
 ⟨some 8,.binOp .shl N.zaj (T 7) (.const (.int .u64 8)) N.zcq,0,none,[7]⟩,
 ⟨some 9,.binOp .or N.zaj (T 3) (T 8) N.zaj,0,none,[3,8]⟩,
 ⟨some 10,.move (V 1),0,none,[]⟩,
 ⟨some 11,.indexAddr N.za (T 10) (.const (.int .i64 5)),0,none,[10]⟩,
 ⟨some 12,.load N.zh (T 11),0,none,[11]⟩,
 ⟨some 13,.convert N.zh N.zaj (T 12),0,none,[12]⟩,
 ⟨some 14,.binOp .shl N.zaj (T 13) (.const (.int .u64 16)) N.zcq,0,none,[13]⟩,
 ⟨some 15,.binOp .or N.zaj (T 9) (T 14) N.zaj,0,none,[9,14]⟩,
 ⟨some 16,.move (V 1),0,none,[]⟩,
 ⟨some 17,.indexAddr N.za (T 16) (.const (.int .i64 4)),0,none,[16]⟩,
 ⟨some 18,.load N.zh (T 17),0,none,[17]⟩,
 ⟨some 19,.convert N.zh N.zaj (T 18),0,none,[18]⟩,
 ⟨some 20,.binOp .shl N.zaj (T 19) (.const (.int .u64 24)) N.zcq,0,none,[19]⟩,
 ⟨some 21,.binOp .or N.zaj (T 15) (T 20) N.zaj,0,none,[15,20]⟩,
 ⟨some 22,.move (V 1),0,none,[]⟩,
 ⟨some 23,.indexAddr N.za (T 22) (.const (.int .i64 3)),0,none,[22]⟩,
 ⟨some 24,.load N.zh (T 23),0,none,[23]⟩,
 ⟨some 25,.convert N.zh N.zaj (T 24),0,none,[24]⟩,
 ⟨some 26,.binOp .shl N.zaj (T 25) (.const (.int .u64 32)) N.zcq,0,none,[25]⟩,
 ⟨some 27,.binOp .or N.zaj (T 21) (T 26) N.zaj,0,none,[21,26]⟩,
 ⟨some 28,.move (V 1),0,none,[]⟩,
 ⟨some 29,.indexAddr N.za (T 28) (.const (.int .i64 2)),0,none,[28]⟩,
 ⟨some 30,.load N.zh (T 29),0,none,[29]⟩,
 ⟨some 31,.convert N.zh N.zaj (T 30),0,none,[30]⟩,
 ⟨some 32,.binOp .shl N.zaj (T 31) (.const (.int .u64 40)) N.zcq,0,none,[31]⟩,
 ⟨some 33,.binOp .or N.zaj (T 27) (T 32) N.zaj,0,none,[27,32]⟩,
 ⟨some 34,.move (V 1),0,none,[]⟩,
 ⟨some 35,.indexAddr N.za (T 34) (.const (.int .i64 1)),0,none,[34]⟩,
 ⟨some 36,.load N.zh (T 35),0,none,[35]⟩,
 ⟨some 37,.convert N.zh N.zaj (T 36),0,none,[36]⟩,
 ⟨some 38,.binOp .shl N.zaj (T 37) (.const (.int .u64 48)) N.zcq,0,none,[37]⟩,
 ⟨some 39,.binOp .or N.zaj (T 33) (T 38) N.zaj,0,none,[33,38]⟩,
 ⟨some 40,.move (V 1),0,none,[]⟩,
 ⟨some 41,.indexAddr N.za (T 40) (.const (.int .i64 0)),0,none,[40]⟩,
 ⟨some 42,.load N.zh (T 41),0,none,[41]⟩,
 ⟨some 43,.convert N.zh N.zaj (T 42),0,none,[42]⟩,
 ⟨some 44,.binOp .shl N.zaj (T 43) (.const (.int .u64 56)) N.zcq,0,none,[43]⟩,
 ⟨some 45,.binOp .or N.zaj (T 39) (T 44) N.zaj,0,none,[39,44]⟩,
 ⟨some (2+100),.assign (T 45),0,none,[45,0,1,2,3,4,5,6,7,8,9,10,11,12,13,14,15,16,17,18,19,20,21,22,23,24,25,26,27,28,29,30,31,32,33,34,35,36,37,38,39,40,41,42,43,44,45]⟩]) (
 .ret)))
def zpg (N:Nums):C:=
 .seq (
 .ops [
 ⟨some (1+100),.assign (.const (.string ⟨#[]⟩)),0,none,[]⟩]) (
 .seq (
 .ops [
 ⟨some 0,.move (V 0),0,none,[]⟩,
 ⟨some 1,.convert N.za N.zac (T 0),0,none,[]⟩,
 ⟨some (1+100),.assign (T 1),0,none,[]⟩]) (
 .ret))
def zaan (N:Nums):C:=
 .seq (
 .ops [
 ⟨some (1+100),.assign (.const (.int .u32 0)),0,none,[]⟩,
 ⟨some (2+100),.assign (.const (.int .i64 0)),0,none,[]⟩]) (
 .scope (
 .seq (
 .ops [
 ⟨some (3+100),.assign (.const (.int .u32 0)),0,none,[]⟩]) (
 .seq (
 .ops [
 ⟨some (4+100),.assign (.const (.int .i64 0)),0,none,[]⟩]) (
 .seq (
 .seq (
 .ops [
 ⟨some 0,.move (V 0),0,none,[]⟩,
 ⟨some 1,.call ⟨.builtin .len,#[T 0],#[N.za]⟩,N.ze,none,[]⟩,
 ⟨some (5+100),.binOp .lss N.ze (T 1) (.const (.int .i64 1)) N.ze,0,none,[]⟩]) (
 .cond 5 (
 .goto 0) (
 .skip))) (
 .seq (
 .ops [
 ⟨some 0,.move (V 0),0,none,[]⟩,
 ⟨some 1,.indexAddr N.za (T 0) (.const (.int .i64 0)),0,none,[]⟩,
 ⟨some 2,.load N.zh (T 1),0,none,[]⟩,
 ⟨some 3,.binOp .and N.zh (T 2) (.const (.int .u8 127)) N.zh,0,none,[]⟩,
 ⟨some 4,.convert N.zh N.zc (T 3),0,none,[]⟩,
 ⟨some (3+100),.assign (T 4),0,none,[]⟩]) (
 .seq (
 .seq (
 .ops [
 ⟨some 0,.move (V 0),0,none,[]⟩,
 ⟨some 1,.indexAddr N.za (T 0) (.const (.int .i64 0)),0,none,[]⟩,
 ⟨some 2,.load N.zh (T 1),0,none,[]⟩,
 ⟨some 3,.binOp .and N.zh (T 2) (.const (.int .u8 128)) N.zh,0,none,[]⟩,
 ⟨some (6+100),.binOp .eql N.zh (T 3) (.const (.int .u8 0)) N.zh,0,none,[]⟩]) (
 .cond 6 (
 .seq (
 .ops [
 ⟨some 0,.move (V 3),0,none,[]⟩,
 ⟨some (1+100),.assign (T 0),0,none,[]⟩,
 ⟨some (2+100),.assign (.const (.int .i64 1)),0,none,[]⟩]) (
 .ret)) (
 .seq (
 .ops [
 ⟨some 0,.move (V 0),0,none,[]⟩,
 ⟨some 1,.call ⟨.builtin .len,#[T 0],#[N.za]⟩,N.ze,none,[]⟩,
 ⟨some (7+100),.binOp .lss N.ze (T 1) (.const (.int .i64 2)) N.ze,0,none,[]⟩]) (
 .cond 7 (
 .goto 0) (
 .skip))))) (
 .seq (
 .ops [
 ⟨some 0,.move (V 3),0,none,[]⟩,
 ⟨some 1,.move (V 0),0,none,[]⟩,
 ⟨some 2,.indexAddr N.za (T 1) (.const (.int .i64 1)),0,none,[]⟩,
 ⟨some 3,.load N.zh (T 2),0,none,[]⟩,
 ⟨some 4,.binOp .and N.zh (T 3) (.const (.int .u8 127)) N.zh,0,none,[]⟩,
 ⟨some 5,.convert N.zh N.zc (T 4),0,none,[]⟩,
 ⟨some 6,.binOp .shl N.zc (T 5) (.const (.int .u64 7)) N.zcq,0,none,[]⟩,
 ⟨some 7,.binOp .or N.zc (T 0) (T 6) N.zc,0,none,[]⟩,
 ⟨some (3+100),.assign (T 7),0,none,[]⟩]) (
 .seq (
 .seq (
 .ops [
 ⟨some 0,.move (V 0),0,none,[]⟩,
 ⟨some 1,.indexAddr N.za (T 0) (.const (.int .i64 1)),0,none,[]⟩,
 ⟨some 2,.load N.zh (T 1),0,none,[]⟩,
 ⟨some 3,.binOp .and N.zh (T 2) (.const (.int .u8 128)) N.zh,0,none,[]⟩,
 ⟨some (8+100),.binOp .eql N.zh (T 3) (.const (.int .u8 0)) N.zh,0,none,[]⟩]) (
 .cond 8 (
 .seq (
 .ops [
 ⟨some 0,.move (V 3),0,none,[]⟩,
 ⟨some (1+100),.assign (T 0),0,none,[]⟩,
 ⟨some (2+100),.assign (.const (.int .i64 2)),0,none,[]⟩]) (
 .ret)) (
 .seq (
 .ops [
 ⟨some 0,.move (V 0),0,none,[]⟩,
 ⟨some 1,.call ⟨.builtin .len,#[T 0],#[N.za]⟩,N.ze,none,[]⟩,
 ⟨some (9+100),.binOp .lss N.ze (T 1) (.const (.int .i64 3)) N.ze,0,none,[]⟩]) (
 .cond 9 (
 .goto 0) (
 .skip))))) (
 .seq (
 .ops [
 ⟨some 0,.move (V 3),0,none,[]⟩,
 ⟨some 1,.move (V 0),0,none,[]⟩,
 ⟨some 2,.indexAddr N.za (T 1) (.const (.int .i64 2)),0,none,[]⟩,
 ⟨some 3,.load N.zh (T 2),0,none,[]⟩,
 ⟨some 4,.binOp .and N.zh (T 3) (.const (.int .u8 127)) N.zh,0,none,[]⟩,
 ⟨some 5,.convert N.zh N.zc (T 4),0,none,[]⟩,
 ⟨some 6,.binOp .shl N.zc (T 5) (.const (.int .u64 14)) N.zcq,0,none,[]⟩,
 ⟨some 7,.binOp .or N.zc (T 0) (T 6) N.zc,0,none,[]⟩,
 ⟨some (3+100),.assign (T 7),0,none,[]⟩]) (
 .seq (
 .seq (
 .ops [
 ⟨some 0,.move (V 0),0,none,[]⟩,
 ⟨some 1,.indexAddr N.za (T 0) (.const (.int .i64 2)),0,none,[]⟩,
 ⟨some 2,.load N.zh (T 1),0,none,[]⟩,
 ⟨some 3,.binOp .and N.zh (T 2) (.const (.int .u8 128)) N.zh,0,none,[]⟩,
 ⟨some (10+100),.binOp .eql N.zh (T 3) (.const (.int .u8 0)) N.zh,0,none,[]⟩]) (
 .cond 10 (
 .seq (
 .ops [
 ⟨some 0,.move (V 3),0,none,[]⟩,
 ⟨some (1+100),.assign (T 0),0,none,[]⟩,
 ⟨some (2+100),.assign (.const (.int .i64 3)),0,none,[]⟩]) (
 .ret)) (
 .seq (
 .ops [
 ⟨some 0,.move (V 0),0,none,[]⟩,
 ⟨some 1,.call ⟨.builtin .len,#[T 0],#[N.za]⟩,N.ze,none,[]⟩,
 ⟨some (11+100),.binOp .lss N.ze (T 1) (.const (.int .i64 4)) N.ze,0,none,[]⟩]) (
 .cond 11 (
 .goto 0) (
 .skip))))) (
 .seq (
 .ops [
 ⟨some 0,.move (V 3),0,none,[]⟩,
 ⟨some 1,.move (V 0),0,none,[]⟩,
 ⟨some 2,.indexAddr N.za (T 1) (.const (.int .i64 3)),0,none,[]⟩,
 ⟨some 3,.load N.zh (T 2),0,none,[]⟩,
 ⟨some 4,.binOp .and N.zh (T 3) (.const (.int .u8 127)) N.zh,0,none,[]⟩,
 ⟨some 5,.convert N.zh N.zc (T 4),0,none,[]⟩,
 ⟨some 6,.binOp .shl N.zc (T 5) (.const (.int .u64 21)) N.zcq,0,none,[]⟩,
 ⟨some 7,.binOp .or N.zc (T 0) (T 6) N.zc,0,none,[]⟩,
 ⟨some (3+100),.assign (T 7),0,none,[]⟩]) (
 .seq (
 .seq (
 .ops [
 ⟨some 0,.move (V 0),0,none,[]⟩,
 ⟨some 1,.indexAddr N.za (T 0) (.const (.int .i64 3)),0,none,[]⟩,
 ⟨some 2,.load N.zh (T 1),0,none,[]⟩,
 ⟨some 3,.binOp .and N.zh (T 2) (.const (.int .u8 128)) N.zh,0,none,[]⟩,
 ⟨some (12+100),.binOp .eql N.zh (T 3) (.const (.int .u8 0)) N.zh,0,none,[]⟩]) (
 .cond 12 (
 .seq (
 .ops [
 ⟨some 0,.move (V 3),0,none,[]⟩,
 ⟨some (1+100),.assign (T 0),0,none,[]⟩,
 ⟨some (2+100),.assign (.const (.int .i64 4)),0,none,[]⟩]) (
 .ret)) (
 .seq (
 .ops [
 ⟨some 0,.move (V 0),0,none,[]⟩,
 ⟨some 1,.call ⟨.builtin .len,#[T 0],#[N.za]⟩,N.ze,none,[]⟩,
 ⟨some (13+100),.binOp .lss N.ze (T 1) (.const (.int .i64 5)) N.ze,0,none,[]⟩]) (
 .cond 13 (
 .goto 0) (
 .skip))))) (
 .seq (
 .ops [
 ⟨some 0,.move (V 3),0,none,[]⟩,
 ⟨some 1,.move (V 0),0,none,[]⟩,
 ⟨some 2,.indexAddr N.za (T 1) (.const (.int .i64 4)),0,none,[]⟩,
 ⟨some 3,.load N.zh (T 2),0,none,[]⟩,
 ⟨some 4,.convert N.zh N.zc (T 3),0,none,[]⟩,
 ⟨some 5,.binOp .shl N.zc (T 4) (.const (.int .u64 28)) N.zcq,0,none,[]⟩,
 ⟨some 6,.binOp .or N.zc (T 0) (T 5) N.zc,0,none,[]⟩,
 ⟨some (3+100),.assign (T 6),0,none,[]⟩]) (
 .seq (
 .seq (
 .ops [
 ⟨some 0,.move (V 0),0,none,[]⟩,
 ⟨some 1,.indexAddr N.za (T 0) (.const (.int .i64 4)),0,none,[]⟩,
 ⟨some 2,.load N.zh (T 1),0,none,[]⟩,
 ⟨some (14+100),.binOp .leq N.zh (T 2) (.const (.int .u8 15)) N.zh,0,none,[]⟩]) (
 .cond 14 (
 .seq (
 .ops [
 ⟨some 0,.move (V 3),0,none,[]⟩,
 ⟨some (1+100),.assign (T 0),0,none,[]⟩,
 ⟨some (2+100),.assign (.const (.int .i64 5)),0,none,[]⟩]) (
 .ret)) (
 .skip))) (
 .seq (
 .ops [
 ⟨some (4+100),.assign (.const (.int .i64 (-5))),0,none,[]⟩]) (
 .seq (
 .label 0) (
 .seq (
 .ops [
 ⟨some 0,.move (V 4),0,none,[]⟩,
 ⟨some (1+100),.assign (.const (.int .u32 0)),0,none,[]⟩,
 ⟨some (2+100),.assign (T 0),0,none,[]⟩]) (
 .ret))))))))))))))))))
def zvp (N:Nums):C:=
 .seq (
 .ops [
 ⟨some (1+100),.assign (.const (.bool false)),0,none,[]⟩]) (
 .seq (
 .seq (
 .ops [
 ⟨some 0,.move (V 0),0,none,[]⟩,
 ⟨some 1,.nilCheck (T 0),0,none,[]⟩,
 ⟨some 2,.fieldAddr N.zv (T 1) 0,0,none,[]⟩,
 ⟨some 3,.load N.za (T 2),0,none,[]⟩,
 ⟨some 4,.call ⟨.builtin .len,#[T 3],#[N.za]⟩,N.ze,none,[]⟩,
 ⟨some (2+100),.binOp .lss N.ze (T 4) (.const (.int .i64 1)) N.ze,0,none,[]⟩]) (
 .cond 2 (
 .seq (
 .ops [
 ⟨some 0,.move (V 0),0,none,[]⟩,
 ⟨some 1,.nilCheck (T 0),0,none,[]⟩,
 ⟨some 2,.fieldAddr N.zv (T 1) 1,0,none,[]⟩,
 ⟨none,.store N.zay (T 2) (.const (.bool true)),0,none,[]⟩]) (
 .seq (
 .ops [
 ⟨some 0,.move (V 0),0,none,[]⟩,
 ⟨some 1,.nilCheck (T 0),0,none,[]⟩,
 ⟨some 2,.fieldAddr N.zv (T 1) 0,0,none,[]⟩,
 ⟨none,.store N.za (T 2) (.const (.slice none 0 0)),0,none,[]⟩]) (
 .seq (
 .ops [
 ⟨some (1+100),.assign (.const (.bool false)),0,none,[]⟩]) (
 .ret)))) (
 .skip))) (
 .seq (
 .ops [
 ⟨some 0,.move (V 0),0,none,[]⟩,
 ⟨some 1,.nilCheck (T 0),0,none,[]⟩,
 ⟨some 2,.fieldAddr N.zv (T 1) 0,0,none,[]⟩,
 ⟨some 3,.load N.za (T 2),0,none,[]⟩,
 ⟨some 4,.indexAddr N.za (T 3) (.const (.int .i64 0)),0,none,[]⟩,
 ⟨some 5,.load N.zh (T 4),0,none,[]⟩,
 ⟨some 6,.binOp .neq N.zh (T 5) (.const (.int .u8 0)) N.zh,0,none,[]⟩,
 ⟨some (3+100),.assign (T 6),0,none,[]⟩]) (
 .seq (
 .ops [
 ⟨some 0,.move (V 0),0,none,[]⟩,
 ⟨some 1,.move (V 0),0,none,[]⟩,
 ⟨some 2,.nilCheck (T 1),0,none,[]⟩,
 ⟨some 3,.fieldAddr N.zv (T 2) 0,0,none,[]⟩,
 ⟨some 4,.load N.za (T 3),0,none,[]⟩,
 ⟨some 5,.slice N.za (T 4) (some (.const (.int .i64 1))) none none,0,none,[]⟩,
 ⟨some 6,.nilCheck (T 0),0,none,[]⟩,
 ⟨some 7,.fieldAddr N.zv (T 6) 0,0,none,[]⟩,
 ⟨none,.store N.za (T 7) (T 5),0,none,[]⟩]) (
 .seq (
 .ops [
 ⟨some 0,.move (V 3),0,none,[]⟩,
 ⟨some (1+100),.assign (T 0),0,none,[]⟩]) (
 .ret)))))
def zvo (N:Nums):C:=
 .seq (
 .ops [
 ⟨some (1+100),.assign (.const (.int .i8 0)),0,none,[]⟩]) (
 .seq (
 .seq (
 .ops [
 ⟨some 0,.move (V 0),0,none,[]⟩,
 ⟨some 1,.nilCheck (T 0),0,none,[]⟩,
 ⟨some 2,.fieldAddr N.zv (T 1) 0,0,none,[]⟩,
 ⟨some 3,.load N.za (T 2),0,none,[]⟩,
 ⟨some 4,.call ⟨.builtin .len,#[T 3],#[N.za]⟩,N.ze,none,[]⟩,
 ⟨some (2+100),.binOp .lss N.ze (T 4) (.const (.int .i64 1)) N.ze,0,none,[]⟩]) (
 .cond 2 (
 .seq (
 .ops [
 ⟨some 0,.move (V 0),0,none,[]⟩,
 ⟨some 1,.nilCheck (T 0),0,none,[]⟩,
 ⟨some 2,.fieldAddr N.zv (T 1) 1,0,none,[]⟩,
 ⟨none,.store N.zay (T 2) (.const (.bool true)),0,none,[]⟩]) (
 .seq (
 .ops [
 ⟨some 0,.move (V 0),0,none,[]⟩,
 ⟨some 1,.nilCheck (T 0),0,none,[]⟩,
 ⟨some 2,.fieldAddr N.zv (T 1) 0,0,none,[]⟩,
 ⟨none,.store N.za (T 2) (.const (.slice none 0 0)),0,none,[]⟩]) (
 .seq (
 .ops [
 ⟨some (1+100),.assign (.const (.int .i8 0)),0,none,[]⟩]) (
 .ret)))) (
 .skip))) (
 .seq (
 .ops [
 ⟨some 0,.move (V 0),0,none,[]⟩,
 ⟨some 1,.nilCheck (T 0),0,none,[]⟩,
 ⟨some 2,.fieldAddr N.zv (T 1) 0,0,none,[]⟩,
 ⟨some 3,.load N.za (T 2),0,none,[]⟩,
 ⟨some 4,.indexAddr N.za (T 3) (.const (.int .i64 0)),0,none,[]⟩,
 ⟨some 5,.load N.zh (T 4),0,none,[]⟩,
 ⟨some (3+100),.assign (T 5),0,none,[]⟩]) (
 .seq (
 .ops [
 ⟨some 0,.move (V 0),0,none,[]⟩,
 ⟨some 1,.move (V 0),0,none,[]⟩,
 ⟨some 2,.nilCheck (T 1),0,none,[]⟩,
 ⟨some 3,.fieldAddr N.zv (T 2) 0,0,none,[]⟩,
 ⟨some 4,.load N.za (T 3),0,none,[]⟩,
 ⟨some 5,.slice N.za (T 4) (some (.const (.int .i64 1))) none none,0,none,[]⟩,
 ⟨some 6,.nilCheck (T 0),0,none,[]⟩,
 ⟨some 7,.fieldAddr N.zv (T 6) 0,0,none,[]⟩,
 ⟨none,.store N.za (T 7) (T 5),0,none,[]⟩]) (
 .seq (
 .ops [
 ⟨some 0,.move (V 3),0,none,[]⟩,
 ⟨some 1,.convert N.zh N.zjd (T 0),0,none,[]⟩,
 ⟨some (1+100),.assign (T 1),0,none,[]⟩]) (
 .ret)))))
def zsq (N:Nums):C:=
 .seq (
 .ops [
 ⟨some (1+100),.assign (.const (.int .u16 0)),0,none,[]⟩]) (
 .seq (
 .seq (
 .ops [
 ⟨some 0,.move (V 0),0,none,[]⟩,
 ⟨some 1,.nilCheck (T 0),0,none,[]⟩,
 ⟨some 2,.fieldAddr N.zv (T 1) 0,0,none,[]⟩,
 ⟨some 3,.load N.za (T 2),0,none,[]⟩,
 ⟨some 4,.call ⟨.builtin .len,#[T 3],#[N.za]⟩,N.ze,none,[]⟩,
 ⟨some (2+100),.binOp .lss N.ze (T 4) (.const (.int .i64 2)) N.ze,0,none,[]⟩]) (
 .cond 2 (
 .seq (
 .ops [
 ⟨some 0,.move (V 0),0,none,[]⟩,
 ⟨some 1,.nilCheck (T 0),0,none,[]⟩,
 ⟨some 2,.fieldAddr N.zv (T 1) 1,0,none,[]⟩,
 ⟨none,.store N.zay (T 2) (.const (.bool true)),0,none,[]⟩]) (
 .seq (
 .ops [
 ⟨some 0,.move (V 0),0,none,[]⟩,
 ⟨some 1,.nilCheck (T 0),0,none,[]⟩,
 ⟨some 2,.fieldAddr N.zv (T 1) 0,0,none,[]⟩,
 ⟨none,.store N.za (T 2) (.const (.slice none 0 0)),0,none,[]⟩]) (
 .seq (
 .ops [
 ⟨some (1+100),.assign (.const (.int .u16 0)),0,none,[]⟩]) (
 .ret)))) (
 .skip))) (
 .seq (
 .draw [
 ⟨some 0,.load N.zbt (.global N.zfr),0,none,[]⟩,
 ⟨some 1,.move (V 0),0,none,[]⟩,
 ⟨some 2,.nilCheck (T 1),0,none,[1]⟩,
 ⟨some 3,.fieldAddr N.zv (T 2) 0,0,none,[2]⟩,
 ⟨some 4,.load N.za (T 3),0,none,[3]⟩,
 ⟨some 5,.call ⟨.value (.func N.zdn),#[T 0,T 4],#[N.zbt,N.za]⟩,N.zfj,none,[0,4]⟩,
 ⟨some (3+100),.assign (T 5),0,none,[5,5,0,1,2,3,4,5]⟩]) (
 .seq (
 .ops [
 ⟨some 0,.move (V 0),0,none,[]⟩,
 ⟨some 1,.move (V 0),0,none,[]⟩,
 ⟨some 2,.nilCheck (T 1),0,none,[]⟩,
 ⟨some 3,.fieldAddr N.zv (T 2) 0,0,none,[]⟩,
 ⟨some 4,.load N.za (T 3),0,none,[]⟩,
 ⟨some 5,.slice N.za (T 4) (some (.const (.int .i64 2))) none none,0,none,[]⟩,
 ⟨some 6,.nilCheck (T 0),0,none,[]⟩,
 ⟨some 7,.fieldAddr N.zv (T 6) 0,0,none,[]⟩,
 ⟨none,.store N.za (T 7) (T 5),0,none,[]⟩]) (
 .seq (
 .ops [
 ⟨some 0,.move (V 3),0,none,[]⟩,
 ⟨some (1+100),.assign (T 0),0,none,[]⟩]) (
 .ret)))))
def zuv (N:Nums):C:=
 .seq (
 .ops [
 ⟨some (1+100),.assign (.const (.int .i16 0)),0,none,[]⟩]) (
 .seq (
 .seq (
 .ops [
 ⟨some 0,.move (V 0),0,none,[]⟩,
 ⟨some 1,.nilCheck (T 0),0,none,[]⟩,
 ⟨some 2,.fieldAddr N.zv (T 1) 0,0,none,[]⟩,
 ⟨some 3,.load N.za (T 2),0,none,[]⟩,
 ⟨some 4,.call ⟨.builtin .len,#[T 3],#[N.za]⟩,N.ze,none,[]⟩,
 ⟨some (2+100),.binOp .lss N.ze (T 4) (.const (.int .i64 2)) N.ze,0,none,[]⟩]) (
 .cond 2 (
 .seq (
 .ops [
 ⟨some 0,.move (V 0),0,none,[]⟩,
 ⟨some 1,.nilCheck (T 0),0,none,[]⟩,
 ⟨some 2,.fieldAddr N.zv (T 1) 1,0,none,[]⟩,
 ⟨none,.store N.zay (T 2) (.const (.bool true)),0,none,[]⟩]) (
 .seq (
 .ops [
 ⟨some 0,.move (V 0),0,none,[]⟩,
 ⟨some 1,.nilCheck (T 0),0,none,[]⟩,
 ⟨some 2,.fieldAddr N.zv (T 1) 0,0,none,[]⟩,
 ⟨none,.store N.za (T 2) (.const (.slice none 0 0)),0,none,[]⟩]) (
 .seq (
 .ops [
 ⟨some (1+100),.assign (.const (.int .i16 0)),0,none,[]⟩]) (
 .ret)))) (
 .skip))) (
 .seq (
 .draw [
 ⟨some 0,.load N.zbt (.global N.zfr),0,none,[]⟩,
 ⟨some 1,.move (V 0),0,none,[]⟩,
 ⟨some 2,.nilCheck (T 1),0,none,[1]⟩,
 ⟨some 3,.fieldAddr N.zv (T 2) 0,0,none,[2]⟩,
 ⟨some 4,.load N.za (T 3),0,none,[3]⟩,
 ⟨some 5,.call ⟨.value (.func N.zdn),#[T 0,T 4],#[N.zbt,N.za]⟩,N.zfj,none,[0,4]⟩,
 ⟨some 6,.convert N.zfj N.zbf (T 5),0,none,[5]⟩,
 ⟨some (3+100),.assign (T 6),0,none,[6,5,0,1,2,3,4,5,6]⟩]) (
 .seq (
 .ops [
 ⟨some 0,.move (V 0),0,none,[]⟩,
 ⟨some 1,.move (V 0),0,none,[]⟩,
 ⟨some 2,.nilCheck (T 1),0,none,[]⟩,
 ⟨some 3,.fieldAddr N.zv (T 2) 0,0,none,[]⟩,
 ⟨some 4,.load N.za (T 3),0,none,[]⟩,
 ⟨some 5,.slice N.za (T 4) (some (.const (.int .i64 2))) none none,0,none,[]⟩,
 ⟨some 6,.nilCheck (T 0),0,none,[]⟩,
 ⟨some 7,.fieldAddr N.zv (T 6) 0,0,none,[]⟩,
 ⟨none,.store N.za (T 7) (T 5),0,none,[]⟩]) (
 .seq (
 .ops [
 ⟨some 0,.move (V 3),0,none,[]⟩,
 ⟨some (1+100),.assign (T 0),0,none,[]⟩]) (
 .ret)))))
def zuu (N:Nums):C:=
 .seq (
 .ops [
 ⟨some (1+100),.assign (.const (.int .i32 0)),0,none,[]⟩]) (
 .seq (
 .seq (
 .ops [
 ⟨some 0,.move (V 0),0,none,[]⟩,
 ⟨some 1,.nilCheck (T 0),0,none,[]⟩,
 ⟨some 2,.fieldAddr N.zv (T 1) 0,0,none,[]⟩,
 ⟨some 3,.load N.za (T 2),0,none,[]⟩,
 ⟨some 4,.call ⟨.builtin .len,#[T 3],#[N.za]⟩,N.ze,none,[]⟩,
 ⟨some (2+100),.binOp .lss N.ze (T 4) (.const (.int .i64 4)) N.ze,0,none,[]⟩]) (
 .cond 2 (
 .seq (
 .ops [
 ⟨some 0,.move (V 0),0,none,[]⟩,
 ⟨some 1,.nilCheck (T 0),0,none,[]⟩,
 ⟨some 2,.fieldAddr N.zv (T 1) 1,0,none,[]⟩,
 ⟨none,.store N.zay (T 2) (.const (.bool true)),0,none,[]⟩]) (
 .seq (
 .ops [
 ⟨some 0,.move (V 0),0,none,[]⟩,
 ⟨some 1,.nilCheck (T 0),0,none,[]⟩,
 ⟨some 2,.fieldAddr N.zv (T 1) 0,0,none,[]⟩,
 ⟨none,.store N.za (T 2) (.const (.slice none 0 0)),0,none,[]⟩]) (
 .seq (
 .ops [
 ⟨some (1+100),.assign (.const (.int .i32 0)),0,none,[]⟩]) (
 .ret)))) (
 .skip))) (
 .seq (
 .draw [
 ⟨some 0,.load N.zbt (.global N.zfr),0,none,[]⟩,
 ⟨some 1,.move (V 0),0,none,[]⟩,
 ⟨some 2,.nilCheck (T 1),0,none,[1]⟩,
 ⟨some 3,.fieldAddr N.zv (T 2) 0,0,none,[2]⟩,
 ⟨some 4,.load N.za (T 3),0,none,[3]⟩,
 ⟨some 5,.call ⟨.value (.func N.zek),#[T 0,T 4],#[N.zbt,N.za]⟩,N.zc,none,[0,4]⟩,
 ⟨some 6,.convert N.zc N.zbr (T 5),0,none,[5]⟩,
 ⟨some (3+100),.assign (T 6),0,none,[6,5,0,1,2,3,4,5,6]⟩]) (
 .seq (
 .ops [
 ⟨some 0,.move (V 0),0,none,[]⟩,
 ⟨some 1,.move (V 0),0,none,[]⟩,
 ⟨some 2,.nilCheck (T 1),0,none,[]⟩,
 ⟨some 3,.fieldAddr N.zv (T 2) 0,0,none,[]⟩,
 ⟨some 4,.load N.za (T 3),0,none,[]⟩,
 ⟨some 5,.slice N.za (T 4) (some (.const (.int .i64 4))) none none,0,none,[]⟩,
 ⟨some 6,.nilCheck (T 0),0,none,[]⟩,
 ⟨some 7,.fieldAddr N.zv (T 6) 0,0,none,[]⟩,
 ⟨none,.store N.za (T 7) (T 5),0,none,[]⟩]) (
 .seq (
 .ops [
 ⟨some 0,.move (V 3),0,none,[]⟩,
 ⟨some (1+100),.assign (T 0),0,none,[]⟩]) (
 .ret)))))
def zoy (N:Nums):C:=
 .seq (
 .ops [
 ⟨some (1+100),.assign (.const (.int .u64 0)),0,none,[]⟩]) (
 .seq (
 .seq (
 .ops [
 ⟨some 0,.move (V 0),0,none,[]⟩,
 ⟨some 1,.nilCheck (T 0),0,none,[]⟩,
 ⟨some 2,.fieldAddr N.zv (T 1) 0,0,none,[]⟩,
 ⟨some 3,.load N.za (T 2),0,none,[]⟩,
 ⟨some 4,.call ⟨.builtin .len,#[T 3],#[N.za]⟩,N.ze,none,[]⟩,
 ⟨some (2+100),.binOp .lss N.ze (T 4) (.const (.int .i64 8)) N.ze,0,none,[]⟩]) (
 .cond 2 (
 .seq (
 .ops [
 ⟨some 0,.move (V 0),0,none,[]⟩,
 ⟨some 1,.nilCheck (T 0),0,none,[]⟩,
 ⟨some 2,.fieldAddr N.zv (T 1) 1,0,none,[]⟩,
 ⟨none,.store N.zay (T 2) (.const (.bool true)),0,none,[]⟩]) (
 .seq (
 .ops [
 ⟨some 0,.move (V 0),0,none,[]⟩,
 ⟨some 1,.nilCheck (T 0),0,none,[]⟩,
 ⟨some 2,.fieldAddr N.zv (T 1) 0,0,none,[]⟩,
 ⟨none,.store N.za (T 2) (.const (.slice none 0 0)),0,none,[]⟩]) (
 .seq (
 .ops [
 ⟨some (1+100),.assign (.const (.int .u64 0)),0,none,[]⟩]) (
 .ret)))) (
 .skip))) (
 .seq (
 .draw [
 ⟨some 0,.load N.zbt (.global N.zfr),0,none,[]⟩,
 ⟨some 1,.move (V 0),0,none,[]⟩,
 ⟨some 2,.nilCheck (T 1),0,none,[1]⟩,
 ⟨some 3,.fieldAddr N.zv (T 2) 0,0,none,[2]⟩,
 ⟨some 4,.load N.za (T 3),0,none,[3]⟩,
 ⟨some 5,.call ⟨.value (.func N.zej),#[T 0,T 4],#[N.zbt,N.za]⟩,N.zaj,none,[0,4]⟩,
 ⟨some (3+100),.assign (T 5),0,none,[5,5,0,1,2,3,4,5]⟩]) (
 .seq (
 .ops [
 ⟨some 0,.move (V 0),0,none,[]⟩,
 ⟨some 1,.move (V 0),0,none,[]⟩,
 ⟨some 2,.nilCheck (T 1),0,none,[]⟩,
 ⟨some 3,.fieldAddr N.zv (T 2) 0,0,none,[]⟩,
 ⟨some 4,.load N.za (T 3),0,none,[]⟩,
 ⟨some 5,.slice N.za (T 4) (some (.const (.int .i64 8))) none none,0,none,[]⟩,
 ⟨some 6,.nilCheck (T 0),0,none,[]⟩,
 ⟨some 7,.fieldAddr N.zv (T 6) 0,0,none,[]⟩,
 ⟨none,.store N.za (T 7) (T 5),0,none,[]⟩]) (
 .seq (
 .ops [
 ⟨some 0,.move (V 3),0,none,[]⟩,
 ⟨some (1+100),.assign (T 0),0,none,[]⟩]) (
 .ret)))))
def znw (N:Nums):C:=
 .seq (
 .ops [
 ⟨some (1+100),.assign (.const (.int .i64 0)),0,none,[]⟩]) (
 .seq (
 .ops [
 ⟨some 0,.move (V 0),0,none,[]⟩,
 ⟨some 1,.call ⟨.value (.func N.zdw),#[T 0],#[N.zbk]⟩,N.zaj,none,[]⟩,
 ⟨some 2,.convert N.zaj N.zcv (T 1),0,none,[]⟩,
 ⟨some (1+100),.assign (T 2),0,none,[]⟩]) (
 .ret))
def zpi (N:Nums):C:=
 .seq (
 .ops [
 ⟨some (1+100),.alloc N.zaq,0,none,[]⟩]) (
 .seq (
 .ops [
 ⟨some (2+100),.alloc N.zaq,0,none,[]⟩]) (
 .seq (
 .draw [
 ⟨some 0,.slice N.zaq (V 2) none none none,0,none,[]⟩,
 ⟨some 1,.move (V 0),0,none,[]⟩,
 ⟨some 2,.call ⟨.value (.func N.zu),#[(T 1),(.const (.int .i64 16))],#[N.zbk,N.ze]⟩,N.za,none,[1]⟩,
 ⟨some 3,.call ⟨.builtin .copy,#[T 0,T 2],#[N.za,N.za]⟩,N.ze,none,[0,2,2]⟩]) (
 .seq (
 .ops [
 ⟨some 0,.load N.zaq (V 2),0,none,[]⟩,
 ⟨none,.store N.zaq (V 1) (T 0),0,none,[]⟩]) (
 .ret))))
def zlz (N:Nums):C:=
 .seq (
 .ops [
 ⟨some (1+100),.assign (.const (.int .u32 0)),0,none,[]⟩]) (
 .seq (
 .ops [
 ⟨some 1,.move (V 0),0,none,[]⟩,
 ⟨some 2,.nilCheck (T 1),0,none,[]⟩,
 ⟨some 3,.fieldAddr N.zv (T 2) 0,0,none,[]⟩,
 ⟨some 4,.load N.za (T 3),0,none,[]⟩,
 ⟨some 5,.call ⟨.value (.func N.zlx),#[T 4],#[N.za]⟩,N.zyw,none,[]⟩,
 ⟨some 0,.move (T 5),0,none,[]⟩,
 ⟨some 6,.extract (T 0) 0,0,none,[]⟩,
 ⟨some 7,.extract (T 0) 1,0,none,[]⟩,
 ⟨some (2+100),.assign (T 6),0,none,[]⟩,
 ⟨some (3+100),.assign (T 7),0,none,[]⟩]) (
 .seq (
 .seq (
 .ops [
 ⟨some 0,.move (V 3),0,none,[]⟩,
 ⟨some (4+100),.binOp .leq N.ze (T 0) (.const (.int .i64 0)) N.ze,0,none,[]⟩]) (
 .cond 4 (
 .seq (
 .ops [
 ⟨some 0,.move (V 0),0,none,[]⟩,
 ⟨some 1,.nilCheck (T 0),0,none,[]⟩,
 ⟨some 2,.fieldAddr N.zv (T 1) 1,0,none,[]⟩,
 ⟨none,.store N.zay (T 2) (.const (.bool true)),0,none,[]⟩]) (
 .seq (
 .ops [
 ⟨some 0,.move (V 0),0,none,[]⟩,
 ⟨some 1,.nilCheck (T 0),0,none,[]⟩,
 ⟨some 2,.fieldAddr N.zv (T 1) 0,0,none,[]⟩,
 ⟨none,.store N.za (T 2) (.const (.slice none 0 0)),0,none,[]⟩]) (
 .seq (
 .ops [
 ⟨some (1+100),.assign (.const (.int .u32 0)),0,none,[]⟩]) (
 .ret)))) (
 .skip))) (
 .seq (
 .ops [
 ⟨some 0,.move (V 0),0,none,[]⟩,
 ⟨some 1,.move (V 0),0,none,[]⟩,
 ⟨some 2,.nilCheck (T 1),0,none,[]⟩,
 ⟨some 3,.fieldAddr N.zv (T 2) 0,0,none,[]⟩,
 ⟨some 4,.load N.za (T 3),0,none,[]⟩,
 ⟨some 5,.move (V 3),0,none,[]⟩,
 ⟨some 6,.slice N.za (T 4) (some (T 5)) none none,0,none,[]⟩,
 ⟨some 7,.nilCheck (T 0),0,none,[]⟩,
 ⟨some 8,.fieldAddr N.zv (T 7) 0,0,none,[]⟩,
 ⟨none,.store N.za (T 8) (T 6),0,none,[]⟩]) (
 .seq (
 .ops [
 ⟨some 0,.move (V 2),0,none,[]⟩,
 ⟨some (1+100),.assign (T 0),0,none,[]⟩]) (
 .ret)))))
def zpj (N:Nums):C:=
 .seq (
 .ops [
 ⟨some (2+100),.assign (.const (.slice none 0 0)),0,none,[]⟩]) (
 .seq (
 .seq (
 .ops [
 ⟨some 0,.move (V 0),0,none,[]⟩,
 ⟨some 1,.nilCheck (T 0),0,none,[]⟩,
 ⟨some 2,.fieldAddr N.zv (T 1) 0,0,none,[]⟩,
 ⟨some 3,.load N.za (T 2),0,none,[]⟩,
 ⟨some 4,.call ⟨.builtin .len,#[T 3],#[N.za]⟩,N.ze,none,[]⟩,
 ⟨some 5,.move (V 1),0,none,[]⟩,
 ⟨some 6,.binOp .lss N.ze (T 4) (T 5) N.ze,0,none,[]⟩,
 ⟨some 7,.move (T 6),0,none,[]⟩,
 ⟨some 8,.move (V 1),0,(some (some 7,false)),[]⟩,
 ⟨some 9,.binOp .lss N.ze (T 8) (.const (.int .i64 0)) N.ze,0,(some (some 7,false)),[]⟩,
 ⟨some (3+100),.pick (T 7) (.const (.bool true)) (T 9),0,none,[]⟩]) (
 .cond 3 (
 .seq (
 .ops [
 ⟨some 0,.move (V 0),0,none,[]⟩,
 ⟨some 1,.nilCheck (T 0),0,none,[]⟩,
 ⟨some 2,.fieldAddr N.zv (T 1) 1,0,none,[]⟩,
 ⟨none,.store N.zay (T 2) (.const (.bool true)),0,none,[]⟩]) (
 .seq (
 .ops [
 ⟨some 0,.move (V 0),0,none,[]⟩,
 ⟨some 1,.nilCheck (T 0),0,none,[]⟩,
 ⟨some 2,.fieldAddr N.zv (T 1) 0,0,none,[]⟩,
 ⟨none,.store N.za (T 2) (.const (.slice none 0 0)),0,none,[]⟩]) (
 .seq (
 .ops [
 ⟨some (2+100),.assign (.const (.slice none 0 0)),0,none,[]⟩]) (
 .ret)))) (
 .skip))) (
 .seq (
 .ops [
 ⟨some 0,.move (V 0),0,none,[]⟩,
 ⟨some 1,.nilCheck (T 0),0,none,[]⟩,
 ⟨some 2,.fieldAddr N.zv (T 1) 0,0,none,[]⟩,
 ⟨some 3,.load N.za (T 2),0,none,[]⟩,
 ⟨some 4,.move (V 1),0,none,[]⟩,
 ⟨some 5,.move (V 1),0,none,[]⟩,
 ⟨some 6,.slice N.za (T 3) none (some (T 4)) (some (T 5)),0,none,[]⟩,
 ⟨some (4+100),.assign (T 6),0,none,[]⟩]) (
 .seq (
 .ops [
 ⟨some 0,.move (V 0),0,none,[]⟩,
 ⟨some 1,.move (V 0),0,none,[]⟩,
 ⟨some 2,.nilCheck (T 1),0,none,[]⟩,
 ⟨some 3,.fieldAddr N.zv (T 2) 0,0,none,[]⟩,
 ⟨some 4,.load N.za (T 3),0,none,[]⟩,
 ⟨some 5,.move (V 1),0,none,[]⟩,
 ⟨some 6,.slice N.za (T 4) (some (T 5)) none none,0,none,[]⟩,
 ⟨some 7,.nilCheck (T 0),0,none,[]⟩,
 ⟨some 8,.fieldAddr N.zv (T 7) 0,0,none,[]⟩,
 ⟨none,.store N.za (T 8) (T 6),0,none,[]⟩]) (
 .seq (
 .ops [
 ⟨some 0,.move (V 4),0,none,[]⟩,
 ⟨some (2+100),.assign (T 0),0,none,[]⟩]) (
 .ret)))))
def zmx (N:Nums):C:=
 .seq (
 .ops [
 ⟨some (1+100),.assign (.const (.string ⟨#[]⟩)),0,none,[]⟩]) (
 .seq (
 .ops [
 ⟨some 0,.move (V 0),0,none,[]⟩,
 ⟨some 1,.call ⟨.value (.func N.zbm),#[T 0],#[N.zbk]⟩,N.zbf,none,[]⟩,
 ⟨some (2+100),.assign (T 1),0,none,[]⟩]) (
 .seq (
 .ops [
 ⟨some 0,.move (V 0),0,none,[]⟩,
 ⟨some 1,.move (V 2),0,none,[]⟩,
 ⟨some 2,.convert N.zbf N.ze (T 1),0,none,[]⟩,
 ⟨some 3,.call ⟨.value (.func N.zu),#[T 0,T 2],#[N.zbk,N.ze]⟩,N.za,none,[]⟩,
 ⟨some 4,.convert N.za N.zac (T 3),0,none,[]⟩,
 ⟨some (1+100),.assign (T 4),0,none,[]⟩]) (
 .ret)))
def zio (N:Nums):C:=
 .seq (
 .ops [
 ⟨some (1+100),.assign (.const (.string ⟨#[]⟩)),0,none,[]⟩]) (
 .seq (
 .ops [
 ⟨some 0,.move (V 0),0,none,[]⟩,
 ⟨some 1,.call ⟨.value (.func N.zbm),#[T 0],#[N.zbk]⟩,N.zbf,none,[]⟩,
 ⟨some (2+100),.assign (T 1),0,none,[]⟩]) (
 .seq (
 .ops [
 ⟨some 0,.move (V 0),0,none,[]⟩,
 ⟨some 1,.move (V 2),0,none,[]⟩,
 ⟨some 2,.convert N.zbf N.ze (T 1),0,none,[]⟩,
 ⟨some 3,.call ⟨.value (.func N.zu),#[T 0,T 2],#[N.zbk,N.ze]⟩,N.za,none,[]⟩,
 ⟨some 4,.call ⟨.value (.func N.zdi),#[T 3],#[N.za]⟩,N.zac,none,[]⟩,
 ⟨some (1+100),.assign (T 4),0,none,[]⟩]) (
 .ret)))
def zig (N:Nums):C:=
 .seq (
 .ops [
 ⟨some (1+100),.assign (.const (.string ⟨#[]⟩)),0,none,[]⟩]) (
 .seq (
 .ops [
 ⟨some 0,.move (V 0),0,none,[]⟩,
 ⟨some 1,.call ⟨.value (.func N.zq),#[T 0],#[N.zbk]⟩,N.zc,none,[]⟩,
 ⟨some 2,.convert N.zc N.ze (T 1),0,none,[]⟩,
 ⟨some 3,.binOp .sub N.ze (T 2) (.const (.int .i64 1)) N.ze,0,none,[]⟩,
 ⟨some (2+100),.assign (T 3),0,none,[]⟩]) (
 .seq (
 .ops [
 ⟨some 0,.move (V 0),0,none,[]⟩,
 ⟨some 1,.move (V 2),0,none,[]⟩,
 ⟨some 2,.call ⟨.value (.func N.zu),#[T 0,T 1],#[N.zbk,N.ze]⟩,N.za,none,[]⟩,
 ⟨some 3,.convert N.za N.zac (T 2),0,none,[]⟩,
 ⟨some (1+100),.assign (T 3),0,none,[]⟩]) (
 .ret)))
def zfz (N:Nums):C:=
 .seq (
 .ops [
 ⟨some (1+100),.assign (.const (.string ⟨#[]⟩)),0,none,[]⟩]) (
 .seq (
 .ops [
 ⟨some 0,.move (V 0),0,none,[]⟩,
 ⟨some 1,.call ⟨.value (.func N.zq),#[T 0],#[N.zbk]⟩,N.zc,none,[]⟩,
 ⟨some 2,.convert N.zc N.ze (T 1),0,none,[]⟩,
 ⟨some 3,.binOp .sub N.ze (T 2) (.const (.int .i64 1)) N.ze,0,none,[]⟩,
 ⟨some (2+100),.assign (T 3),0,none,[]⟩]) (
 .seq (
 .ops [
 ⟨some 0,.move (V 0),0,none,[]⟩,
 ⟨some 1,.move (V 2),0,none,[]⟩,
 ⟨some 2,.call ⟨.value (.func N.zu),#[T 0,T 1],#[N.zbk,N.ze]⟩,N.za,none,[]⟩,
 ⟨some 3,.call ⟨.value (.func N.zdi),#[T 2],#[N.za]⟩,N.zac,none,[]⟩,
 ⟨some (1+100),.assign (T 3),0,none,[]⟩]) (
 .ret)))
def zhp (N:Nums):C:=
 .seq (
 .ops [
 ⟨some (1+100),.assign (.const (.pointer none)),0,none,[]⟩]) (
 .seq (
 .ops [
 ⟨some 0,.move (V 0),0,none,[]⟩,
 ⟨some 1,.call ⟨.value (.func N.zbm),#[T 0],#[N.zbk]⟩,N.zbf,none,[]⟩,
 ⟨some (2+100),.assign (T 1),0,none,[]⟩]) (
 .seq (
 .seq (
 .ops [
 ⟨some 0,.move (V 2),0,none,[]⟩,
 ⟨some (3+100),.binOp .lss N.zbf (T 0) (.const (.int .i16 0)) N.zbf,0,none,[]⟩]) (
 .cond 3 (
 .seq (
 .ops [
 ⟨some (1+100),.assign (.const (.pointer none)),0,none,[]⟩]) (
 .ret)) (
 .skip))) (
 .seq (
 .ops [
 ⟨some 0,.move (V 0),0,none,[]⟩,
 ⟨some 1,.move (V 2),0,none,[]⟩,
 ⟨some 2,.convert N.zbf N.ze (T 1),0,none,[]⟩,
 ⟨some 3,.call ⟨.value (.func N.zu),#[T 0,T 2],#[N.zbk,N.ze]⟩,N.za,none,[]⟩,
 ⟨some 4,.convert N.za N.zac (T 3),0,none,[]⟩,
 ⟨some (4+100),.alloc N.zac,0,none,[]⟩,
 ⟨none,.store N.zac (V 4) (T 4),0,none,[]⟩]) (
 .seq (
 .ops [
 ⟨some (1+100),.assign (V 4),0,none,[]⟩]) (
 .ret)))))
def zfn (N:Nums):C:=
 .seq (
 .ops [
 ⟨some (1+100),.assign (.const (.pointer none)),0,none,[]⟩]) (
 .seq (
 .ops [
 ⟨some 0,.move (V 0),0,none,[]⟩,
 ⟨some 1,.call ⟨.value (.func N.zbm),#[T 0],#[N.zbk]⟩,N.zbf,none,[]⟩,
 ⟨some (2+100),.assign (T 1),0,none,[]⟩]) (
 .seq (
 .seq (
 .ops [
 ⟨some 0,.move (V 2),0,none,[]⟩,
 ⟨some (3+100),.binOp .lss N.zbf (T 0) (.const (.int .i16 0)) N.zbf,0,none,[]⟩]) (
 .cond 3 (
 .seq (
 .ops [
 ⟨some (1+100),.assign (.const (.pointer none)),0,none,[]⟩]) (
 .ret)) (
 .skip))) (
 .seq (
 .ops [
 ⟨some 0,.move (V 0),0,none,[]⟩,
 ⟨some 1,.move (V 2),0,none,[]⟩,
 ⟨some 2,.convert N.zbf N.ze (T 1),0,none,[]⟩,
 ⟨some 3,.call ⟨.value (.func N.zu),#[T 0,T 2],#[N.zbk,N.ze]⟩,N.za,none,[]⟩,
 ⟨some 4,.call ⟨.value (.func N.zdi),#[T 3],#[N.za]⟩,N.zac,none,[]⟩,
 ⟨some (4+100),.alloc N.zac,0,none,[]⟩,
 ⟨none,.store N.zac (V 4) (T 4),0,none,[]⟩]) (
 .seq (
 .ops [
 ⟨some (1+100),.assign (V 4),0,none,[]⟩]) (
 .ret)))))
def zfk (N:Nums):C:=
 .seq (
 .ops [
 ⟨some (1+100),.assign (.const (.pointer none)),0,none,[]⟩]) (
 .seq (
 .ops [
 ⟨some 0,.move (V 0),0,none,[]⟩,
 ⟨some 1,.call ⟨.value (.func N.zq),#[T 0],#[N.zbk]⟩,N.zc,none,[]⟩,
 ⟨some 2,.convert N.zc N.ze (T 1),0,none,[]⟩,
 ⟨some 3,.binOp .sub N.ze (T 2) (.const (.int .i64 1)) N.ze,0,none,[]⟩,
 ⟨some (2+100),.assign (T 3),0,none,[]⟩]) (
 .seq (
 .seq (
 .ops [
 ⟨some 0,.move (V 2),0,none,[]⟩,
 ⟨some (3+100),.binOp .lss N.ze (T 0) (.const (.int .i64 0)) N.ze,0,none,[]⟩]) (
 .cond 3 (
 .seq (
 .ops [
 ⟨some (1+100),.assign (.const (.pointer none)),0,none,[]⟩]) (
 .ret)) (
 .skip))) (
 .seq (
 .ops [
 ⟨some 0,.move (V 0),0,none,[]⟩,
 ⟨some 1,.move (V 2),0,none,[]⟩,
 ⟨some 2,.call ⟨.value (.func N.zu),#[T 0,T 1],#[N.zbk,N.ze]⟩,N.za,none,[]⟩,
 ⟨some 3,.convert N.za N.zac (T 2),0,none,[]⟩,
 ⟨some (4+100),.alloc N.zac,0,none,[]⟩,
 ⟨none,.store N.zac (V 4) (T 3),0,none,[]⟩]) (
 .seq (
 .ops [
 ⟨some (1+100),.assign (V 4),0,none,[]⟩]) (
 .ret)))))
def zer (N:Nums):C:=
 .seq (
 .ops [
 ⟨some (1+100),.assign (.const (.pointer none)),0,none,[]⟩]) (
 .seq (
 .ops [
 ⟨some 0,.move (V 0),0,none,[]⟩,
 ⟨some 1,.call ⟨.value (.func N.zq),#[T 0],#[N.zbk]⟩,N.zc,none,[]⟩,
 ⟨some 2,.convert N.zc N.ze (T 1),0,none,[]⟩,
 ⟨some 3,.binOp .sub N.ze (T 2) (.const (.int .i64 1)) N.ze,0,none,[]⟩,
 ⟨some (2+100),.assign (T 3),0,none,[]⟩]) (
 .seq (
 .seq (
 .ops [
 ⟨some 0,.move (V 2),0,none,[]⟩,
 ⟨some (3+100),.binOp .lss N.ze (T 0) (.const (.int .i64 0)) N.ze,0,none,[]⟩]) (
 .cond 3 (
 .seq (
 .ops [
 ⟨some (1+100),.assign (.const (.pointer none)),0,none,[]⟩]) (
 .ret)) (
 .skip))) (
 .seq (
 .ops [
 ⟨some 0,.move (V 0),0,none,[]⟩,
 ⟨some 1,.move (V 2),0,none,[]⟩,
 ⟨some 2,.call ⟨.value (.func N.zu),#[T 0,T 1],#[N.zbk,N.ze]⟩,N.za,none,[]⟩,
 ⟨some 3,.call ⟨.value (.func N.zdi),#[T 2],#[N.za]⟩,N.zac,none,[]⟩,
 ⟨some (4+100),.alloc N.zac,0,none,[]⟩,
 ⟨none,.store N.zac (V 4) (T 3),0,none,[]⟩]) (
 .seq (
 .ops [
 ⟨some (1+100),.assign (V 4),0,none,[]⟩]) (
 .ret)))))
def znx (N:Nums):C:=
 .seq (
 .ops [
 ⟨some (1+100),.assign (.const (.slice none 0 0)),0,none,[]⟩]) (
 .seq (
 .ops [
 ⟨some 0,.move (V 0),0,none,[]⟩,
 ⟨some 1,.call ⟨.value (.func N.zcc),#[T 0],#[N.zbk]⟩,N.zbr,none,[]⟩,
 ⟨some (2+100),.assign (T 1),0,none,[]⟩]) (
 .seq (
 .seq (
 .ops [
 ⟨some 0,.move (V 2),0,none,[]⟩,
 ⟨some (3+100),.binOp .eql N.zbr (T 0) (.const (.int .i32 (-1))) N.zbr,0,none,[]⟩]) (
 .cond 3 (
 .seq (
 .ops [
 ⟨some 0,.buildSlice N.za 0 #[],0,none,[]⟩,
 ⟨some (1+100),.assign (T 0),0,none,[]⟩]) (
 .ret)) (
 .skip))) (
 .seq (
 .ops [
 ⟨some 0,.move (V 0),0,none,[]⟩,
 ⟨some 1,.move (V 2),0,none,[]⟩,
 ⟨some 2,.convert N.zbr N.ze (T 1),0,none,[]⟩,
 ⟨some 3,.call ⟨.value (.func N.zu),#[T 0,T 2],#[N.zbk,N.ze]⟩,N.za,none,[]⟩,
 ⟨some (1+100),.assign (T 3),0,none,[]⟩]) (
 .ret))))
def ziq (N:Nums):C:=
 .seq (
 .ops [
 ⟨some (1+100),.assign (.const (.slice none 0 0)),0,none,[]⟩]) (
 .seq (
 .ops [
 ⟨some 0,.move (V 0),0,none,[]⟩,
 ⟨some 1,.call ⟨.value (.func N.zq),#[T 0],#[N.zbk]⟩,N.zc,none,[]⟩,
 ⟨some 2,.convert N.zc N.ze (T 1),0,none,[]⟩,
 ⟨some 3,.binOp .sub N.ze (T 2) (.const (.int .i64 1)) N.ze,0,none,[]⟩,
 ⟨some (2+100),.assign (T 3),0,none,[]⟩]) (
 .seq (
 .seq (
 .ops [
 ⟨some 0,.move (V 2),0,none,[]⟩,
 ⟨some (3+100),.binOp .eql N.ze (T 0) (.const (.int .i64 (-1))) N.ze,0,none,[]⟩]) (
 .cond 3 (
 .seq (
 .ops [
 ⟨some 0,.buildSlice N.za 0 #[],0,none,[]⟩,
 ⟨some (1+100),.assign (T 0),0,none,[]⟩]) (
 .ret)) (
 .skip))) (
 .seq (
 .ops [
 ⟨some 0,.move (V 0),0,none,[]⟩,
 ⟨some 1,.move (V 2),0,none,[]⟩,
 ⟨some 2,.call ⟨.value (.func N.zu),#[T 0,T 1],#[N.zbk,N.ze]⟩,N.za,none,[]⟩,
 ⟨some (1+100),.assign (T 2),0,none,[]⟩]) (
 .ret))))
def zif (N:Nums):C:=
 .seq (
 .ops [
 ⟨some (1+100),.assign (.const (.slice none 0 0)),0,none,[]⟩]) (
 .seq (
 .ops [
 ⟨some 0,.move (V 0),0,none,[]⟩,
 ⟨some 1,.call ⟨.value (.func N.zcc),#[T 0],#[N.zbk]⟩,N.zbr,none,[]⟩,
 ⟨some (2+100),.assign (T 1),0,none,[]⟩]) (
 .seq (
 .seq (
 .ops [
 ⟨some 0,.move (V 2),0,none,[]⟩,
 ⟨some (3+100),.binOp .lss N.zbr (T 0) (.const (.int .i32 0)) N.zbr,0,none,[]⟩]) (
 .cond 3 (
 .seq (
 .ops [
 ⟨some (1+100),.assign (.const (.slice none 0 0)),0,none,[]⟩]) (
 .ret)) (
 .skip))) (
 .seq (
 .ops [
 ⟨some 0,.move (V 0),0,none,[]⟩,
 ⟨some 1,.move (V 2),0,none,[]⟩,
 ⟨some 2,.convert N.zbr N.ze (T 1),0,none,[]⟩,
 ⟨some 3,.call ⟨.value (.func N.zu),#[T 0,T 2],#[N.zbk,N.ze]⟩,N.za,none,[]⟩,
 ⟨some (4+100),.assign (T 3),0,none,[]⟩]) (
 .seq (
 .ops [
 ⟨some 0,.move (V 4),0,none,[]⟩,
 ⟨some (1+100),.assign (T 0),0,none,[]⟩]) (
 .ret)))))
def zfo (N:Nums):C:=
 .seq (
 .ops [
 ⟨some (1+100),.assign (.const (.slice none 0 0)),0,none,[]⟩]) (
 .seq (
 .ops [
 ⟨some 0,.move (V 0),0,none,[]⟩,
 ⟨some 1,.call ⟨.value (.func N.zq),#[T 0],#[N.zbk]⟩,N.zc,none,[]⟩,
 ⟨some 2,.convert N.zc N.ze (T 1),0,none,[]⟩,
 ⟨some 3,.binOp .sub N.ze (T 2) (.const (.int .i64 1)) N.ze,0,none,[]⟩,
 ⟨some (2+100),.assign (T 3),0,none,[]⟩]) (
 .seq (
 .seq (
 .ops [
 ⟨some 0,.move (V 2),0,none,[]⟩,
 ⟨some (3+100),.binOp .lss N.ze (T 0) (.const (.int .i64 0)) N.ze,0,none,[]⟩]) (
 .cond 3 (
 .seq (
 .ops [
 ⟨some (1+100),.assign (.const (.slice none 0 0)),0,none,[]⟩]) (
 .ret)) (
 .skip))) (
 .seq (
 .ops [
 ⟨some 0,.move (V 0),0,none,[]⟩,
 ⟨some 1,.move (V 2),0,none,[]⟩,
 ⟨some 2,.call ⟨.value (.func N.zu),#[T 0,T 1],#[N.zbk,N.ze]⟩,N.za,none,[]⟩,
 ⟨some (4+100),.assign (T 2),0,none,[]⟩]) (
 .seq (
 .ops [
 ⟨some 0,.move (V 4),0,none,[]⟩,
 ⟨some (1+100),.assign (T 0),0,none,[]⟩]) (
 .ret)))))
def zld (N:Nums):C:=
 .seq (
 .ops [
 ⟨some (1+100),.assign (.const (.int .i32 0)),0,none,[]⟩]) (
 .seq (
 .ops [
 ⟨some 0,.move (V 0),0,none,[]⟩,
 ⟨some 1,.call ⟨.value (.func N.zcc),#[T 0],#[N.zbk]⟩,N.zbr,none,[]⟩,
 ⟨some (2+100),.assign (T 1),0,none,[]⟩]) (
 .seq (
 .seq (
 .ops [
 ⟨some 0,.move (V 0),0,none,[]⟩,
 ⟨some 1,.nilCheck (T 0),0,none,[]⟩,
 ⟨some 2,.fieldAddr N.zv (T 1) 0,0,none,[]⟩,
 ⟨some 3,.load N.za (T 2),0,none,[]⟩,
 ⟨some 4,.call ⟨.builtin .len,#[T 3],#[N.za]⟩,N.ze,none,[]⟩,
 ⟨some 5,.move (V 2),0,none,[]⟩,
 ⟨some 6,.convert N.zbr N.ze (T 5),0,none,[]⟩,
 ⟨some (3+100),.binOp .lss N.ze (T 4) (T 6) N.ze,0,none,[]⟩]) (
 .cond 3 (
 .seq (
 .ops [
 ⟨some 0,.move (V 0),0,none,[]⟩,
 ⟨some 1,.nilCheck (T 0),0,none,[]⟩,
 ⟨some 2,.fieldAddr N.zv (T 1) 1,0,none,[]⟩,
 ⟨none,.store N.zay (T 2) (.const (.bool true)),0,none,[]⟩]) (
 .seq (
 .ops [
 ⟨some 0,.move (V 0),0,none,[]⟩,
 ⟨some 1,.nilCheck (T 0),0,none,[]⟩,
 ⟨some 2,.fieldAddr N.zv (T 1) 0,0,none,[]⟩,
 ⟨none,.store N.za (T 2) (.const (.slice none 0 0)),0,none,[]⟩]) (
 .seq (
 .ops [
 ⟨some (1+100),.assign (.const (.int .i32 0)),0,none,[]⟩]) (
 .ret)))) (
 .skip))) (
 .seq (
 .ops [
 ⟨some 0,.move (V 2),0,none,[]⟩,
 ⟨some (1+100),.assign (T 0),0,none,[]⟩]) (
 .ret))))
def zhe (N:Nums):C:=
 .seq (
 .ops [
 ⟨some (1+100),.assign (.const (.int .i32 0)),0,none,[]⟩]) (
 .seq (
 .ops [
 ⟨some 0,.move (V 0),0,none,[]⟩,
 ⟨some 1,.call ⟨.value (.func N.zq),#[T 0],#[N.zbk]⟩,N.zc,none,[]⟩,
 ⟨some 2,.convert N.zc N.zbr (T 1),0,none,[]⟩,
 ⟨some 3,.binOp .sub N.zbr (T 2) (.const (.int .i32 1)) N.zbr,0,none,[]⟩,
 ⟨some (2+100),.assign (T 3),0,none,[]⟩]) (
 .seq (
 .seq (
 .ops [
 ⟨some 0,.move (V 0),0,none,[]⟩,
 ⟨some 1,.nilCheck (T 0),0,none,[]⟩,
 ⟨some 2,.fieldAddr N.zv (T 1) 0,0,none,[]⟩,
 ⟨some 3,.load N.za (T 2),0,none,[]⟩,
 ⟨some 4,.call ⟨.builtin .len,#[T 3],#[N.za]⟩,N.ze,none,[]⟩,
 ⟨some 5,.move (V 2),0,none,[]⟩,
 ⟨some 6,.convert N.zbr N.ze (T 5),0,none,[]⟩,
 ⟨some (3+100),.binOp .lss N.ze (T 4) (T 6) N.ze,0,none,[]⟩]) (
 .cond 3 (
 .seq (
 .ops [
 ⟨some 0,.move (V 0),0,none,[]⟩,
 ⟨some 1,.nilCheck (T 0),0,none,[]⟩,
 ⟨some 2,.fieldAddr N.zv (T 1) 1,0,none,[]⟩,
 ⟨none,.store N.zay (T 2) (.const (.bool true)),0,none,[]⟩]) (
 .seq (
 .ops [
 ⟨some 0,.move (V 0),0,none,[]⟩,
 ⟨some 1,.nilCheck (T 0),0,none,[]⟩,
 ⟨some 2,.fieldAddr N.zv (T 1) 0,0,none,[]⟩,
 ⟨none,.store N.za (T 2) (.const (.slice none 0 0)),0,none,[]⟩]) (
 .seq (
 .ops [
 ⟨some (1+100),.assign (.const (.int .i32 0)),0,none,[]⟩]) (
 .ret)))) (
 .skip))) (
 .seq (
 .ops [
 ⟨some 0,.move (V 2),0,none,[]⟩,
 ⟨some (1+100),.assign (T 0),0,none,[]⟩]) (
 .ret))))
def zlc (N:Nums):C:=
 .seq (
 .ops [
 ⟨some (1+100),.assign (.const .nilIface),0,none,[]⟩]) (
 .seq (
 .seq (
 .ops [
 ⟨some 0,.move (V 0),0,none,[]⟩,
 ⟨some 1,.nilCheck (T 0),0,none,[]⟩,
 ⟨some 2,.fieldAddr N.zv (T 1) 1,0,none,[]⟩,
 ⟨some (2+100),.load N.zay (T 2),0,none,[]⟩]) (
 .cond 2 (
 .seq (
 .ops [
 ⟨some 0,.load N.zgc (.global N.zj),0,none,[]⟩,
 ⟨some (1+100),.assign (T 0),0,none,[]⟩]) (
 .ret)) (
 .skip))) (
 .seq (
 .ops [
 ⟨some (1+100),.assign (.const .nilIface),0,none,[]⟩]) (
 .ret)))
def zsm (N:Nums):C:=
 .seq (
 .ops [
 ⟨some (1+100),.assign (.const (.bool false)),0,none,[]⟩]) (
 .seq (
 .ops [
 ⟨some 0,.move (V 0),0,none,[]⟩,
 ⟨some 1,.nilCheck (T 0),0,none,[]⟩,
 ⟨some 2,.fieldAddr N.zv (T 1) 1,0,none,[]⟩,
 ⟨some 3,.load N.zay (T 2),0,none,[]⟩,
 ⟨some 4,.unOp .not N.zay (T 3),0,none,[]⟩,
 ⟨some (1+100),.assign (T 4),0,none,[]⟩]) (
 .ret))
def zut (N:Nums):C:=
 .seq (
 .seq (
 .ops [
 ⟨some 0,.move (V 0),0,none,[]⟩,
 ⟨some 1,.nilCheck (T 0),0,none,[]⟩,
 ⟨some 2,.fieldAddr N.zcy (T 1) 0,0,none,[]⟩,
 ⟨some 3,.load N.zab (T 2),0,none,[]⟩,
 ⟨some (3+100),.binOp .eql N.zab (T 3) (.const (.map none)) N.zab,0,none,[]⟩]) (
 .cond 3 (
 .ops [
 ⟨some 0,.move (V 0),0,none,[]⟩,
 ⟨some 1,.makeMap N.zab none,0,none,[]⟩,
 ⟨some 2,.nilCheck (T 0),0,none,[]⟩,
 ⟨some 3,.fieldAddr N.zcy (T 2) 0,0,none,[]⟩,
 ⟨none,.store N.zab (T 3) (T 1),0,none,[]⟩]) (
 .skip))) (
 .ops [
 ⟨some 0,.move (V 0),0,none,[]⟩,
 ⟨some 1,.nilCheck (T 0),0,none,[]⟩,
 ⟨some 2,.fieldAddr N.zcy (T 1) 0,0,none,[]⟩,
 ⟨some 3,.load N.zab (T 2),0,none,[]⟩,
 ⟨some 4,.move (V 1),0,none,[]⟩,
 ⟨some 5,.move (V 2),0,none,[]⟩,
 ⟨none,.mapUpdate N.zab (T 3) (T 4) (T 5),0,none,[]⟩])
def zky (N:Nums):C:=
 .seq (
 .ops [
 ⟨some (1+100),.alloc N.zcy,0,none,[]⟩]) (
 .seq (
 .ops [
 ⟨some (2+100),.alloc N.zcy,0,none,[]⟩]) (
 .seq (
 .seq (
 .ops [
 ⟨some 0,.move (V 0),0,none,[]⟩,
 ⟨some 1,.call ⟨.value (.func N.zq),#[T 0],#[N.zbk]⟩,N.zc,none,[]⟩,
 ⟨some (3+100),.assign (T 1),0,none,[]⟩]) (
 .block 0 (
 .loop (
 .seq (
 .seq (
 .ops [
 ⟨some 0,.move (V 3),0,none,[]⟩,
 ⟨some (4+100),.binOp .gtr N.zc (T 0) (.const (.int .u32 0)) N.zc,0,none,[]⟩]) (
 .cond 4 (
 .skip) (
 .exit 0))) (
 .seq (
 .block 1 (
 .seq (
 .ops [
 ⟨some 0,.move (V 0),0,none,[]⟩,
 ⟨some 1,.call ⟨.value (.func N.zq),#[T 0],#[N.zbk]⟩,N.zc,none,[]⟩,
 ⟨some 2,.move (V 0),0,none,[]⟩,
 ⟨some 3,.call ⟨.value (.func N.zq),#[T 2],#[N.zbk]⟩,N.zc,none,[]⟩,
 ⟨some (5+100),.assign (T 1),0,none,[]⟩,
 ⟨some (6+100),.assign (T 3),0,none,[]⟩]) (
 .ops [
 ⟨some 0,.move (V 5),0,none,[]⟩,
 ⟨some 1,.move (V 0),0,none,[]⟩,
 ⟨some 2,.move (V 6),0,none,[]⟩,
 ⟨some 3,.convert N.zc N.ze (T 2),0,none,[]⟩,
 ⟨some 4,.call ⟨.value (.func N.zu),#[T 1,T 3],#[N.zbk,N.ze]⟩,N.za,none,[]⟩,
 ⟨some 5,.call ⟨.value (.func N.zcz),#[V 2,T 0,T 4],#[N.zcy,N.zc,N.za]⟩,N.t_,none,[]⟩]))) (
 .ops [
 ⟨some 0,.move (V 3),0,none,[]⟩,
 ⟨some 1,.binOp .sub N.zc (T 0) (.const (.int .u32 1)) N.zc,0,none,[]⟩,
 ⟨some (3+100),.assign (T 1),0,none,[]⟩])))))) (
 .seq (
 .ops [
 ⟨some 0,.load N.zcy (V 2),0,none,[]⟩,
 ⟨none,.store N.zcy (V 1) (T 0),0,none,[]⟩]) (
 .ret))))
def zsl (N:Nums):C:=
 .seq (
 .seq (
 .ops [
 ⟨some 0,.move (V 0),0,none,[]⟩,
 ⟨some 1,.nilCheck (T 0),0,none,[]⟩,
 ⟨some 2,.fieldAddr N.zcy (T 1) 0,0,none,[]⟩,
 ⟨some 3,.load N.zab (T 2),0,none,[]⟩,
 ⟨some 4,.call ⟨.builtin .len,#[T 3],#[N.zab]⟩,N.ze,none,[]⟩,
 ⟨some (2+100),.binOp .eql N.ze (T 4) (.const (.int .i64 0)) N.ze,0,none,[]⟩]) (
 .cond 2 (
 .ret) (
 .skip))) (
 .seq (
 .ops [
 ⟨some 0,.move (V 0),0,none,[]⟩,
 ⟨some 1,.nilCheck (T 0),0,none,[]⟩,
 ⟨some 2,.fieldAddr N.zcy (T 1) 0,0,none,[]⟩,
 ⟨some 3,.load N.zab (T 2),0,none,[]⟩,
 ⟨some 4,.call ⟨.builtin .len,#[T 3],#[N.zab]⟩,N.ze,none,[]⟩,
 ⟨some 5,.makeSlice N.zbo (.const (.int .i64 0)) (T 4),0,none,[]⟩,
 ⟨some (3+100),.alloc N.zbo,0,none,[]⟩,
 ⟨none,.store N.zbo (V 3) (T 5),0,none,[]⟩]) (
 .seq (
 .seq (
 .ops [
 ⟨some 0,.move (V 0),0,none,[]⟩,
 ⟨some 1,.nilCheck (T 0),0,none,[]⟩,
 ⟨some 2,.fieldAddr N.zcy (T 1) 0,0,none,[]⟩,
 ⟨some 3,.load N.zab (T 2),0,none,[]⟩,
 ⟨some (4+100),.range N.zab (T 3),0,none,[]⟩]) (
 .block 0 (
 .loop (
 .seq (
 .ops [
 ⟨some 0,.next (V 4) false,N.t_,none,[]⟩,
 ⟨some (5+100),.extract (T 0) 0,0,none,[]⟩]) (
 .seq (
 .cond 5 (
 .skip) (
 .exit 0)) (
 .block 1 (
 .seq (
 .ops [
 ⟨some 0,.entry (V 4),0,none,[]⟩,
 ⟨some 1,.extract (T 0) 0,0,none,[]⟩,
 ⟨some (6+100),.assign (T 1),0,none,[]⟩]) (
 .ops [
 ⟨some 0,.load N.zbo (V 3),0,none,[]⟩,
 ⟨some 1,.move (V 6),0,none,[]⟩,
 ⟨some 2,.buildSlice N.zbo 1 #[(0,(T 1))],0,none,[]⟩,
 ⟨some 3,.call ⟨.builtin .append,#[T 0,T 2],#[N.zbo,N.zbo]⟩,N.zbo,none,[]⟩,
 ⟨none,.store N.zbo (V 3) (T 3),0,none,[]⟩])))))))) (
 .seq (
 .ops [
 ⟨some 0,.load N.zbo (V 3),0,none,[]⟩,
 ⟨some 1,.makeInterface N.zbo (T 0),0,none,[]⟩,
 ⟨some 2,.makeFunc (.func N.zdp) #[] #[V 3],0,none,[]⟩,
 ⟨some 3,.call ⟨.value (.func N.zhm),#[T 1,T 2],#[N.zaba,N.zpm]⟩,N.t_,none,[]⟩]) (
 .seq (
 .ops [
 ⟨some (7+100),.load N.zbo (V 3),0,none,[]⟩,
 ⟨some (8+100),.call ⟨.builtin .len,#[V 7],#[N.zbo]⟩,N.ze,none,[]⟩,
 ⟨some (9+100),.move (.const (.int .i64 0)),0,none,[]⟩]) (
 .block 2 (
 .loop (
 .seq (
 .ops [
 ⟨some (10+100),.binOp .lss N.ze (V 9) (V 8) N.ze,0,none,[]⟩]) (
 .seq (
 .cond 10 (
 .skip) (
 .exit 2)) (
 .seq (
 .block 3 (
 .seq (
 .ops [
 ⟨some 0,.indexAddr N.zbo (V 7) (V 9),0,none,[]⟩,
 ⟨some 1,.load N.zc (T 0),0,none,[]⟩,
 ⟨some (11+100),.assign (T 1),0,none,[]⟩]) (
 .ops [
 ⟨some 0,.move (V 1),0,none,[]⟩,
 ⟨some 1,.move (V 11),0,none,[]⟩,
 ⟨some 2,.move (V 0),0,none,[]⟩,
 ⟨some 3,.nilCheck (T 2),0,none,[]⟩,
 ⟨some 4,.fieldAddr N.zcy (T 3) 0,0,none,[]⟩,
 ⟨some 5,.load N.zab (T 4),0,none,[]⟩,
 ⟨some 6,.move (V 11),0,none,[]⟩,
 ⟨some 7,.lookup N.zab (T 5) (T 6) false,0,none,[]⟩,
 ⟨some 8,.call ⟨.value (T 0),#[T 1,T 7],#[N.zc,N.za]⟩,N.t_,none,[]⟩]))) (
 .ops [
 ⟨some 0,.binOp .add N.ze (V 9) (.const (.int .i64 1)) N.ze,0,none,[]⟩,
 ⟨some (9+100),.move (T 0),0,none,[]⟩]))))))))))
def zph (N:Nums):C:=
 .seq (
 .ops [
 ⟨some (3+100),.assign (.const (.bool false)),0,none,[]⟩]) (
 .seq (
 .draw [
 ⟨some 0,.load N.zbo (V 2),0,none,[]⟩,
 ⟨some 1,.move (V 0),0,none,[]⟩,
 ⟨some 2,.indexAddr N.zbo (T 0) (T 1),0,none,[0,1]⟩,
 ⟨some 3,.load N.zc (T 2),0,none,[2]⟩,
 ⟨some 4,.load N.zbo (V 2),0,none,[]⟩,
 ⟨some 5,.move (V 1),0,none,[]⟩,
 ⟨some 6,.indexAddr N.zbo (T 4) (T 5),0,none,[4,5]⟩,
 ⟨some 7,.load N.zc (T 6),0,none,[6]⟩,
 ⟨some 8,.binOp .lss N.zc (T 3) (T 7) N.zc,0,none,[3,7]⟩,
 ⟨some (3+100),.assign (T 8),0,none,[8,0,1,2,3,4,5,6,7,8]⟩]) (
 .ret))
def c_sorted (N:Nums):C:=
 .seq (
 .ops [
 ⟨some 0,.move (V 0),0,none,[]⟩,
 ⟨some (1+100),.call ⟨.builtin .len,#[T 0],#[N.zpa]⟩,N.ze,none,[]⟩,
 ⟨some (2+100),.move (.const (.int .i64 0)),0,none,[]⟩]) (
 .block 0 (
 .loop (
 .seq (
 .ops [
 ⟨some (3+100),.binOp .lss N.ze (V 2) (V 1) N.ze,0,none,[]⟩]) (
 .seq (
 .cond 3 (
 .skip) (
 .exit 0)) (
 .seq (
 .block 1 (
 .seq (
 .ops [
 ⟨some 0,.move (V 2),0,none,[]⟩,
 ⟨some (4+100),.assign (T 0),0,none,[]⟩]) (
 .seq (
 .ops [
 ⟨some 0,.move (V 4),0,none,[]⟩,
 ⟨some (5+100),.assign (T 0),0,none,[]⟩]) (
 .block 2 (
 .loop (
 .seq (
 .seq (
 .draw [
 ⟨some 0,.move (V 5),0,none,[]⟩,
 ⟨some 1,.binOp .gtr N.ze (T 0) (.const (.int .i64 0)) N.ze,0,none,[0]⟩,
 ⟨some 2,.move (T 1),0,none,[1]⟩,
 ⟨some 3,.move (V 0),0,(some (some 2,true)),[2]⟩,
 ⟨some 4,.move (V 5),0,(some (some 2,true)),[2]⟩,
 ⟨some 5,.indexAddr N.zpa (T 3) (T 4),0,(some (some 2,true)),[3,4,2]⟩,
 ⟨some 6,.fieldAddr N.ztl (T 5) 0,0,(some (some 2,true)),[5,2]⟩,
 ⟨some 7,.load N.zc (T 6),0,(some (some 2,true)),[6,2]⟩,
 ⟨some 8,.move (V 0),0,(some (some 2,true)),[2]⟩,
 ⟨some 9,.move (V 5),0,(some (some 2,true)),[2]⟩,
 ⟨some 10,.binOp .sub N.ze (T 9) (.const (.int .i64 1)) N.ze,0,(some (some 2,true)),[9,2]⟩,
 ⟨some 11,.indexAddr N.zpa (T 8) (T 10),0,(some (some 2,true)),[8,10,2]⟩,
 ⟨some 12,.fieldAddr N.ztl (T 11) 0,0,(some (some 2,true)),[11,2]⟩,
 ⟨some 13,.load N.zc (T 12),0,(some (some 2,true)),[12,2]⟩,
 ⟨some 14,.binOp .lss N.zc (T 7) (T 13) N.zc,0,(some (some 2,true)),[7,13,2]⟩,
 ⟨some (6+100),.pick (T 2) (T 14) (.const (.bool false)),0,none,[2,14]⟩]) (
 .cond 6 (
 .skip) (
 .exit 2))) (
 .seq (
 .block 3 (
 .draw [
 ⟨some 0,.move (V 0),0,none,[]⟩,
 ⟨some 1,.move (V 5),0,none,[]⟩,
 ⟨some 2,.move (V 0),0,none,[]⟩,
 ⟨some 3,.move (V 5),0,none,[]⟩,
 ⟨some 4,.binOp .sub N.ze (T 3) (.const (.int .i64 1)) N.ze,0,none,[3]⟩,
 ⟨some 5,.move (V 0),0,none,[]⟩,
 ⟨some 6,.move (V 5),0,none,[]⟩,
 ⟨some 7,.binOp .sub N.ze (T 6) (.const (.int .i64 1)) N.ze,0,none,[6]⟩,
 ⟨some 8,.indexAddr N.zpa (T 5) (T 7),0,none,[5,7]⟩,
 ⟨some 9,.load N.ztl (T 8),0,none,[8]⟩,
 ⟨some 10,.move (V 0),0,none,[]⟩,
 ⟨some 11,.move (V 5),0,none,[]⟩,
 ⟨some 12,.indexAddr N.zpa (T 10) (T 11),0,none,[10,11]⟩,
 ⟨some 13,.load N.ztl (T 12),0,none,[12]⟩,
 ⟨some 14,.indexAddr N.zpa (T 0) (T 1),0,none,[0,1,0,1,5,6,7,8,9,13]⟩,
 ⟨none,.store N.ztl (T 14) (T 9),0,none,[14,9,0,1,5,6,7,8,9,13]⟩,
 ⟨some 15,.indexAddr N.zpa (T 2) (T 4),0,none,[2,4,0,1,2,3,4,5,6,7,8,9,10,11,12,13,14,15]⟩,
 ⟨none,.store N.ztl (T 15) (T 13),0,none,[16,13,15,0,1,2,3,4,5,6,7,8,9,10,11,12,13,14,15]⟩])) (
 .ops [
 ⟨some 0,.move (V 5),0,none,[]⟩,
 ⟨some 1,.binOp .sub N.ze (T 0) (.const (.int .i64 1)) N.ze,0,none,[]⟩,
 ⟨some (5+100),.assign (T 1),0,none,[]⟩])))))))) (
 .ops [
 ⟨some 0,.binOp .add N.ze (V 2) (.const (.int .i64 1)) N.ze,0,none,[]⟩,
 ⟨some (2+100),.move (T 0),0,none,[]⟩]))))))
def c_boolTree (N:Nums):C:=
 .seq (
 .ops [
 ⟨some (1+100),.alloc N.zbe,0,none,[]⟩]) (
 .seq (
 .seq (
 .ops [
 ⟨some (2+100),.move (V 0),0,none,[]⟩]) (
 .cond 2 (
 .seq (
 .ops [
 ⟨some 0,.build N.zbe #[(0,(.const (.int .i64 1)))],0,none,[]⟩,
 ⟨none,.store N.zbe (V 1) (T 0),0,none,[]⟩]) (
 .ret)) (
 .skip))) (
 .seq (
 .ops [
 ⟨some 0,.build N.zbe #[],0,none,[]⟩,
 ⟨none,.store N.zbe (V 1) (T 0),0,none,[]⟩]) (
 .ret)))
def c_textTree (N:Nums):C:=
 .seq (
 .ops [
 ⟨some (1+100),.alloc N.zbe,0,none,[]⟩]) (
 .seq (
 .seq (
 .ops [
 ⟨some 0,.move (V 0),0,none,[]⟩,
 ⟨some (2+100),.binOp .eql N.zbc (T 0) (.const (.pointer none)) N.zbc,0,none,[]⟩]) (
 .cond 2 (
 .seq (
 .ops [
 ⟨some 0,.build N.zbe #[(2,(.const (.bool true)))],0,none,[]⟩,
 ⟨none,.store N.zbe (V 1) (T 0),0,none,[]⟩]) (
 .ret)) (
 .skip))) (
 .seq (
 .ops [
 ⟨some 0,.move (V 0),0,none,[]⟩,
 ⟨some 1,.nilCheck (T 0),0,none,[]⟩,
 ⟨some 2,.load N.zac (T 1),0,none,[]⟩,
 ⟨some 3,.convert N.zac N.za (T 2),0,none,[]⟩,
 ⟨some 4,.build N.zbe #[(1,(T 3))],0,none,[]⟩,
 ⟨none,.store N.zbe (V 1) (T 4),0,none,[]⟩]) (
 .ret)))
def zaam (N:Nums):C:=
 .seq (
 .ops [
 ⟨some (1+100),.alloc N.zbe,0,none,[]⟩]) (
 .seq (
 .ops [
 ⟨some 0,.move (V 0),0,none,[]⟩,
 ⟨some 1,.call ⟨.builtin .append,#[(.const (.slice none 0 0)),(T 0)],#[N.za,N.za]⟩,N.za,none,[]⟩,
 ⟨some 2,.move (V 0),0,none,[]⟩,
 ⟨some 3,.binOp .eql N.za (T 2) (.const (.slice none 0 0)) N.za,0,none,[]⟩,
 ⟨some 4,.build N.zbe #[(1,(T 1)),(2,(T 3))],0,none,[]⟩,
 ⟨none,.store N.zbe (V 1) (T 4),0,none,[]⟩]) (
 .ret))
def zus (N:Nums):C:=
 .seq (
 .ops [
 ⟨some (2+100),.assign (.const (.bool false)),0,none,[]⟩]) (
 .seq (
 .seq (
 .ops [
 ⟨some 0,.move (V 0),0,none,[]⟩,
 ⟨some 1,.call ⟨.builtin .len,#[T 0],#[N.za]⟩,N.ze,none,[]⟩,
 ⟨some 2,.move (V 1),0,none,[]⟩,
 ⟨some 3,.call ⟨.builtin .len,#[T 2],#[N.za]⟩,N.ze,none,[]⟩,
 ⟨some (3+100),.binOp .neq N.ze (T 1) (T 3) N.ze,0,none,[]⟩]) (
 .cond 3 (
 .seq (
 .ops [
 ⟨some (2+100),.assign (.const (.bool false)),0,none,[]⟩]) (
 .ret)) (
 .skip))) (
 .seq (
 .seq (
 .ops [
 ⟨some 0,.move (V 0),0,none,[]⟩,
 ⟨some (4+100),.call ⟨.builtin .len,#[T 0],#[N.za]⟩,N.ze,none,[]⟩,
 ⟨some (5+100),.move (.const (.int .i64 0)),0,none,[]⟩]) (
 .block 0 (
 .loop (
 .seq (
 .ops [
 ⟨some (6+100),.binOp .lss N.ze (V 5) (V 4) N.ze,0,none,[]⟩]) (
 .seq (
 .cond 6 (
 .skip) (
 .exit 0)) (
 .seq (
 .block 1 (
 .seq (
 .ops [
 ⟨some 0,.move (V 5),0,none,[]⟩,
 ⟨some (7+100),.assign (T 0),0,none,[]⟩]) (
 .seq (
 .draw [
 ⟨some 0,.move (V 0),0,none,[]⟩,
 ⟨some 1,.move (V 7),0,none,[]⟩,
 ⟨some 2,.indexAddr N.za (T 0) (T 1),0,none,[0,1]⟩,
 ⟨some 3,.load N.zh (T 2),0,none,[2]⟩,
 ⟨some 4,.move (V 1),0,none,[]⟩,
 ⟨some 5,.move (V 7),0,none,[]⟩,
 ⟨some 6,.indexAddr N.za (T 4) (T 5),0,none,[4,5]⟩,
 ⟨some 7,.load N.zh (T 6),0,none,[6]⟩,
 ⟨some (8+100),.binOp .neq N.zh (T 3) (T 7) N.zh,0,none,[3,7]⟩]) (
 .cond 8 (
 .seq (
 .ops [
 ⟨some (2+100),.assign (.const (.bool false)),0,none,[]⟩]) (
 .ret)) (
 .skip))))) (
 .ops [
 ⟨some 0,.binOp .add N.ze (V 5) (.const (.int .i64 1)) N.ze,0,none,[]⟩,
 ⟨some (5+100),.move (T 0),0,none,[]⟩]))))))) (
 .seq (
 .ops [
 ⟨some (2+100),.assign (.const (.bool true)),0,none,[]⟩]) (
 .ret))))
def zur (N:Nums):C:=
 .seq (
 .ops [
 ⟨some (2+100),.box N.zf (V 0),0,none,[]⟩,
 ⟨some (3+100),.box N.zf (V 1),0,none,[]⟩,
 ⟨some (4+100),.assign (.const (.bool false)),0,none,[]⟩]) (
 .seq (
 .seq (
 .ops [
 ⟨some 0,.fieldAddr N.zf (V 2) 0,0,none,[]⟩,
 ⟨some 1,.load N.zcv (T 0),0,none,[]⟩,
 ⟨some 2,.fieldAddr N.zf (V 3) 0,0,none,[]⟩,
 ⟨some 3,.load N.zcv (T 2),0,none,[]⟩,
 ⟨some 4,.binOp .neq N.zcv (T 1) (T 3) N.zcv,0,none,[]⟩,
 ⟨some 5,.move (T 4),0,none,[]⟩,
 ⟨some 6,.fieldAddr N.zf (V 2) 2,0,(some (some 5,false)),[]⟩,
 ⟨some 7,.load N.zay (T 6),0,(some (some 5,false)),[]⟩,
 ⟨some 8,.fieldAddr N.zf (V 3) 2,0,(some (some 5,false)),[]⟩,
 ⟨some 9,.load N.zay (T 8),0,(some (some 5,false)),[]⟩,
 ⟨some 10,.binOp .neq N.zay (T 7) (T 9) N.zay,0,(some (some 5,false)),[]⟩,
 ⟨some 11,.pick (T 5) (.const (.bool true)) (T 10),0,none,[]⟩,
 ⟨some 12,.move (T 11),0,none,[]⟩,
 ⟨some 13,.fieldAddr N.zf (V 2) 1,0,(some (some 12,false)),[]⟩,
 ⟨some 14,.load N.za (T 13),0,(some (some 12,false)),[]⟩,
 ⟨some 15,.fieldAddr N.zf (V 3) 1,0,(some (some 12,false)),[]⟩,
 ⟨some 16,.load N.za (T 15),0,(some (some 12,false)),[]⟩,
 ⟨some 17,.call ⟨.value (.func N.zff),#[T 14,T 16],#[N.za,N.za]⟩,N.zay,(some (some 12,false)),[]⟩,
 ⟨some 18,.unOp .not N.zay (T 17),0,(some (some 12,false)),[]⟩,
 ⟨some 19,.pick (T 12) (.const (.bool true)) (T 18),0,none,[]⟩,
 ⟨some 20,.move (T 19),0,none,[]⟩,
 ⟨some 21,.fieldAddr N.zf (V 2) 3,0,(some (some 20,false)),[]⟩,
 ⟨some 22,.load N.zak (T 21),0,(some (some 20,false)),[]⟩,
 ⟨some 23,.call ⟨.builtin .len,#[T 22],#[N.zak]⟩,N.ze,(some (some 20,false)),[]⟩,
 ⟨some 24,.fieldAddr N.zf (V 3) 3,0,(some (some 20,false)),[]⟩,
 ⟨some 25,.load N.zak (T 24),0,(some (some 20,false)),[]⟩,
 ⟨some 26,.call ⟨.builtin .len,#[T 25],#[N.zak]⟩,N.ze,(some (some 20,false)),[]⟩,
 ⟨some 27,.binOp .neq N.ze (T 23) (T 26) N.ze,0,(some (some 20,false)),[]⟩,
 ⟨some 28,.pick (T 20) (.const (.bool true)) (T 27),0,none,[]⟩,
 ⟨some 29,.move (T 28),0,none,[]⟩,
 ⟨some 30,.fieldAddr N.zf (V 2) 4,0,(some (some 29,false)),[]⟩,
 ⟨some 31,.load N.zp (T 30),0,(some (some 29,false)),[]⟩,
 ⟨some 32,.call ⟨.builtin .len,#[T 31],#[N.zp]⟩,N.ze,(some (some 29,false)),[]⟩,
 ⟨some 33,.fieldAddr N.zf (V 3) 4,0,(some (some 29,false)),[]⟩,
 ⟨some 34,.load N.zp (T 33),0,(some (some 29,false)),[]⟩,
 ⟨some 35,.call ⟨.builtin .len,#[T 34],#[N.zp]⟩,N.ze,(some (some 29,false)),[]⟩,
 ⟨some 36,.binOp .neq N.ze (T 32) (T 35) N.ze,0,(some (some 29,false)),[]⟩,
 ⟨some (5+100),.pick (T 29) (.const (.bool true)) (T 36),0,none,[]⟩]) (
 .cond 5 (
 .seq (
 .ops [
 ⟨some (4+100),.assign (.const (.bool false)),0,none,[]⟩]) (
 .ret)) (
 .skip))) (
 .seq (
 .seq (
 .ops [
 ⟨some 0,.fieldAddr N.zf (V 2) 3,0,none,[]⟩,
 ⟨some 1,.load N.zak (T 0),0,none,[]⟩,
 ⟨some (6+100),.call ⟨.builtin .len,#[T 1],#[N.zak]⟩,N.ze,none,[]⟩,
 ⟨some (7+100),.move (.const (.int .i64 0)),0,none,[]⟩]) (
 .block 0 (
 .loop (
 .seq (
 .ops [
 ⟨some (8+100),.binOp .lss N.ze (V 7) (V 6) N.ze,0,none,[]⟩]) (
 .seq (
 .cond 8 (
 .skip) (
 .exit 0)) (
 .seq (
 .block 1 (
 .seq (
 .ops [
 ⟨some 0,.move (V 7),0,none,[]⟩,
 ⟨some (9+100),.assign (T 0),0,none,[]⟩]) (
 .seq (
 .draw [
 ⟨some 0,.fieldAddr N.zf (V 2) 3,0,none,[]⟩,
 ⟨some 1,.load N.zak (T 0),0,none,[0]⟩,
 ⟨some 2,.move (V 9),0,none,[]⟩,
 ⟨some 3,.indexAddr N.zak (T 1) (T 2),0,none,[1,2]⟩,
 ⟨some 4,.load N.zf (T 3),0,none,[3]⟩,
 ⟨some 5,.fieldAddr N.zf (V 3) 3,0,none,[]⟩,
 ⟨some 6,.load N.zak (T 5),0,none,[5]⟩,
 ⟨some 7,.move (V 9),0,none,[]⟩,
 ⟨some 8,.indexAddr N.zak (T 6) (T 7),0,none,[6,7]⟩,
 ⟨some 9,.load N.zf (T 8),0,none,[8]⟩,
 ⟨some 10,.call ⟨.value (.func N.zkk),#[T 4,T 9],#[N.zf,N.zf]⟩,N.zay,none,[4,9]⟩,
 ⟨some (10+100),.unOp .not N.zay (T 10),0,none,[10]⟩]) (
 .cond 10 (
 .seq (
 .ops [
 ⟨some (4+100),.assign (.const (.bool false)),0,none,[]⟩]) (
 .ret)) (
 .skip))))) (
 .ops [
 ⟨some 0,.binOp .add N.ze (V 7) (.const (.int .i64 1)) N.ze,0,none,[]⟩,
 ⟨some (7+100),.move (T 0),0,none,[]⟩]))))))) (
 .seq (
 .seq (
 .ops [
 ⟨some 0,.fieldAddr N.zf (V 2) 4,0,none,[]⟩,
 ⟨some 1,.load N.zp (T 0),0,none,[]⟩,
 ⟨some (11+100),.call ⟨.builtin .len,#[T 1],#[N.zp]⟩,N.ze,none,[]⟩,
 ⟨some (12+100),.move (.const (.int .i64 0)),0,none,[]⟩]) (
 .block 2 (
 .loop (
 .seq (
 .ops [
 ⟨some (13+100),.binOp .lss N.ze (V 12) (V 11) N.ze,0,none,[]⟩]) (
 .seq (
 .cond 13 (
 .skip) (
 .exit 2)) (
 .seq (
 .block 3 (
 .seq (
 .ops [
 ⟨some 0,.move (V 12),0,none,[]⟩,
 ⟨some (14+100),.assign (T 0),0,none,[]⟩]) (
 .seq (
 .draw [
 ⟨some 0,.fieldAddr N.zf (V 2) 4,0,none,[]⟩,
 ⟨some 1,.load N.zp (T 0),0,none,[0]⟩,
 ⟨some 2,.move (V 14),0,none,[]⟩,
 ⟨some 3,.indexAddr N.zp (T 1) (T 2),0,none,[1,2]⟩,
 ⟨some 4,.fieldAddr N.zal (T 3) 0,0,none,[3]⟩,
 ⟨some 5,.load N.zc (T 4),0,none,[4]⟩,
 ⟨some 6,.fieldAddr N.zf (V 3) 4,0,none,[]⟩,
 ⟨some 7,.load N.zp (T 6),0,none,[6]⟩,
 ⟨some 8,.move (V 14),0,none,[]⟩,
 ⟨some 9,.indexAddr N.zp (T 7) (T 8),0,none,[7,8]⟩,
 ⟨some 10,.fieldAddr N.zal (T 9) 0,0,none,[9]⟩,
 ⟨some 11,.load N.zc (T 10),0,none,[10]⟩,
 ⟨some 12,.binOp .neq N.zc (T 5) (T 11) N.zc,0,none,[5,11]⟩,
 ⟨some 13,.move (T 12),0,none,[12]⟩,
 ⟨some 14,.fieldAddr N.zf (V 2) 4,0,(some (some 13,false)),[13]⟩,
 ⟨some 15,.load N.zp (T 14),0,(some (some 13,false)),[14,13]⟩,
 ⟨some 16,.move (V 14),0,(some (some 13,false)),[13]⟩,
 ⟨some 17,.indexAddr N.zp (T 15) (T 16),0,(some (some 13,false)),[15,16,13]⟩,
 ⟨some 18,.fieldAddr N.zal (T 17) 1,0,(some (some 13,false)),[17,13]⟩,
 ⟨some 19,.load N.za (T 18),0,(some (some 13,false)),[18,13]⟩,
 ⟨some 20,.fieldAddr N.zf (V 3) 4,0,(some (some 13,false)),[13]⟩,
 ⟨some 21,.load N.zp (T 20),0,(some (some 13,false)),[20,13]⟩,
 ⟨some 22,.move (V 14),0,(some (some 13,false)),[13]⟩,
 ⟨some 23,.indexAddr N.zp (T 21) (T 22),0,(some (some 13,false)),[21,22,13]⟩,
 ⟨some 24,.fieldAddr N.zal (T 23) 1,0,(some (some 13,false)),[23,13]⟩,
 ⟨some 25,.load N.za (T 24),0,(some (some 13,false)),[24,13]⟩,
 ⟨some 26,.call ⟨.value (.func N.zff),#[T 19,T 25],#[N.za,N.za]⟩,N.zay,(some (some 13,false)),[19,25,13,13]⟩,
 ⟨some 27,.unOp .not N.zay (T 26),0,(some (some 13,false)),[26,13]⟩,
 ⟨some (15+100),.pick (T 13) (.const (.bool true)) (T 27),0,none,[13,27]⟩]) (
 .cond 15 (
 .seq (
 .ops [
 ⟨some (4+100),.assign (.const (.bool false)),0,none,[]⟩]) (
 .ret)) (
 .skip))))) (
 .ops [
 ⟨some 0,.binOp .add N.ze (V 12) (.const (.int .i64 1)) N.ze,0,none,[]⟩,
 ⟨some (12+100),.move (T 0),0,none,[]⟩]))))))) (
 .seq (
 .ops [
 ⟨some (4+100),.assign (.const (.bool true)),0,none,[]⟩]) (
 .ret)))))
def zaal (N:Nums):C:=
 .seq (
 .ops [
 ⟨some (2+100),.assign (.const (.int .i64 0)),0,none,[]⟩]) (
 .seq (
 .ops [
 ⟨some 0,.move (V 0),0,none,[]⟩,
 ⟨some 1,.convert N.zh N.ze (T 0),0,none,[]⟩,
 ⟨some 2,.move (V 1),0,none,[]⟩,
 ⟨some 3,.binOp .add N.ze (T 2) (.const (.int .i64 1)) N.ze,0,none,[]⟩,
 ⟨some 4,.binOp .rem N.ze (T 1) (T 3) N.ze,0,none,[]⟩,
 ⟨some (2+100),.assign (T 4),0,none,[]⟩]) (
 .ret))
def c_got (N:Nums):C:=
 .seq (
 .ops [
 ⟨some (1+100),.box N.zbe (V 0),0,none,[]⟩,
 ⟨some (2+100),.alloc N.zf,0,none,[]⟩]) (
 .seq (
 .ops [
 ⟨some 0,.fieldAddr N.zbe (V 1) 0,0,none,[]⟩,
 ⟨some 1,.load N.zcv (T 0),0,none,[]⟩,
 ⟨some 2,.fieldAddr N.zbe (V 1) 1,0,none,[]⟩,
 ⟨some 3,.load N.za (T 2),0,none,[]⟩,
 ⟨some 4,.fieldAddr N.zbe (V 1) 2,0,none,[]⟩,
 ⟨some 5,.load N.zay (T 4),0,none,[]⟩,
 ⟨some 6,.build N.zf #[(0,(T 1)),(1,(T 3)),(2,(T 5))],0,none,[]⟩,
 ⟨some (3+100),.alloc N.zf,0,none,[]⟩,
 ⟨none,.store N.zf (V 3) (T 6),0,none,[]⟩]) (
 .seq (
 .seq (
 .ops [
 ⟨some 0,.fieldAddr N.zbe (V 1) 3,0,none,[]⟩,
 ⟨some (4+100),.load N.zag (T 0),0,none,[]⟩,
 ⟨some (5+100),.call ⟨.builtin .len,#[V 4],#[N.zag]⟩,N.ze,none,[]⟩,
 ⟨some (6+100),.move (.const (.int .i64 0)),0,none,[]⟩]) (
 .block 0 (
 .loop (
 .seq (
 .ops [
 ⟨some (7+100),.binOp .lss N.ze (V 6) (V 5) N.ze,0,none,[]⟩]) (
 .seq (
 .cond 7 (
 .skip) (
 .exit 0)) (
 .seq (
 .block 1 (
 .seq (
 .ops [
 ⟨some 0,.indexAddr N.zag (V 4) (V 6),0,none,[]⟩,
 ⟨some 1,.load N.zbe (T 0),0,none,[]⟩,
 ⟨some (8+100),.alloc N.zbe,0,none,[]⟩,
 ⟨none,.store N.zbe (V 8) (T 1),0,none,[]⟩]) (
 .draw [
 ⟨some 0,.fieldAddr N.zf (V 3) 3,0,none,[]⟩,
 ⟨some 1,.load N.zak (T 0),0,none,[0]⟩,
 ⟨some 2,.load N.zbe (V 8),0,none,[]⟩,
 ⟨some 3,.call ⟨.value (.func N.f_got),#[T 2],#[N.zbe]⟩,N.zf,none,[2]⟩,
 ⟨some 4,.buildSlice N.zak 1 #[(0,(T 3))],0,none,[3]⟩,
 ⟨some 5,.call ⟨.builtin .append,#[T 1,T 4],#[N.zak,N.zak]⟩,N.zak,none,[1,4,3]⟩,
 ⟨some 6,.fieldAddr N.zf (V 3) 3,0,none,[0,1,2,3,4,5]⟩,
 ⟨none,.store N.zak (T 6) (T 5),0,none,[6,5,5,0,1,2,3,4,5]⟩]))) (
 .ops [
 ⟨some 0,.binOp .add N.ze (V 6) (.const (.int .i64 1)) N.ze,0,none,[]⟩,
 ⟨some (6+100),.move (T 0),0,none,[]⟩]))))))) (
 .seq (
 .seq (
 .ops [
 ⟨some 0,.fieldAddr N.zbe (V 1) 4,0,none,[]⟩,
 ⟨some (9+100),.load N.zpa (T 0),0,none,[]⟩,
 ⟨some (10+100),.call ⟨.builtin .len,#[V 9],#[N.zpa]⟩,N.ze,none,[]⟩,
 ⟨some (11+100),.move (.const (.int .i64 0)),0,none,[]⟩]) (
 .block 2 (
 .loop (
 .seq (
 .ops [
 ⟨some (12+100),.binOp .lss N.ze (V 11) (V 10) N.ze,0,none,[]⟩]) (
 .seq (
 .cond 12 (
 .skip) (
 .exit 2)) (
 .seq (
 .block 3 (
 .seq (
 .ops [
 ⟨some 0,.indexAddr N.zpa (V 9) (V 11),0,none,[]⟩,
 ⟨some 1,.load N.ztl (T 0),0,none,[]⟩,
 ⟨some (13+100),.alloc N.ztl,0,none,[]⟩,
 ⟨none,.store N.ztl (V 13) (T 1),0,none,[]⟩]) (
 .ops [
 ⟨some 0,.fieldAddr N.zf (V 3) 4,0,none,[]⟩,
 ⟨some 1,.load N.zp (T 0),0,none,[]⟩,
 ⟨some 2,.fieldAddr N.ztl (V 13) 0,0,none,[]⟩,
 ⟨some 3,.load N.zc (T 2),0,none,[]⟩,
 ⟨some 4,.fieldAddr N.ztl (V 13) 1,0,none,[]⟩,
 ⟨some 5,.load N.za (T 4),0,none,[]⟩,
 ⟨some 6,.build N.zal #[(0,(T 3)),(1,(T 5))],0,none,[]⟩,
 ⟨some 7,.buildSlice N.zp 1 #[(0,(T 6))],0,none,[]⟩,
 ⟨some 8,.call ⟨.builtin .append,#[T 1,T 7],#[N.zp,N.zp]⟩,N.zp,none,[]⟩,
 ⟨some 9,.fieldAddr N.zf (V 3) 4,0,none,[]⟩,
 ⟨none,.store N.zp (T 9) (T 8),0,none,[]⟩]))) (
 .ops [
 ⟨some 0,.binOp .add N.ze (V 11) (.const (.int .i64 1)) N.ze,0,none,[]⟩,
 ⟨some (11+100),.move (T 0),0,none,[]⟩]))))))) (
 .seq (
 .ops [
 ⟨some 0,.load N.zf (V 3),0,none,[]⟩,
 ⟨none,.store N.zf (V 2) (T 0),0,none,[]⟩]) (
 .ret)))))
inductive R where
 | var (i:Nat)
 | cell (i:Nat) (t:TypeId)
def res1B (loc:List Nat) (N:Nat):ResultVar→R→Bool
 | .tmp t,.var i=>decide (zew loc t=some i) && Nat.blt t N
 | .cell a t,.cell i u=>decide (zew loc a=some i) && Nat.blt a N && Nat.beq t u
 | _,_=>false
def resB (loc:List Nat) (N:Nat):List ResultVar→List R→Bool
 | [],[]=>true
 | x :: xs,r :: rs=>res1B loc N x r && resB loc N xs rs
 | _,_=>false
def nodB:List Nat→Bool
 | []=>true
 | t :: l=>l.all (fun u=>!Nat.beq t u) && nodB l
theorem nodB_ok:∀ {l:List Nat},nodB l=true→l.Nodup
 | [],_=>List.nodup_nil
 | t :: l,h=>by
  rw[nodB,Bool.and_eq_true,List.all_eq_true] at h
  refine List.nodup_cons.2 ⟨fun hm=>?_,nodB_ok h.2⟩
  have:=h.1 t hm
  simp at this
def locB (loc:List Nat) (N np:Nat):Bool:=(nodB loc && loc.all (fun t=>Nat.blt t N)) && (List.range np).all fun i=>decide (zew loc i=some i)
structure zei (loc:List Nat) (N:Nat):Prop where
 lt:∀ i s:Nat,loc[i]?=some s→s < N
 nd:loc.Nodup
structure FOk (P:Program) (f:FuncId) (np:Nat) (c:C) (res:List R):Prop where
 out:∃ fn code loc,P.funcs[f]?=some fn∧fn.body=some code∧(fn.name == "runtime.NumGoroutine")=false∧er loc fn.ntmps code=some c∧np≤fn.ntmps∧locB loc fn.ntmps np=true∧resB loc fn.ntmps fn.results.toList res=true
theorem FOk.has {P:Program} {f:FuncId} {np:Nat} {c:C} {res:List R} (h:FOk P f np c res):zcp P f:=by
 obtain⟨fn,code,loc,h1,h2,h3,_⟩:=h.out
 exact⟨fn,h1,by rw[h2]; rfl,h3⟩
def zacx (P:Program):R→Env→World→Value→Prop
 | .var i,σ,_,v=>v=σ i
 | .cell i t,σ,w,v=>∃ a,σ i=.pointer (some a)∧(loadVar t a).run P w=.ok v w
def Gives (P:Program):List R→Env→World→Value→Prop
 | [],_,_,v=>v=.tuple #[]
 | [r],σ,w,v=>zacx P r σ w v
 | [r,s],σ,w,v=>∃ a b,zacx P r σ w a∧zacx P s σ w b∧v=.tuple #[a,b]
 | _,_,_,_=>False
def Call (P:Program) (f:FuncId) (args:Array Value) (w:World) (Rt:Value→World→Prop):Prop:=
 Calls P f args w fun e w'=>∃ v,e=.returned v∧Rt v w'
theorem Call.mono {P:Program} {f:FuncId} {args:Array Value} {w:World} {Rt Rt':Value→World→Prop} (h:Call P f args w Rt) (hr:∀ v w',Rt v w'→Rt' v w'):Call P f args w Rt':=
 Calls.mono h fun _ w' ⟨v,he,hv⟩=>⟨v,he,hr v w' hv⟩
def retQ (P:Program) (res:List R) (Rt:Value→World→Prop):Exit→Env→World→Prop:=
 fun e σ w=>(e=.normal∨e=.ret)∧∃ v,Gives P res σ w v∧Rt v w
def zdf (args:Array Value):Env:=fun i=>args.getD i undef
section
variable (a b c d:Value)
theorem zbh:zdf #[a] 0=a:=rfl
theorem zcx:zdf #[a,b] 0=a:=rfl
theorem zck:zdf #[a,b] 1=b:=rfl
theorem zqw:zdf #[a,b,c] 0=a:=rfl
theorem zkn:zdf #[a,b,c] 1=b:=rfl
theorem zod:zdf #[a,b,c] 2=c:=rfl
theorem zqv:zdf #[a,b,c,d] 0=a:=rfl
theorem zoc:zdf #[a,b,c,d] 1=b:=rfl
theorem zmb:zdf #[a,b,c,d] 2=c:=rfl
theorem zva:zdf #[a,b,c,d] 3=d:=rfl
end
theorem zpo {P:Program} {loc:List Nat} {N:Nat} {a:Act} {σ:Env} {w:World} {v:Value} (hf:Fits loc N a σ) {x:ResultVar} {r:R} (hx:res1B loc N x r=true) (hv:zacx P r σ w v) :
  ((match x with
  | .tmp t=>pure (a.tmps.getD t undef)
  | .cell b t=>do loadVar t (← asAddr (a.tmps.getD b undef))):Sem Value).run P w=.ok v w:=by
 cases x with
 | tmp t=>
  cases r with
  | var i=>
   simp only [res1B,Bool.and_eq_true,decide_eq_true_eq] at hx
   have:=hf.at_ t i hx.1 (by simpa using hx.2)
   simp only [zacx] at hv
   subst hv
   simp only [Sem.run_pure,this]
  | cell i u=>simp [res1B] at hx
 | cell b t=>
  cases r with
  | var i=>simp [res1B] at hx
  | cell i u=>
   simp only [res1B,Bool.and_eq_true,decide_eq_true_eq] at hx
   have:=hf.at_ b i hx.1.1 (by simpa using hx.1.2)
   have htu:t=u:=by simpa using hx.2
   subst htu
   obtain⟨ad,h1,h2⟩:=hv
   simp only [Sem.run_bind,this,h1,asAddr,Sem.run_pure,Result.andThen_ok,h2]
theorem zjc {α β γ:Type} (r:Result α) (f:α→World→Result β) (g:β→World→Result γ):(r.andThen f).andThen g=r.andThen fun a w=>(f a w).andThen g:=by
 cases r<;>rfl
theorem zabn {P:Program} {loc:List Nat} {N:Nat} {a:Act} {σ:Env} {w:World} {v:Value} {fn:Func} (hf:Fits loc N a σ) {xs:List ResultVar} {res:List R} (hxs:fn.results=xs.toArray)
  (hb:resB loc N xs res=true) (hg:Gives P res σ w v):(results fn a.tmps).run P w=.ok v w:=by
 unfold results
 rw[hxs]
 rcases xs with _ | ⟨x,_ | ⟨y,_ | ⟨z,xs⟩⟩⟩
 ·rcases res with _ | ⟨r,res⟩
  ·simp only [Gives] at hg; subst hg; simp
  ·simp [resB] at hb
 ·rcases res with _ | ⟨r,_ | ⟨s,res⟩⟩
  ·simp [resB] at hb
  ·simp only [resB,Bool.and_true] at hb
   have:=zpo (P:=P) hf hb hg
   cases x<;>simp_all
  ·simp [resB] at hb
 ·rcases res with _ | ⟨r,_ | ⟨s,_ | ⟨u,res⟩⟩⟩
  ·simp [resB] at hb
  ·simp [resB] at hb
  ·simp only [resB,Bool.and_true,Bool.and_eq_true] at hb
   obtain⟨va,vb,ha,hb',rfl⟩:=hg
   have h1:=zpo (P:=P) hf hb.1 ha
   have h2:=zpo (P:=P) hf hb.2 hb'
   cases x<;>cases y<;>simp_all
   ·rw[← zjc,h2]; rfl
   ·rw[← zjc,h1]; simp
   ·rw[← zjc,h1]; simp only [Result.andThen_ok]; rw[← zjc,h2]; rfl
  ·simp [resB] at hb
 ·rcases res with _ | ⟨r,_ | ⟨s,_ | ⟨u,res⟩⟩⟩<;>first | (simp [resB] at hb; done) | (simp [Gives] at hg)
theorem FOk.call {P:Program} {f:FuncId} {np:Nat} {c:C} {res:List R} (h:FOk P f np c res) {args:Array Value} (hsz:args.size=np) {w:World} {Rt:Value→World→Prop}
  (H:∀ loc N,zei loc N→W P loc N c (retQ P res Rt) (zdf args) w):Call P f args w Rt:=by
 obtain⟨fn,code,loc,h1,h2,_,h3,h4,h5,h6⟩:=h.out
 unfold locB at h5
 rw[Bool.and_eq_true,Bool.and_eq_true,List.all_eq_true,List.all_eq_true] at h5
 have hlt:∀ t∈loc,t < fn.ntmps:=fun t ht=>by simpa using h5.1.2 t ht
 have hid:∀ i,i < np→zew loc i=some i:=fun i hi=>by simpa using h5.2 i (List.mem_range.2 hi)
 have hlo:zei loc fn.ntmps:=⟨fun i s hs=>hlt s (List.mem_of_getElem? hs),nodB_ok h5.1.1⟩
 refine calls_of_W h1 h2 h3 (by omega) (zdf args) (fun t i hl _=>?_) (zii (H loc fn.ntmps hlo) ?_)
 ·simp only [zdf]
  by_cases ht:t < np
  ·have:=hid t ht
   rw[hl] at this
   injection this with e
   rw[e]
  ·by_cases hi:i < np
   ·exact absurd (zzu hl (hid i hi)) (by omega)
   ·simp [Array.getD,show ¬ t < args.size by omega,show ¬ i < args.size by omega]
 ·rintro e σ w' ⟨he,v,hg,hR⟩
  refine⟨he,v,fun a hf=>?_,v,rfl,hR⟩
  exact zabn hf (by simp) h6 hg
theorem zis {P:Program} {ρ:Env} {w:World} {K:Env→World→Prop} {d:Option Nat} {ty:TypeId} {af:List Nat} {f:FuncId} {xs:Array Operand} {ts:Array TypeId} (hf:zcp P f) :
  zcn P ⟨d,.call ⟨.value (.func f),xs,ts⟩,ty,none,af⟩ ρ w K=Call P f (xs.map (ev ρ)) w fun v w'=>K (put ρ d v) w':=step_call hf
section
variable {P:Program} {ρ:Env} {w:World} {K:Env→World→Prop} {d:Option Nat} {ty:TypeId} {af:List Nat} {f:FuncId} {x y z u:Operand} {ts:Array TypeId}
theorem zlo (hf:zcp P f):zcn P ⟨d,.call ⟨.value (.func f),#[],ts⟩,ty,none,af⟩ ρ w K=Call P f #[] w fun v w'=>K (put ρ d v) w':=by rw[zis hf]; simp
theorem zan (hf:zcp P f):zcn P ⟨d,.call ⟨.value (.func f),#[x],ts⟩,ty,none,af⟩ ρ w K=Call P f #[ev ρ x] w fun v w'=>K (put ρ d v) w':=by rw[zis hf]; simp
theorem zah (hf:zcp P f):zcn P ⟨d,.call ⟨.value (.func f),#[x,y],ts⟩,ty,none,af⟩ ρ w K=Call P f #[ev ρ x,ev ρ y] w fun v w'=>K (put ρ d v) w':=by rw[zis hf]; simp
theorem zit (hf:zcp P f):zcn P ⟨d,.call ⟨.value (.func f),#[x,y,z],ts⟩,ty,none,af⟩ ρ w K=Call P f #[ev ρ x,ev ρ y,ev ρ z] w fun v w'=>K (put ρ d v) w':=by rw[zis hf]; simp
theorem zgq (hf:zcp P f):zcn P ⟨d,.call ⟨.value (.func f),#[x,y,z,u],ts⟩,ty,none,af⟩ ρ w K=Call P f #[ev ρ x,ev ρ y,ev ρ z,ev ρ u] w fun v w'=>K (put ρ d v) w':=by rw[zis hf]; simp
end
@[congr] theorem Call_congr {P:Program} {f:FuncId} {args args':Array Value} {w:World} {Rt:Value→World→Prop} (h:args=args'):Call P f args w Rt=Call P f args' w Rt:=by rw[h]
theorem zabz {f g:Nat→Nat} (op:Op) (h:∀ x∈op.operands,∀ t,x=.tmp t→f t=g t):zen f op=zen g op:=by
 have e:∀ x∈op.operands,mapO f x=mapO g x:=fun x hx=>by
  cases x with
  | tmp t=>simp only [mapO]; rw[h _ hx t rfl]
  | _=>rfl
 clear h
 cases op with
 | build t ps=>
  simp only [zen,Option.some.injEq,Op.build.injEq,true_and]
  refine Array.map_congr_left fun p hp=>?_
  rw[e p.2 (by simp only [Op.operands,List.mem_toArray,List.mem_map]; exact⟨p,by simpa using hp,rfl⟩)]
 | buildSlice t n ps=>
  simp only [zen,Option.some.injEq,Op.buildSlice.injEq,true_and]
  refine Array.map_congr_left fun p hp=>?_
  rw[e p.2 (by simp only [Op.operands,List.mem_toArray,List.mem_map]; exact⟨p,by simpa using hp,rfl⟩)]
 | makeFunc fn a b=>
  simp only [zen,Option.some.injEq,Op.makeFunc.injEq,true_and]
  exact⟨Array.map_congr_left fun x hx=>e x (by simp [Op.operands,hx]),Array.map_congr_left fun x hx=>e x (by simp [Op.operands,hx])⟩
 | makeMap t r=>
  cases r with
  | none=>rfl
  | some x=>simp [zen,e x (by simp [Op.operands])]
 | slice t x l hh m=>
  have ex:=e x (by simp [Op.operands])
  have el:l.map (mapO f)=l.map (mapO g):=by
   cases l with
   | none=>rfl
   | some y=>simp [e y (by simp [Op.operands])]
  have eh:hh.map (mapO f)=hh.map (mapO g):=by
   cases hh with
   | none=>rfl
   | some y=>simp [e y (by simp [Op.operands])]
  have em:m.map (mapO f)=m.map (mapO g):=by
   cases m with
   | none=>rfl
   | some y=>simp [e y (by simp [Op.operands])]
  simp only [zen,ex,el,eh,em]
 | call c=>
  have ea:c.args.map (mapO f)=c.args.map (mapO g):=Array.map_congr_left fun x hx=>e x (by
   simp only [Op.operands,Call.operands]
   cases c.callee<;>simp [hx])
  have ec:zha f c.callee=zha g c.callee:=by
   cases hc:c.callee with
   | value x=>simp only [zha]; rw[e x (by simp [Op.operands,Call.operands,hc])]
   | invoke x m=>simp only [zha]; rw[e x (by simp [Op.operands,Call.operands,hc])]
   | builtin b=>rfl
  simp only [zen,ea,ec]
 | _=>first
  | rfl
  | (simp only [Op.operands,List.mem_cons,List.not_mem_nil,or_false,forall_eq,forall_eq_or_imp,Array.mem_def] at e; simp only [zen,e])
def swN (i j k:Nat):Nat:=if k=i then j else if k=j then i else k
theorem zlf (i j k:Nat):swN i j (swN i j k)=k:=by
 unfold swN
 split<;>rename_i h1
 ·split<;>rename_i h2
  ·omega
  ·rw[if_pos rfl]; omega
 ·split<;>rename_i h2
  ·rw[if_pos rfl]; omega
  ·rfl
def swT (i j t:Nat):Nat:=if t < 100 then t else swN i j (t - 100)+100
theorem zabe {i j t:Nat} (h:t < 100):swT i j t=t:=by unfold swT; rw[if_pos h]
theorem zabc {i j k:Nat}:swT i j (k+100)=swN i j k+100:=by unfold swT; rw[if_neg (by omega),Nat.add_sub_cancel]
theorem zabd (i j t:Nat):swT i j (swT i j t)=t:=by
 by_cases h:t < 100
 ·rw[zabe h,zabe h]
 ·have e:t=(t - 100)+100:=by omega
  rw[e,zabc,zabc,zlf]
def ROp.sw (i j:Nat) (r:ROp):ROp:={ dst:=r.dst.map (swT i j),op:=(zen (swT i j) r.op).getD r.op,type:=r.type,guard:=r.guard.map fun g=>(g.1.map (swT i j),g.2),after:=r.after }
def C.sw (i j:Nat):C→C
 | .ops l=>.ops (l.map (ROp.sw i j))
 | .draw l=>.draw (l.map (ROp.sw i j))
 | .seq a b=>.seq (a.sw i j) (b.sw i j)
 | .cond k a b=>.cond (swN i j k) (a.sw i j) (b.sw i j)
 | .block id c=>.block id (c.sw i j)
 | .loop c=>.loop (c.sw i j)
 | .scope c=>.scope (c.sw i j)
 | c=>c
theorem mapO_mapO (f g:Nat→Nat) (x:Operand):mapO f (mapO g x)=mapO (fun t=>f (g t)) x:=by cases x<;>rfl
theorem zuc (f g:Nat→Nat) (op:Op) {q:Op} (h:zen g op=some q):zen f q=zen (fun t=>f (g t)) op:=by
 have e:∀ x,mapO f (mapO g x)=mapO (fun t=>f (g t)) x:=mapO_mapO f g
 cases op with
 | call c=>
  simp only [zen,Option.some.injEq] at h
  subst h
  cases hc:c.callee<;>simp [zen,zha,hc,e,Function.comp_def]
 | _=>first
  | (simp only [zen,reduceCtorEq] at h; done)
  | (simp only [zen,Option.some.injEq] at h; subst h; simp [zen,e,Function.comp_def,Option.map_map])
theorem mapO_id (x:Operand):mapO (fun t=>t) x=x:=by cases x<;>rfl
theorem mapOp_id (op:Op) {q:Op} (h:zen (fun t=>t) op=some q):q=op:=by
 have e:∀ x,mapO (fun t=>t) x=x:=mapO_id
 have e2:mapO (fun t=>t)=id:=funext e
 cases op with
 | call c=>
  simp only [zen,Option.some.injEq] at h
  subst h
  obtain⟨cl,ar,at'⟩:=c
  cases cl<;>simp [zha,e,e2]
 | _=>first
  | (simp only [zen,reduceCtorEq] at h; done)
  | (simp only [zen,Option.some.injEq] at h; subst h; simp [e,e2])
theorem znk (f g:Nat→Nat) (op:Op):(zen f op).isSome=(zen g op).isSome:=by cases op<;>rfl
theorem ROp.sw_sw (i j:Nat) (r:ROp):(r.sw i j).sw i j=r:=by
 obtain⟨d,op,ty,g,af⟩:=r
 have hf:(fun t=>swT i j (swT i j t))=fun t=>t:=funext (zabd i j)
 have e1:(d.map (swT i j)).map (swT i j)=d:=by cases d<;>simp [zabd]
 have e2:(g.map fun g=>(g.1.map (swT i j),g.2)).map (fun g=>(g.1.map (swT i j),g.2))=g:=by
  cases g with
  | none=>rfl
  | some g=>obtain⟨a,b⟩:=g; cases a<;>simp [zabd]
 have e3:(zen (swT i j) ((zen (swT i j) op).getD op)).getD ((zen (swT i j) op).getD op)=op:=by
  cases h:zen (swT i j) op with
  | none=>simp only [Option.getD_none]; rw[h]; rfl
  | some q=>
   simp only [Option.getD_some]
   have h2:=zuc (swT i j) (swT i j) op h
   rw[hf] at h2
   have h3:(zen (fun t=>t) op).isSome=true:=by rw[znk _ (swT i j),h]; rfl
   obtain⟨q',hq'⟩:=Option.isSome_iff_exists.1 h3
   rw[h2,hq',mapOp_id op hq']
   rfl
 simp only [ROp.sw,e1,e2,e3]
theorem C.sw_sw (i j:Nat):∀ c:C,(c.sw i j).sw i j=c
 | .ops l=>by simp only [C.sw,List.map_map,Function.comp_def,ROp.sw_sw,List.map_id']
 | .draw l=>by simp only [C.sw,List.map_map,Function.comp_def,ROp.sw_sw,List.map_id']
 | .seq a b=>by simp only [C.sw,C.sw_sw i j a,C.sw_sw i j b]
 | .cond k a b=>by simp only [C.sw,C.sw_sw i j a,C.sw_sw i j b,zlf]
 | .block id c=>by simp only [C.sw,C.sw_sw i j c]
 | .loop c=>by simp only [C.sw,C.sw_sw i j c]
 | .scope c=>by simp only [C.sw,C.sw_sw i j c]
 | .skip=>rfl
 | .ret=>rfl
 | .label _=>rfl
 | .goto _=>rfl
 | .exit _=>rfl
theorem zls {l:List Nat} (hn:l.Nodup) {t k:Nat}:zew l t=some k ↔ l[k]?=some t:=by
 unfold zew
 constructor
 ·intro h
  have:=List.idxOf?_eq_some_iff.1 h
  grind
 ·intro h
  obtain⟨hk,hkt⟩:=List.getElem?_eq_some_iff.1 h
  have hm:t∈l:=List.mem_of_getElem? h
  cases hc:l.idxOf? t with
  | none=>exact absurd hm (by simpa [List.idxOf?_eq_none_iff] using hc)
  | some k'=>
   have h2:=List.idxOf?_eq_some_iff.1 hc
   have h3:l[k']?=some t:=by grind
   obtain⟨hk',hkt'⟩:=List.getElem?_eq_some_iff.1 h3
   have:=(List.getElem_inj (h₀:=hk) (h₁:=hk') hn).1 (hkt.trans hkt'.symm)
   rw[this]
def locS (i j:Nat) (loc:List Nat):List Nat:=(List.range loc.length).map fun k=>loc.getD (swN i j k) 0
theorem swN_lt {i j n k:Nat} (hi:i < n) (hj:j < n):swN i j k < n ↔ k < n:=by
 unfold swN
 split
 ·constructor<;>intro<;>omega
 ·split
  ·constructor<;>intro<;>omega
  ·rfl
theorem zmm {i j:Nat} {loc:List Nat} (hi:i < loc.length) (hj:j < loc.length) (k:Nat):(locS i j loc)[k]?=loc[swN i j k]?:=by
 unfold locS
 rw[List.getElem?_map]
 by_cases hk:k < loc.length
 ·have h2:=(swN_lt hi hj (k:=k)).2 hk
  rw[List.getElem?_range hk,Option.map_some,List.getD_eq_getElem?_getD,List.getElem?_eq_getElem h2]
  rfl
 ·have h2:¬ swN i j k < loc.length:=fun h=>hk ((swN_lt hi hj).1 h)
  rw[List.getElem?_eq_none (by simpa using hk),List.getElem?_eq_none (by omega)]
  rfl
theorem zzt {l:List Nat} (h:∀ (a b t:Nat),l[a]?=some t→l[b]?=some t→a=b):l.Nodup:=by
 refine List.pairwise_iff_getElem.2 fun a b ha hb hab e=>?_
 have:=h a b l[a] (List.getElem?_eq_getElem ha) (by rw[List.getElem?_eq_getElem hb,e])
 omega
theorem zzy {l:List Nat} (hn:l.Nodup) {a b t:Nat} (h1:l[a]?=some t) (h2:l[b]?=some t):a=b:=by
 have e1:=(zls hn).2 h1
 rw[(zls hn).2 h2] at e1
 exact(Option.some.inj e1).symm
theorem zom {i j:Nat} {loc:List Nat} (hn:loc.Nodup) (hi:i < loc.length) (hj:j < loc.length):(locS i j loc).Nodup:=zzt fun a b t h1 h2=>by
 rw[zmm hi hj] at h1 h2
 have:=zzy hn h1 h2
 have e:=congrArg (swN i j) this
 rwa [zlf,zlf] at e
theorem locOf_locS {i j:Nat} {loc:List Nat} (hn:loc.Nodup) (hi:i < loc.length) (hj:j < loc.length) (t:Nat):zew loc t=(zew (locS i j loc) t).map (swN i j):=by
 have hS:=zom hn hi hj
 cases h:zew (locS i j loc) t with
 | some k=>
  rw[Option.map_some,zls hn,← zmm hi hj]
  exact(zls hS).1 h
 | none=>
  rw[Option.map_none]
  cases h2:zew loc t with
  | none=>rfl
  | some k=>
   have h3:=(zls hn).1 h2
   have h4:(locS i j loc)[swN i j k]?=some t:=by rw[zmm hi hj,zlf]; exact h3
   rw[(zls hS).2 h4] at h
   cases h
section
variable {loc loc':List Nat} {N i j:Nat}
theorem zzv (H:∀ t,zew loc t=(zew loc' t).map (swN i j)) (t:Nat):(zew loc t).isSome=(zew loc' t).isSome:=by rw[H t]; cases zew loc' t<;>rfl
theorem base_sw (H:∀ t,zew loc t=(zew loc' t).map (swN i j)) (ops:List Oper):zwr loc ops=zwr loc' ops:=by
 unfold zwr
 simp only [zzv H]
theorem fine_sw (H:∀ t,zew loc t=(zew loc' t).map (swN i j)) (base t:Nat):fine loc N base t=fine loc' N base t:=by
 unfold fine
 rw[zzv H]
theorem ren_sw (H:∀ t,zew loc t=(zew loc' t).map (swN i j)) {base t:Nat} (hf:fine loc' N base t=true):ren loc base t=swT i j (ren loc' base t):=by
 unfold ren
 rw[H t]
 cases h:zew loc' t with
 | some k=>simp only [Option.map_some]; rw[zabc]
 | none=>
  simp only [Option.map_none]
  unfold fine at hf
  simp [h] at hf
  rw[zabe (by omega)]
theorem erOper_sw (H:∀ t,zew loc t=(zew loc' t).map (swN i j)) (base:Nat) (all:List Oper) (o:Oper):zkx loc N base all o=(zkx loc' N base all o).map (ROp.sw i j):=by
 have hfn:fine loc N base=fine loc' N base:=funext (fine_sw H base)
 unfold zkx
 rw[hfn]
 by_cases hc:(o.dst.toList++o.op.operands.toList.flatMap Operand.tmps).all (fine loc' N base)=true
 ·rw[if_pos hc,if_pos hc]
  rw[List.all_append,Bool.and_eq_true,List.all_eq_true,List.all_eq_true] at hc
  have hd:o.dst.map (ren loc base)=(o.dst.map (ren loc' base)).map (swT i j):=by
   cases hdst:o.dst with
   | none=>rfl
   | some d=>simp only [Option.map_some]; rw[ren_sw H (hc.1 d (by simp [hdst]))]
  have ho:zen (ren loc base) o.op=(zen (ren loc' base) o.op).map fun q=>(zen (swT i j) q).getD q:=by
   have e1:zen (ren loc base) o.op=zen (fun t=>swT i j (ren loc' base t)) o.op:=zabz o.op fun x hx t ht=>ren_sw H (hc.2 t (List.mem_flatMap.2 ⟨x,by simpa using hx,by rw[ht]; simp [Operand.tmps]⟩))
   rw[e1]
   cases h:zen (ren loc' base) o.op with
   | none=>
    have:=znk (fun t=>swT i j (ren loc' base t)) (ren loc' base) o.op
    rw[h] at this
    cases h2:zen (fun t=>swT i j (ren loc' base t)) o.op with
    | none=>rfl
    | some q=>rw[h2] at this; cases this
   | some q=>
    have h2:=zuc (swT i j) (ren loc' base) o.op h
    have h3:(zen (swT i j) q).isSome=true:=by
     rw[h2,znk _ (ren loc' base),h]; rfl
    obtain⟨q',hq'⟩:=Option.isSome_iff_exists.1 h3
    rw[← h2,hq',Option.map_some,hq']
    rfl
  rw[hd,ho]
  cases hg:o.guard with
  | none=>cases zen (ren loc' base) o.op<;>rfl
  | some g=>
   obtain⟨jg,b⟩:=g
   simp only
   cases hj:all[jg]? with
   | none=>rfl
   | some oj=>
    simp only
    cases hod:oj.dst with
    | none=>cases zen (ren loc' base) o.op<;>rfl
    | some d=>
     simp only
     by_cases hf:fine loc' N base d=true
     ·rw[if_pos hf,if_pos hf,ren_sw H hf]
      cases zen (ren loc' base) o.op<;>rfl
     ·rw[if_neg hf,if_neg hf]
      rfl
 ·rw[if_neg hc,if_neg hc]
  rfl
theorem mapM_map {α β γ:Type} {f:α→Option β} {f':α→Option γ} {g:β→γ} (h:∀ x,f' x=(f x).map g):∀ l:List α,l.mapM f'=(l.mapM f).map (List.map g)
 | []=>rfl
 | x :: l=>by
  rw[List.mapM_cons,List.mapM_cons,h x,mapM_map h l]
  cases f x with
  | none=>rfl
  | some y=>
   cases l.mapM f<;>rfl
theorem zaad (H:∀ t,zew loc t=(zew loc' t).map (swN i j)):∀ code:Code,er loc N code=(er loc' N code).map (C.sw i j)
 | .skip=>rfl
 | .ret=>rfl
 | .label _=>rfl
 | .goto _=>rfl
 | .exit _=>rfl
 | .region _ ops d=>by
  have e:zlh loc N ops.toList=(zlh loc' N ops.toList).map (List.map (ROp.sw i j)):=by
   unfold zlh
   rw[base_sw H]
   exact mapM_map (erOper_sw H _ _) _
  rw[zcj,zcj,e]
  cases zlh loc' N ops.toList with
  | none=>rfl
  | some l=>cases d<;>simp [C.sw,ROp.sw,Function.comp_def]
 | .seq a b=>by
  simp only [er,zaad H a,zaad H b]
  cases er loc' N a with
  | none=>rfl
  | some x=>cases er loc' N b<;>rfl
 | .cond (.tmp t) a b=>by
  simp only [er,zaad H a,zaad H b,H t]
  cases zew loc' t with
  | none=>rfl
  | some k=>
   cases er loc' N a with
   | none=>rfl
   | some x=>cases er loc' N b<;>rfl
 | .block id c=>by
  simp only [er,zaad H c]
  cases er loc' N c<;>rfl
 | .loop c=>by
  simp only [er,zaad H c]
  cases er loc' N c<;>rfl
 | .scope c=>by
  simp only [er,zaad H c]
  cases er loc' N c<;>rfl
 | .cond (.const _) _ _=>rfl
 | .cond (.global _) _ _=>rfl
 | .cond (.func _) _ _=>rfl
 | .rangeFunc ..=>rfl
 | .refuse _=>rfl
def swE (i j:Nat) (σ:Env):Env:=fun k=>σ (swN i j k)
theorem swE_swE (i j:Nat) (σ:Env):swE i j (swE i j σ)=σ:=funext fun k=>by unfold swE; rw[zlf]
theorem fits_sw (H:∀ t,zew loc t=(zew loc' t).map (swN i j)) {a:Act} {σ:Env} (h:Fits loc N a σ):Fits loc' N a (swE i j σ):=
 ⟨h.defers,h.size,fun t k hk ht=>h.at_ t _ (by rw[H t,hk]; rfl) ht⟩
theorem fits_sw' (H:∀ t,zew loc t=(zew loc' t).map (swN i j)) {a:Act} {σ:Env} (h:Fits loc' N a σ):Fits loc N a (swE i j σ):=
 ⟨h.defers,h.size,fun t k hk ht=>by
  rw[H t] at hk
  cases h2:zew loc' t with
  | none=>rw[h2] at hk; cases hk
  | some k'=>
   rw[h2] at hk
   have e:swN i j k'=k:=Option.some.inj hk
   have e2:k'=swN i j k:=by rw[← e,zlf]
   rw[e2] at h2
   exact h.at_ t _ h2 ht⟩
theorem W_sw {P:Program} {c:C} {Q:Exit→Env→World→Prop} {σ:Env} {w:World} (hn:loc.Nodup) (hi:i < loc.length) (hj:j < loc.length)
  (h:W P (locS i j loc) N c (fun e σ' w'=>Q e (swE i j σ') w') (swE i j σ) w):W P loc N (c.sw i j) Q σ w:=by
 have H:=locOf_locS hn hi hj
 intro code hc a ha
 have e:er (locS i j loc) N code=some c:=by
  rw[zaad H] at hc
  cases h2:er (locS i j loc) N code with
  | none=>rw[h2] at hc; cases hc
  | some c'=>
   rw[h2] at hc
   have e:=congrArg (C.sw i j) (Option.some.inj hc)
   rw[C.sw_sw,C.sw_sw] at e
   rw[e]
 exact wp_mono (h code e a (fits_sw H ha)) fun _ _ _ ⟨σ',hf,hQ⟩=>⟨swE i j σ',fits_sw' H hf,hQ⟩
theorem mapM_mem {α β:Type} {f:α→Option β}:∀ {l:List α} {l':List β},l.mapM f=some l'→∀ y∈l',∃ x∈l,f x=some y
 | [],l',h,y,hy=>by
  have e:l'=[]:=by simpa using h.symm
  rw[e] at hy; cases hy
 | x :: l,l',h,y,hy=>by
  rw[List.mapM_cons] at h
  cases hx:f x with
  | none=>rw[hx] at h; cases h
  | some z=>
   rw[hx] at h
   cases hl:l.mapM f with
   | none=>rw[hl] at h; cases h
   | some l2=>
    rw[hl] at h
    have e:l'=z :: l2:=(Option.some.inj h).symm
    rw[e] at hy
    rcases List.mem_cons.1 hy with rfl | hy
    ·exact⟨x,by simp,hx⟩
    ·obtain⟨u,hu,hu2⟩:=mapM_mem hl y hy
     exact⟨u,by simp [hu],hu2⟩
theorem erOper_dst {base:Nat} {all:List Oper} {o:Oper} {r:ROp} {q:Nat} (h:zkx loc N base all o=some r) (hd:r.dst=some (q+100)):q < loc.length:=by
 unfold zkx at h
 split at h
 ·rename_i hc
  rw[List.all_append,Bool.and_eq_true,List.all_eq_true] at hc
  rw[Option.bind_eq_some_iff] at h
  obtain⟨g,_,h⟩:=h
  rw[Option.map_eq_some_iff] at h
  obtain⟨op,_,rfl⟩:=h
  simp only at hd
  cases hdst:o.dst with
  | none=>rw[hdst] at hd; cases hd
  | some d=>
   rw[hdst] at hd
   have e:ren loc base d=q+100:=Option.some.inj hd
   have hf:=hc.1 d (by simp [hdst])
   unfold ren at e
   unfold fine at hf
   cases hl:zew loc d with
   | none=>simp [hl] at e hf; omega
   | some k=>
    simp only [hl] at e
    have hk:k=q:=by omega
    unfold zew at hl
    have:=List.idxOf?_eq_some_iff.1 hl
    rw[← hk]
    grind
 ·cases h
theorem W_dst {P:Program} {l:List ROp} {rest:C} {Q:Exit→Env→World→Prop} {σ:Env} {w:World} {q:Nat} (hd:∃ r∈l,r.dst=some (q+100)) (h:q < loc.length→W P loc N (.seq (.ops l) rest) Q σ w):W P loc N (.seq (.ops l) rest) Q σ w:=by
 intro code hc a ha
 refine h ?_ code hc a ha
 obtain⟨r,hr,hd⟩:=hd
 cases code with
 | seq c d=>
  simp only [er,Option.bind_eq_some_iff,Option.map_eq_some_iff,C.seq.injEq] at hc
  obtain⟨x',hx,y',hy,rfl,rfl⟩:=hc
  cases c with
  | region id ops dr=>
   rw[zcj,Option.map_eq_some_iff] at hx
   obtain⟨l2,hl2,e⟩:=hx
   cases dr with
   | true=>cases e
   | false=>
    simp only [Bool.false_eq_true,if_false,C.ops.injEq] at e
    rw[← e] at hr
    obtain⟨r2,hr2,e2⟩:=List.mem_map.1 hr
    obtain⟨o,ho,ho2⟩:=mapM_mem hl2 r2 hr2
    refine erOper_dst ho2 (q:=q) ?_
    rw[← hd,← e2]
  | cond x a b=>cases x<;>simp [er,Option.bind_eq_some_iff] at hx
  | _=>simp [er,Option.bind_eq_some_iff] at hx
 | region id ops d=>rw[zcj] at hc; cases h0:zlh loc N ops.toList<;>cases d<;>simp [h0] at hc
 | cond x a b=>cases x<;>simp [er,Option.bind_eq_some_iff] at hc
 | _=>simp [er] at hc
end
structure Fns (P:Program) (N:Nums):Prop where
 bigEndian_Uint16:N.zdn≠0→FOk P N.zdn 2 (zlb N) [.var 2]
 bigEndian_Uint32:N.zek≠0→FOk P N.zek 2 (zla N) [.var 2]
 bigEndian_Uint64:N.zej≠0→FOk P N.zej 2 (zkz N) [.var 2]
 UnsafeString:N.zdi≠0→FOk P N.zdi 1 (zpg N) [.var 1]
 Uvarint:N.zlx≠0→FOk P N.zlx 1 (zaan N) [.var 1,.var 2]
 PReader_Bool:N.zhd≠0→FOk P N.zhd 1 (zvp N) [.var 1]
 PReader_Int8:N.zdt≠0→FOk P N.zdt 1 (zvo N) [.var 1]
 PReader_Uint16:N.zfy≠0→FOk P N.zfy 1 (zsq N) [.var 1]∧N.zdn≠0
 PReader_Int16:N.zbm≠0→FOk P N.zbm 1 (zuv N) [.var 1]∧N.zdn≠0
 PReader_Int32:N.zcc≠0→FOk P N.zcc 1 (zuu N) [.var 1]∧N.zek≠0
 PReader_readUint64:N.zdw≠0→FOk P N.zdw 1 (zoy N) [.var 1]∧N.zej≠0
 PReader_Int64:N.zgn≠0→FOk P N.zgn 1 (znw N) [.var 1]∧N.zdw≠0
 PReader_Uuid:N.zfg≠0→FOk P N.zfg 1 (zpi N) [.cell 1 N.zaq]∧N.zu≠0
 PReader_Uvarint:N.zq≠0→FOk P N.zq 1 (zlz N) [.var 1]∧N.zlx≠0
 PReader_Span:N.zu≠0→FOk P N.zu 2 (zpj N) [.var 2]
 PReader_String:N.zdr≠0→FOk P N.zdr 1 (zmx N) [.var 1]∧N.zbm≠0∧N.zu≠0
 PReader_UnsafeString:N.zcd≠0→FOk P N.zcd 1 (zio N) [.var 1]∧N.zbm≠0∧N.zu≠0∧N.zdi≠0
 PReader_CompactString:N.zcu≠0→FOk P N.zcu 1 (zig N) [.var 1]∧N.zu≠0∧N.zq≠0
 PReader_UnsafeCompactString:N.zbu≠0→FOk P N.zbu 1 (zfz N) [.var 1]∧N.zu≠0∧N.zq≠0∧N.zdi≠0
 PReader_NullableString:N.zco≠0→FOk P N.zco 1 (zhp N) [.var 1]∧N.zbm≠0∧N.zu≠0
 PReader_UnsafeNullableString:N.zbs≠0→FOk P N.zbs 1 (zfn N) [.var 1]∧N.zbm≠0∧N.zu≠0∧N.zdi≠0
 PReader_CompactNullableString:N.zby≠0→FOk P N.zby 1 (zfk N) [.var 1]∧N.zu≠0∧N.zq≠0
 PReader_UnsafeCompactNullableString:N.zbj≠0→FOk P N.zbj 1 (zer N) [.var 1]∧N.zu≠0∧N.zq≠0∧N.zdi≠0
 PReader_Bytes:N.zex≠0→FOk P N.zex 1 (znx N) [.var 1]∧N.zcc≠0∧N.zu≠0
 PReader_CompactBytes:N.zdo≠0→FOk P N.zdo 1 (ziq N) [.var 1]∧N.zu≠0∧N.zq≠0
 PReader_NullableBytes:N.zct≠0→FOk P N.zct 1 (zif N) [.var 1]∧N.zcc≠0∧N.zu≠0
 PReader_CompactNullableBytes:N.zcg≠0→FOk P N.zcg 1 (zfo N) [.var 1]∧N.zu≠0∧N.zq≠0
 PReader_ArrayLen:N.zda≠0→FOk P N.zda 1 (zld N) [.var 1]∧N.zcc≠0
 PReader_CompactArrayLen:N.zba≠0→FOk P N.zba 1 (zhe N) [.var 1]∧N.zq≠0
 PReader_Complete:N.zaf≠0→FOk P N.zaf 1 (zlc N) [.var 1]
 PReader_Ok:N.zeg≠0→FOk P N.zeg 1 (zsm N) [.var 1]
 PTags_Set:N.zcz≠0→FOk P N.zcz 3 (zut N) []
 internalReadTags:N.zdu≠0→FOk P N.zdu 1 (zky N) [.cell 1 N.zcy]∧N.zu≠0∧N.zq≠0∧N.zcz≠0
 PTags_Each:N.zhn≠0→FOk P N.zhn 2 (zsl N) []∧N.zdp≠0∧N.zhm≠0
 PTags_Each_1:N.zdp≠0→FOk P N.zdp 3 (zph N) [.var 3]
 sorted:N.f_sorted≠0→FOk P N.f_sorted 1 (c_sorted N) []
 boolTree:N.zrt≠0→FOk P N.zrt 1 (c_boolTree N) [.cell 1 N.zbe]
 textTree:N.zrs≠0→FOk P N.zrs 1 (c_textTree N) [.cell 1 N.zbe]
 octetsTree:N.zno≠0→FOk P N.zno 1 (zaam N) [.cell 1 N.zbe]
 spec_Same:N.zff≠0→FOk P N.zff 2 (zus N) [.var 2]
 spec_SameTree:N.zkk≠0→FOk P N.zkk 2 (zur N) [.var 4]∧N.zff≠0
 version:N.zlw≠0→FOk P N.zlw 2 (zaal N) [.var 2]
 got:N.f_got≠0→FOk P N.f_got 1 (c_got N) [.cell 2 N.zf]
structure SF (P:Program) (t:TypeId) (places:List (Nat × Nat)) (by':Nat) (z:List Value):Prop where
 out:∃ fs,TI P t (.struct fs) z.length by' (.agg z.toArray)∧fs.toList.mapM (fun f=>(P.info? f.type).map fun i=>(f.offset,i.size))=some places
theorem SF.run_build {P:Program} {t:TypeId} {places:List (Nat × Nat)} {by':Nat} {z:List Value} (h:SF P t places by' z) {w:World} {parts:Array (Nat × Value)} {cells:Array Value} (hf:Instr.fill (places.toArray[·]?) z.toArray parts.toList=some cells) :
  (Instr.build t parts).run P w=.ok (.agg cells) w:=by
 obtain⟨fs,ht,hm⟩:=h.out
 obtain⟨i,hi,_,_,hz⟩:=ht.info
 refine Go.run_build w t parts cells ?_
 unfold Program.built
 simp only [hi,ht.und,hz,hm]
 exact hf
structure Base (P:Program) (N:Nums):Prop where
 mixed:P.follows .mixedOrders=true
 int8:N.zjd≠0→TI P N.zjd (.int .i8) 1 1 (.int .i8 0)
 int16:TI P N.zbf (.int .i16) 1 2 (.int .i16 0)
 int32:TI P N.zbr (.int .i32) 1 4 (.int .i32 0)
 int64:TI P N.zcv (.int .i64) 1 8 (.int .i64 0)
 int:TI P N.ze (.int .i64) 1 8 (.int .i64 0)
 uint8:TI P N.zh (.int .u8) 1 1 (.int .u8 0)
 uint16:TI P N.zfj (.int .u16) 1 2 (.int .u16 0)
 uint32:TI P N.zc (.int .u32) 1 4 (.int .u32 0)
 uint64:TI P N.zaj (.int .u64) 1 8 (.int .u64 0)
 bool:TI P N.zay .bool 1 1 (.bool false)
 string:TI P N.zac .string 1 16 (.string ⟨#[]⟩)
 Lu8:TI P N.za (.slice N.zh) 1 24 (.slice none 0 0)
 big:TI P N.zbt (.struct #[]) 0 0 (.agg #[])
 error:TI P N.zgc (.interface #[("Error", 0)]) 1 16 .nilIface∨∃ ms,TI P N.zgc (.interface ms) 1 16 .nilIface
 reader:SF P N.zv [(0,1),(1,1)] 32 [.slice none 0 0,.bool false]
 reader0:HF P N.zv 0 0
 reader1:HF P N.zv 1 1
 uuid:N.zaq≠0→TI P N.zaq (.array 16 N.zh) 16 16 (.agg (Array.replicate 16 (.int .u8 0)))
 pstring:N.zbc≠0→TI P N.zbc (.pointer N.zac) 1 8 (.pointer none)
 tags:N.zcy≠0→(∃ fs,TI P N.zcy (.struct fs) 1 8 (.agg #[.map none]))∧HF P N.zcy 0 0∧TI P N.zab (.map N.zc N.za) 1 8 (.map none)
def zz (x:UInt8):Value:=.int .u8 x.toNat
def zbz (w:World) (lo hi:Nat) (v:Value) (nl:Bool) (l:List UInt8):Prop:=
 (nl=true∧v=.slice none 0 0∧l=[])∨∃ b o c,nl=false∧v=.slice (some ⟨b,o,none⟩) l.length c∧l.length≤c∧(l≠[]→lo≤b∧b < hi)∧w.rangeAt b o (l.map zz)
structure RS where
 l:List UInt8
 bad:Bool
 nl:Bool
structure RdAt (w:World) (lo hi r:Nat) (s:RS):Prop where
 src:∃ v,w.rangeAt r 0 [v,.bool s.bad]∧zbz w lo hi v s.nl s.l
 there:w.there r 0 2
 hi_le:hi≤w.heap.size
 apart:r < lo∨hi≤r
def RdOk (P:Program) (f:FuncId) (g:RS→Value × RS):Prop:=
 ∀ w lo hi r s,RdAt w lo hi r s→Call P f #[.pointer (some ⟨r,0,none⟩)] w fun v w'=>v=(g s).1∧RdAt w' lo hi r (g s).2∧Mod w w' (blk r)
def zeh (n:Nat) (f:List UInt8→Value) (z:Value) (s:RS):Value × RS:=
 if s.l.length < n then (z,⟨[],true,true⟩) else (f (s.l.take n),⟨s.l.drop n,s.bad,s.nl⟩)
theorem zbz.mod {w w':World} {M:Nat→Nat→Prop} (h:Mod w w' M) {lo hi:Nat} (hhi:hi≤w.heap.size) (hM:∀ k o,lo≤k→k < hi→¬ M k o) {v:Value} {nl:Bool} {l:List UInt8} (hb:zbz w lo hi v nl l):zbz w' lo hi v nl l:=by
 rcases hb with hb | ⟨b,o,c,h0,h1,h2,h34,h5⟩
 ·exact .inl hb
 ·refine .inr ⟨b,o,c,h0,h1,h2,h34,?_⟩
  cases l with
  | nil=>intro j v hj; simp at hj
  | cons x l=>
   obtain⟨h3,h4⟩:=h34 (by simp)
   exact h.rangeAt (by omega) (fun i _ _=>hM b i h3 h4) h5
theorem runR_nil {P:Program} {ρ:Env} {w:World} {K:Env→World→Prop}:runR P [] ρ w K=K ρ w:=rfl
theorem zzh {P:Program} {o:ROp} {r:List ROp} {ρ:Env} {w:World} {K:Env→World→Prop}:runR P (o :: r) ρ w K=zcn P o ρ w fun ρ w=>runR P r ρ w K:=rfl
theorem bE:type_of% (@zin)∧type_of% (@put_none)∧type_of% (@locs_def)∧type_of% (@envOf_var)∧type_of% (@znq)∧type_of% (@sel_true)∧type_of% (@sel_false):=⟨@zin,@put_none,@locs_def,@envOf_var,@znq,@sel_true,@sel_false⟩
theorem bK:type_of% (@runR_nil)∧type_of% (@zzh)∧type_of% (@zln)∧type_of% (@ztn)∧type_of% (@zrd)∧type_of% (@step_box)∧type_of% (@zlp)∧type_of% (@zkd)∧type_of% (@zqd)∧type_of% (@zrc)∧type_of% (@zwa)∧type_of% (@zyx)∧type_of% (@zsb)∧type_of% (@zvv)∧type_of% (@zpd)∧type_of% (@zvx)∧type_of% (@zpc)∧type_of% (@zsa)∧type_of% (@step_len)∧type_of% (@zto)∧type_of% (@run_box)∧type_of% (@run_lss)∧type_of% (@run_leq)∧type_of% (@run_gtr)∧type_of% (@run_geq)∧type_of% (@run_ieql)∧type_of% (@run_ineq)∧type_of% (@run_iadd)∧type_of% (@run_isub)∧type_of% (@run_not)∧type_of% (@run_pick)∧type_of% (@run_or)∧type_of% (@zxf)∧type_of% (@run_band)∧type_of% (@zsf)∧type_of% (@zse)∧type_of% (@stepV_ok)∧type_of% (@stepU_ok)∧type_of% (@ev_tmp)∧type_of% (@ev_const)∧type_of% (@ev_global)∧type_of% (@ev_func)∧type_of% (@ldc_some)∧type_of% (@zbh)∧type_of% (@zcx)∧type_of% (@zck)∧type_of% (@zqw)∧type_of% (@zkn)∧type_of% (@zod)∧type_of% (@zqv)∧type_of% (@zoc)∧type_of% (@zmb)∧type_of% (@zva):=⟨@runR_nil,@zzh,@zln,@ztn,@zrd,@step_box,@zlp,@zkd,@zqd,@zrc,@zwa,@zyx,@zsb,@zvv,@zpd,@zvx,@zpc,@zsa,@step_len,@zto,@run_box,@run_lss,@run_leq,@run_gtr,@run_geq,@run_ieql,@run_ineq,@run_iadd,@run_isub,@run_not,@run_pick,@run_or,@zxf,@run_band,@zsf,@zse,@stepV_ok,@stepU_ok,@ev_tmp,@ev_const,@ev_global,@ev_func,@ldc_some,@zbh,@zcx,@zck,@zqw,@zkn,@zod,@zqv,@zoc,@zmb,@zva⟩
def be (l:List UInt8):Nat:=l.foldl (fun a x=>a * 256+x.toNat) 0
theorem or_add (n a b s:Nat) (ha:a < 2 ^ s) (hb:b % 2 ^ s=0) (hn:a+b < 2 ^ n):((BitVec.ofInt n (a:Int) ||| BitVec.ofInt n (b:Int)).toNat:Int)=a+b:=by
 have h0:∀ x:Nat,x < 2 ^ n→(BitVec.ofInt n (x:Int)).toNat=x:=fun x hx=>by
  rw[BitVec.toNat_ofInt,← Int.natCast_emod,Int.toNat_natCast,Nat.mod_eq_of_lt hx]
 have h1:=h0 a (by omega)
 have h2:=h0 b (by omega)
 rw[BitVec.toNat_or,h1,h2]
 obtain⟨m,rfl⟩:∃ m,b=2 ^ s * m:=⟨b / 2 ^ s,by have:=Nat.div_add_mod b (2 ^ s); omega⟩
 have:=Nat.two_pow_add_eq_or_of_lt ha m
 rw[Nat.or_comm,← this]
 omega
theorem zhg (n:Nat) (h:n < 2 ^ 32):IntKind.u32.wrap n=n:=by
 simp [IntKind.wrap,IntKind.bits,IntKind.signed]; omega
theorem zss (n:Nat) (h:n < 2 ^ 16):IntKind.u16.wrap n=n:=by
 simp [IntKind.wrap,IntKind.bits,IntKind.signed]; omega
theorem zfi (n:Nat) (h:n < 2 ^ 64):IntKind.u64.wrap n=n:=by
 simp [IntKind.wrap,IntKind.bits,IntKind.signed]; omega
theorem shl_u16 (n s:Nat) (hs:s < 16) (h:n * 2 ^ s < 2 ^ 16):shl .u16 n s=(n * 2 ^ s:Nat):=by
 unfold shl
 rw[show min (s:Int).toNat IntKind.u16.bits=s by simp [IntKind.bits]; omega,← zss _ h]; push_cast; rfl
theorem ztr (n s:Nat) (hs:s < 32) (h:n * 2 ^ s < 2 ^ 32):shl .u32 n s=(n * 2 ^ s:Nat):=by
 unfold shl
 rw[show min (s:Int).toNat IntKind.u32.bits=s by simp [IntKind.bits]; omega,← zhg _ h]; push_cast; rfl
theorem zpn (n s:Nat) (hs:s < 64) (h:n * 2 ^ s < 2 ^ 64):shl .u64 n s=(n * 2 ^ s:Nat):=by
 unfold shl
 rw[show min (s:Int).toNat IntKind.u64.bits=s by simp [IntKind.bits]; omega,← zfi _ h]; push_cast; rfl
theorem bor_u16 (a b s:Nat) (ha:a < 2 ^ s) (hb:b % 2 ^ s=0) (hn:a+b < 2 ^ 16):bor .u16 a b=(a+b:Nat):=by
 show IntKind.u16.wrap ((BitVec.ofInt 16 (a:Int) ||| BitVec.ofInt 16 (b:Int)).toNat:Int)=_
 rw[or_add 16 a b s ha hb hn]; exact_mod_cast zss (a+b) hn
theorem zuz (a b s:Nat) (ha:a < 2 ^ s) (hb:b % 2 ^ s=0) (hn:a+b < 2 ^ 32):bor .u32 a b=(a+b:Nat):=by
 show IntKind.u32.wrap ((BitVec.ofInt 32 (a:Int) ||| BitVec.ofInt 32 (b:Int)).toNat:Int)=_
 rw[or_add 32 a b s ha hb hn]; exact_mod_cast zhg (a+b) hn
theorem zpv (a b s:Nat) (ha:a < 2 ^ s) (hb:b % 2 ^ s=0) (hn:a+b < 2 ^ 64):bor .u64 a b=(a+b:Nat):=by
 show IntKind.u64.wrap ((BitVec.ofInt 64 (a:Int) ||| BitVec.ofInt 64 (b:Int)).toNat:Int)=_
 rw[or_add 64 a b s ha hb hn]; exact_mod_cast zfi (a+b) hn
theorem zyn {P:Program} {N:Nums} (B:Base P N) (F:Fns P N) (hN:N.zdn≠0) {w:World} {lo hi:Nat} {v:Value} {nl:Bool} {l:List UInt8} (hv:zbz w lo hi v nl l) (hl:2≤l.length) (hhi:hi≤w.heap.size) :
  Call P N.zdn #[.agg #[],v] w fun v w'=>v=.int .u16 (be (l.take 2))∧Mod w w' zy:=by
 have h:=F.bigEndian_Uint16 hN
 rcases hv with⟨_,_,rfl⟩ | ⟨b,o,c,_,rfl,h2,h34,h5⟩
 ·simp at hl
 match l,hl with
 | x0 :: x1 :: r,hl=>
 obtain⟨h3,h4⟩:=h34 (by simp)
 have hc:∀ (w':World),Mod w w' zy→w'.cell? ⟨b,o,none⟩=some (zz x0)∧w'.cell? ⟨b,o+1,none⟩=some (zz x1):=by
  intro w' hm
  have:=hm.rangeAt (by omega) (fun _ _ _ hf=>hf) h5
  exact⟨this 0 _ rfl,this 1 _ rfl⟩
 generalize hn:(x0 :: x1 :: r).length=n at *
 refine h.call rfl fun loc N' hlo=>?_
 unfold zlb
 refine zd fun K hK=>zi fun τ=>?_
 simp +decide only [bK,bE,Nat.reduceAdd,Nat.zero_add,List.take_succ_cons,List.take_zero]
 refine hK _ _ (zb fun σ1 hσ=>?_)
 have e1:=hσ 1
 simp +decide only [bE,Nat.reduceBeqDiff,Nat.reduceAdd,zck] at e1
 clear hK K hσ τ
 have hm1:Mod w (w.alloc (.cells (Value.agg #[]).cells N.zbt)) zy:=Mod.alloc _ _ _
 have hc1:=hc _ hm1
 generalize (w.alloc (.cells (Value.agg #[]).cells N.zbt))=w1 at *
 obtain⟨c0,c1⟩:=hc1
 refine zd fun K hK=>zi fun τ=>?_
 simp +decide (disch:=omega) only [bK,bE,BEq.rfl,Nat.reduceAdd,Int.reduceToNat,Nat.mul_one,List.take_succ_cons,List.take_zero,e1,zhk B.Lu8 B.uint8,B.uint8.run_load1 rfl,c1]
 refine hK _ _ (zb fun σ2 hσ=>?_)
 have e2:=hσ 1
 simp +decide only [bE,Nat.reduceBeqDiff,Nat.reduceAdd,e1] at e2
 clear hK K hσ τ
 refine zd fun K hK=>zyh B.mixed 10 (by kernel_rfl) fun τ=>?_
 obtain⟨c0,c1⟩:w1.drew.cell? ⟨b,o,none⟩=some (zz x0)∧w1.drew.cell? ⟨b,o+1,none⟩=some (zz x1):=⟨c0,c1⟩
 simp (maxSteps:=2000000) (decide:=true) (disch:=omega) only [bK,bE,zjt,Nat.reduceBeqDiff,BEq.rfl,Nat.reduceAdd,Int.reduceToNat,Nat.add_zero,Nat.mul_one,List.take_succ_cons,List.take_zero,List.drop_succ_cons,List.drop_zero,true_and,e2,zhk B.Lu8 B.uint8,B.uint8.run_load1 rfl,c0,c1,zz,zat B.uint8 B.uint16 ⟨_,rfl⟩]
 refine hK _ _ (zb fun σ3 hσ=>?_)
 have e3:=hσ 2
 simp +decide only [bE,BEq.rfl,Nat.reduceAdd] at e3
 clear hK K hσ τ
 refine zbb ⟨.inr rfl,_,rfl,?_,hm1.trans' (Mod.drew _ _)⟩
 rw[e3]
 congr 1
 have l0:=x0.toNat_lt
 have l1:=x1.toNat_lt
 simp only [zss x0.toNat (by omega),zss x1.toNat (by omega)]
 rw[show shl .u16 (x0.toNat:Int) 8=((x0.toNat * 2 ^ 8:Nat):Int) from shl_u16 x0.toNat 8 (by omega) (by omega)]
 rw[bor_u16 _ (x0.toNat * 2 ^ 8) 8 (by omega) (by omega) (by omega)]
 simp only [List.take_succ_cons,List.take_zero,be,List.foldl_cons,List.foldl_nil]
 omega
theorem uint32_ok {P:Program} {N:Nums} (B:Base P N) (F:Fns P N) (hN:N.zek≠0) {w:World} {lo hi:Nat} {v:Value} {nl:Bool} {l:List UInt8} (hv:zbz w lo hi v nl l) (hl:4≤l.length) (hhi:hi≤w.heap.size) :
  Call P N.zek #[.agg #[],v] w fun v w'=>v=.int .u32 (be (l.take 4))∧Mod w w' zy:=by
 have h:=F.bigEndian_Uint32 hN
 rcases hv with⟨_,_,rfl⟩ | ⟨b,o,c,_,rfl,h2,h34,h5⟩
 ·simp at hl
 match l,hl with
 | x0 :: x1 :: x2 :: x3 :: r,hl=>
 obtain⟨h3,h4⟩:=h34 (by simp)
 have hc:∀ (w':World),Mod w w' zy→w'.cell? ⟨b,o,none⟩=some (zz x0)∧w'.cell? ⟨b,o+1,none⟩=some (zz x1)∧w'.cell? ⟨b,o+2,none⟩=some (zz x2)∧w'.cell? ⟨b,o+3,none⟩=some (zz x3):=by
  intro w' hm
  have:=hm.rangeAt (by omega) (fun _ _ _ hf=>hf) h5
  exact⟨this 0 _ rfl,this 1 _ rfl,this 2 _ rfl,this 3 _ rfl⟩
 generalize hn:(x0 :: x1 :: x2 :: x3 :: r).length=n at *
 refine h.call rfl fun loc N' hlo=>?_
 unfold zla
 refine zd fun K hK=>zi fun τ=>?_
 simp +decide only [bK,bE,Nat.reduceAdd,Nat.zero_add,List.take_succ_cons,List.take_zero]
 refine hK _ _ (zb fun σ1 hσ=>?_)
 have e1:=hσ 1
 simp +decide only [bE,Nat.reduceBeqDiff,Nat.reduceAdd,zck] at e1
 clear hK K hσ τ
 have hm1:Mod w (w.alloc (.cells (Value.agg #[]).cells N.zbt)) zy:=Mod.alloc _ _ _
 have hc1:=hc _ hm1
 generalize (w.alloc (.cells (Value.agg #[]).cells N.zbt))=w1 at *
 obtain⟨c0,c1,c2,c3⟩:=hc1
 refine zd fun K hK=>zi fun τ=>?_
 simp +decide (disch:=omega) only [bK,bE,BEq.rfl,Nat.reduceAdd,Int.reduceToNat,Nat.mul_one,List.take_succ_cons,List.take_zero,e1,zhk B.Lu8 B.uint8,B.uint8.run_load1 rfl,c3]
 refine hK _ _ (zb fun σ2 hσ=>?_)
 have e2:=hσ 1
 simp +decide only [bE,Nat.reduceBeqDiff,Nat.reduceAdd,e1] at e2
 clear hK K hσ τ
 refine zd fun K hK=>zyh B.mixed 22 (by kernel_rfl) fun τ=>?_
 obtain⟨c0,c1,c2,c3⟩:w1.drew.cell? ⟨b,o,none⟩=some (zz x0)∧w1.drew.cell? ⟨b,o+1,none⟩=some (zz x1)∧w1.drew.cell? ⟨b,o+2,none⟩=some (zz x2)∧w1.drew.cell? ⟨b,o+3,none⟩=some (zz x3):=⟨c0,c1,c2,c3⟩
 simp (maxSteps:=2000000) (decide:=true) (disch:=omega) only [bK,bE,zjt,Nat.reduceBeqDiff,BEq.rfl,Nat.reduceAdd,Int.reduceToNat,Nat.add_zero,Nat.mul_one,List.take_succ_cons,List.take_zero,List.drop_succ_cons,List.drop_zero,true_and,e2,zhk B.Lu8 B.uint8,B.uint8.run_load1 rfl,c0,c1,c2,c3,zz,zat B.uint8 B.uint32 ⟨_,rfl⟩]
 refine hK _ _ (zb fun σ3 hσ=>?_)
 have e3:=hσ 2
 simp +decide only [bE,BEq.rfl,Nat.reduceAdd] at e3
 clear hK K hσ τ
 refine zbb ⟨.inr rfl,_,rfl,?_,hm1.trans' (Mod.drew _ _)⟩
 rw[e3]
 congr 1
 have l0:=x0.toNat_lt
 have l1:=x1.toNat_lt
 have l2:=x2.toNat_lt
 have l3:=x3.toNat_lt
 simp only [zhg x0.toNat (by omega),zhg x1.toNat (by omega),zhg x2.toNat (by omega),zhg x3.toNat (by omega)]
 rw[show shl .u32 (x0.toNat:Int) 24=((x0.toNat * 2 ^ 24:Nat):Int) from ztr x0.toNat 24 (by omega) (by omega),
  show shl .u32 (x1.toNat:Int) 16=((x1.toNat * 2 ^ 16:Nat):Int) from ztr x1.toNat 16 (by omega) (by omega),
  show shl .u32 (x2.toNat:Int) 8=((x2.toNat * 2 ^ 8:Nat):Int) from ztr x2.toNat 8 (by omega) (by omega)]
 rw[zuz _ (x2.toNat * 2 ^ 8) 8 (by omega) (by omega) (by omega),
  zuz _ (x1.toNat * 2 ^ 16) 16 (by omega) (by omega) (by omega),
  zuz _ (x0.toNat * 2 ^ 24) 24 (by omega) (by omega) (by omega)]
 simp only [List.take_succ_cons,List.take_zero,be,List.foldl_cons,List.foldl_nil]
 omega
set_option maxHeartbeats 2000000 in
theorem uint64_ok {P:Program} {N:Nums} (B:Base P N) (F:Fns P N) (hN:N.zej≠0) {w:World} {lo hi:Nat} {v:Value} {nl:Bool} {l:List UInt8} (hv:zbz w lo hi v nl l) (hl:8≤l.length) (hhi:hi≤w.heap.size) :
  Call P N.zej #[.agg #[],v] w fun v w'=>v=.int .u64 (be (l.take 8))∧Mod w w' zy:=by
 have h:=F.bigEndian_Uint64 hN
 rcases hv with⟨_,_,rfl⟩ | ⟨b,o,c,_,rfl,h2,h34,h5⟩
 ·simp at hl
 match l,hl with
 | x0 :: x1 :: x2 :: x3 :: x4 :: x5 :: x6 :: x7 :: r,hl=>
 obtain⟨h3,h4⟩:=h34 (by simp)
 have hc:∀ (w':World),Mod w w' zy→w'.cell? ⟨b,o,none⟩=some (zz x0)∧w'.cell? ⟨b,o+1,none⟩=some (zz x1)∧w'.cell? ⟨b,o+2,none⟩=some (zz x2)∧w'.cell? ⟨b,o+3,none⟩=some (zz x3)∧w'.cell? ⟨b,o+4,none⟩=some (zz x4)∧w'.cell? ⟨b,o+5,none⟩=some (zz x5)∧w'.cell? ⟨b,o+6,none⟩=some (zz x6)∧w'.cell? ⟨b,o+7,none⟩=some (zz x7):=by
  intro w' hm
  have:=hm.rangeAt (by omega) (fun _ _ _ hf=>hf) h5
  exact⟨this 0 _ rfl,this 1 _ rfl,this 2 _ rfl,this 3 _ rfl,this 4 _ rfl,this 5 _ rfl,this 6 _ rfl,this 7 _ rfl⟩
 generalize hn:(x0 :: x1 :: x2 :: x3 :: x4 :: x5 :: x6 :: x7 :: r).length=n at *
 refine h.call rfl fun loc N' hlo=>?_
 unfold zkz
 refine zd fun K hK=>zi fun τ=>?_
 simp +decide only [bK,bE,Nat.reduceAdd,Nat.zero_add,List.take_succ_cons,List.take_zero]
 refine hK _ _ (zb fun σ1 hσ=>?_)
 have e1:=hσ 1
 simp +decide only [bE,Nat.reduceBeqDiff,Nat.reduceAdd,zck] at e1
 clear hK K hσ τ
 have hm1:Mod w (w.alloc (.cells (Value.agg #[]).cells N.zbt)) zy:=Mod.alloc _ _ _
 have hc1:=hc _ hm1
 generalize (w.alloc (.cells (Value.agg #[]).cells N.zbt))=w1 at *
 obtain⟨c0,c1,c2,c3,c4,c5,c6,c7⟩:=hc1
 refine zd fun K hK=>zi fun τ=>?_
 simp +decide (disch:=omega) only [bK,bE,BEq.rfl,Nat.reduceAdd,Int.reduceToNat,Nat.mul_one,List.take_succ_cons,List.take_zero,e1,zhk B.Lu8 B.uint8,B.uint8.run_load1 rfl,c7]
 refine hK _ _ (zb fun σ2 hσ=>?_)
 have e2:=hσ 1
 simp +decide only [bE,Nat.reduceBeqDiff,Nat.reduceAdd,e1] at e2
 clear hK K hσ τ
 refine zd fun K hK=>zyh B.mixed 46 (by kernel_rfl) fun τ=>?_
 obtain⟨c0,c1,c2,c3,c4,c5,c6,c7⟩:w1.drew.cell? ⟨b,o,none⟩=some (zz x0)∧w1.drew.cell? ⟨b,o+1,none⟩=some (zz x1)∧w1.drew.cell? ⟨b,o+2,none⟩=some (zz x2)∧w1.drew.cell? ⟨b,o+3,none⟩=some (zz x3)∧w1.drew.cell? ⟨b,o+4,none⟩=some (zz x4)∧w1.drew.cell? ⟨b,o+5,none⟩=some (zz x5)∧w1.drew.cell? ⟨b,o+6,none⟩=some (zz x6)∧w1.drew.cell? ⟨b,o+7,none⟩=some (zz x7):=⟨c0,c1,c2,c3,c4,c5,c6,c7⟩
 simp (maxSteps:=2000000) (decide:=true) (disch:=omega) only [bK,bE,zjt,Nat.reduceBeqDiff,BEq.rfl,Nat.reduceAdd,Int.reduceToNat,Nat.add_zero,Nat.mul_one,List.take_succ_cons,List.take_zero,List.drop_succ_cons,List.drop_zero,true_and,e2,zhk B.Lu8 B.uint8,B.uint8.run_load1 rfl,c0,c1,c2,c3,c4,c5,c6,c7,zz,zat B.uint8 B.uint64 ⟨_,rfl⟩]
 refine hK _ _ (zb fun σ3 hσ=>?_)
 have e3:=hσ 2
 simp +decide only [bE,BEq.rfl,Nat.reduceAdd] at e3
 clear hK K hσ τ
 refine zbb ⟨.inr rfl,_,rfl,?_,hm1.trans' (Mod.drew _ _)⟩
 rw[e3]
 congr 1
 have l0:=x0.toNat_lt
 have l1:=x1.toNat_lt
 have l2:=x2.toNat_lt
 have l3:=x3.toNat_lt
 have l4:=x4.toNat_lt
 have l5:=x5.toNat_lt
 have l6:=x6.toNat_lt
 have l7:=x7.toNat_lt
 simp only [zfi x0.toNat (by omega),zfi x1.toNat (by omega),zfi x2.toNat (by omega),zfi x3.toNat (by omega),zfi x4.toNat (by omega),zfi x5.toNat (by omega),zfi x6.toNat (by omega),zfi x7.toNat (by omega)]
 rw[show shl .u64 (x0.toNat:Int) 56=((x0.toNat * 2 ^ 56:Nat):Int) from zpn x0.toNat 56 (by omega) (by omega),
  show shl .u64 (x1.toNat:Int) 48=((x1.toNat * 2 ^ 48:Nat):Int) from zpn x1.toNat 48 (by omega) (by omega),
  show shl .u64 (x2.toNat:Int) 40=((x2.toNat * 2 ^ 40:Nat):Int) from zpn x2.toNat 40 (by omega) (by omega),
  show shl .u64 (x3.toNat:Int) 32=((x3.toNat * 2 ^ 32:Nat):Int) from zpn x3.toNat 32 (by omega) (by omega),
  show shl .u64 (x4.toNat:Int) 24=((x4.toNat * 2 ^ 24:Nat):Int) from zpn x4.toNat 24 (by omega) (by omega),
  show shl .u64 (x5.toNat:Int) 16=((x5.toNat * 2 ^ 16:Nat):Int) from zpn x5.toNat 16 (by omega) (by omega),
  show shl .u64 (x6.toNat:Int) 8=((x6.toNat * 2 ^ 8:Nat):Int) from zpn x6.toNat 8 (by omega) (by omega)]
 rw[zpv _ (x6.toNat * 2 ^ 8) 8 (by omega) (by omega) (by omega),
  zpv _ (x5.toNat * 2 ^ 16) 16 (by omega) (by omega) (by omega),
  zpv _ (x4.toNat * 2 ^ 24) 24 (by omega) (by omega) (by omega),
  zpv _ (x3.toNat * 2 ^ 32) 32 (by omega) (by omega) (by omega),
  zpv _ (x2.toNat * 2 ^ 40) 40 (by omega) (by omega) (by omega),
  zpv _ (x1.toNat * 2 ^ 48) 48 (by omega) (by omega) (by omega),
  zpv _ (x0.toNat * 2 ^ 56) 56 (by omega) (by omega) (by omega)]
 simp only [List.take_succ_cons,List.take_zero,be,List.foldl_cons,List.foldl_nil]
 omega
section
variable {P:Program} {N:Nums} {loc:List Nat} {N':Nat} {Q:Exit→Env→World→Prop} {σ:Env} {w:World}
theorem zai {ρ:Env} {k:Nat} {v:Value} (h:k < 100):locs (put ρ (some k) v)=locs ρ:=zhl h
theorem zqb {b o n i:Nat} (h:w.there b o n) (hi:i < n):w.there b (o+i) 1:=fun j hj=>by
 have:j=0:=by omega
 subst this
 exact h i hi
theorem zhu {b o n b' o':Nat} {v:Value} (h:w.there b o n):(w.setCell ⟨b',o',none⟩ v).there b o n:=fun j hj=>
 have hlt:=zde (h j hj).1
 have hm:Mod w (w.setCell ⟨b',o',none⟩ v) (blk b'):=Mod.setCell fun _=>rfl
 ⟨by rw[hm.isCell _ _ hlt]; exact(h j hj).1,by rw[hm.frozen _ _ hlt]; exact(h j hj).2⟩
theorem W_bad {i r:Nat} (B:Base P N) (h:σ i=.pointer (some ⟨r,0,none⟩)) (ht:w.there r 0 2) (hQ:Q .normal σ (w.setCell ⟨r,1,none⟩ (.bool true))) :
  W P loc N' (.ops [⟨some 0,.move (V i),0,none,[]⟩,⟨some 1,.nilCheck (T 0),0,none,[]⟩,⟨some 2,.fieldAddr N.zv (T 1) 1,0,none,[]⟩,⟨none,.store N.zay (T 2) (.const (.bool true)),0,none,[]⟩]) Q σ w:=by
 refine zi fun τ=>?_
 have st:=B.bool.run_store1 (w:=w) (b:=r) (o:=1) (v:=.bool true) rfl (by have:=zqb (i:=1) ht (by omega); simpa using this)
 simp +decide (disch:=omega) only [bK,bE,BEq.rfl,h]
 rw[zw rfl]
 simp +decide (disch:=omega) only [bK,bE,BEq.rfl,Nat.zero_add,B.reader1.run,st,zai,locs_envOf]
 exact hQ
theorem zvc {i r:Nat} (B:Base P N) (h:σ i=.pointer (some ⟨r,0,none⟩)) (ht:w.there r 0 2) (hQ:Q .normal σ (w.setCell ⟨r,0,none⟩ (.slice none 0 0))) :
  W P loc N' (.ops [⟨some 0,.move (V i),0,none,[]⟩,⟨some 1,.nilCheck (T 0),0,none,[]⟩,⟨some 2,.fieldAddr N.zv (T 1) 0,0,none,[]⟩,⟨none,.store N.za (T 2) (.const (.slice none 0 0)),0,none,[]⟩]) Q σ w:=by
 refine zi fun τ=>?_
 have st:=B.Lu8.run_store1 (w:=w) (b:=r) (o:=0) (v:=.slice none 0 0) rfl (zqb (i:=0) ht (by omega))
 simp +decide (disch:=omega) only [bK,bE,BEq.rfl,h]
 rw[zw rfl]
 simp +decide (disch:=omega) only [bK,bE,BEq.rfl,Nat.add_zero,B.reader0.run,st,zai,locs_envOf]
 exact hQ
theorem RdAt.lt {lo hi r:Nat} {s:RS} (h:RdAt w lo hi r s):r < w.heap.size:=zwz h.there (by omega)
theorem RdAt.cell0 {lo hi r:Nat} {s:RS} (h:RdAt w lo hi r s):∃ v,w.cell? ⟨r,0,none⟩=some v∧zbz w lo hi v s.nl s.l:=by
 obtain⟨v,h1,h2⟩:=h.src
 exact⟨v,h1 0 v rfl,h2⟩
theorem RdAt.cell1 {lo hi r:Nat} {s:RS} (h:RdAt w lo hi r s):w.cell? ⟨r,1,none⟩=some (.bool s.bad):=by
 obtain⟨v,h1,h2⟩:=h.src
 exact h1 1 _ rfl
theorem RdAt.mk' {lo hi r:Nat} {s:RS} {v:Value} (h0:w.cell? ⟨r,0,none⟩=some v) (h1:w.cell? ⟨r,1,none⟩=some (.bool s.bad)) (hb:zbz w lo hi v s.nl s.l) (ht:w.there r 0 2) (hhi:hi≤w.heap.size) (ha:r < lo∨hi≤r):RdAt w lo hi r s:=by
 refine⟨⟨v,fun j u hj=>?_,hb⟩,ht,hhi,ha⟩
 match j with
 | 0=>simp at hj; subst hj; simpa using h0
 | 1=>simp at hj; subst hj; simpa using h1
 | j+2=>simp at hj
theorem RdAt.mod {w':World} {M:Nat→Nat→Prop} {lo hi r:Nat} {s:RS} (h:RdAt w lo hi r s) (hm:Mod w w' M) (h1:∀ o,¬ M r o) (h2:∀ k o,lo≤k→k < hi→¬ M k o):RdAt w' lo hi r s:=by
 obtain⟨v,h3,h4⟩:=h.src
 exact⟨⟨v,hm.rangeAt h.lt (fun i _ _=>h1 i) h3,h4.mod hm h.hi_le h2⟩,hm.there h.lt h.there,Nat.le_trans h.hi_le hm.size,h.apart⟩
theorem RdAt.bad {lo hi r:Nat} {s:RS} (h:RdAt w lo hi r s):RdAt ((w.setCell ⟨r,1,none⟩ (.bool true)).setCell ⟨r,0,none⟩ (.slice none 0 0)) lo hi r ⟨[],true,true⟩∧Mod w ((w.setCell ⟨r,1,none⟩ (.bool true)).setCell ⟨r,0,none⟩ (.slice none 0 0)) (blk r):=by
 have m1:Mod w (w.setCell ⟨r,1,none⟩ (.bool true)) (blk r):=Mod.setCell fun _=>rfl
 have m2:Mod (w.setCell ⟨r,1,none⟩ (.bool true)) ((w.setCell ⟨r,1,none⟩ (.bool true)).setCell ⟨r,0,none⟩ (.slice none 0 0)) (blk r):=Mod.setCell fun _=>rfl
 have m:=m1.trans' m2
 obtain⟨v,hv,_⟩:=h.cell0
 have c1:(w.setCell ⟨r,1,none⟩ (.bool true)).cell? ⟨r,1,none⟩=some (.bool true):=World.cell?_setCell_same _ _ _ h.cell1
 have c0:(w.setCell ⟨r,1,none⟩ (.bool true)).cell? ⟨r,0,none⟩=some v:=by
  rw[World.cell?_setCell_other _ _ _ _ (by simp)]; exact hv
 refine⟨RdAt.mk' (World.cell?_setCell_same _ _ _ c0) ?_ (.inl ⟨rfl,rfl,rfl⟩) (m.there h.lt h.there) (Nat.le_trans h.hi_le m.size) h.apart,m⟩
 rw[World.cell?_setCell_other _ _ _ _ (by simp)]
 exact c1
theorem W_left {i d r lo hi:Nat} {c:Int} {s:RS} (B:Base P N) (h:σ i=.pointer (some ⟨r,0,none⟩)) (hr:RdAt w lo hi r s) (hQ:Q .normal (upd σ d (.bool (decide ((s.l.length:Int) < c)))) w) :
  W P loc N' (.ops [⟨some 0,.move (V i),0,none,[]⟩,⟨some 1,.nilCheck (T 0),0,none,[]⟩,⟨some 2,.fieldAddr N.zv (T 1) 0,0,none,[]⟩,⟨some 3,.load N.za (T 2),0,none,[]⟩,
   ⟨some 4,.call ⟨.builtin .len,#[T 3],#[N.za]⟩,N.ze,none,[]⟩,⟨some (d+100),.binOp .lss N.ze (T 4) (.const (.int .i64 c)) N.ze,0,none,[]⟩]) Q σ w:=by
 refine zi fun τ=>?_
 obtain⟨v,hv,hb⟩:=hr.cell0
 have hlen:(Builtin.len_ #[N.za] N.ze #[v]).run P w=.ok (.int .i64 s.l.length) w:=by
  rcases hb with⟨_,rfl,hl⟩ | ⟨b,o,c,_,rfl,_⟩
  ·rw[B.Lu8.run_len,hl]; rfl
  ·exact B.Lu8.run_len
 simp +decide (disch:=omega) only [bK,bE,BEq.rfl,h]
 rw[zw rfl]
 simp +decide (disch:=omega) only [bK,bE,BEq.rfl,Nat.add_zero,B.reader0.run,B.Lu8.run_load1 rfl,hv,hlen,zk,zai,locs_envOf]
 exact hQ
theorem zbz.adv (B:Base P N) {lo hi:Nat} {v:Value} {nl:Bool} {l:List UInt8} {k:Nat} (h:zbz w lo hi v nl l) (hk:k≤l.length) :
  ∃ v',(Instr.sliceAt N.za v (some (.int .i64 k)) none none).run P w=.ok v' w∧zbz w lo hi v' nl (l.drop k)∧v'.oneCell'=true:=by
 rcases h with⟨hn,rfl,hl⟩ | ⟨b,o,c,hn,rfl,h1,h23,h4⟩
 ·rw[hl] at hk
  have:k=0:=by simpa using hk
  subst this
  exact⟨_,zne B.Lu8 B.uint8 (Nat.le_refl _),.inl ⟨hn,rfl,by simp [hl]⟩,rfl⟩
 ·refine⟨_,zne B.Lu8 B.uint8 hk,?_,rfl⟩
  by_cases hck:c=k
  ·rw[if_pos hck]
   have hlk:l.length=k:=by omega
   right
   refine⟨b,o,c - k,hn,by simp,by simp; omega,fun hne=>h23 (fun e=>hne (by rw[e]; simp)),?_⟩
   rw[List.drop_of_length_le (by omega)]
   intro j v hj; simp at hj
  ·rw[if_neg hck]
   right
   refine⟨b,o+k,c - k,hn,by simp [Addr.add_mid],by simp; omega,fun hne=>h23 (fun e=>hne (by rw[e]; simp)),?_⟩
   rw[List.map_drop]
   intro j v hj
   have:=h4 (k+j) v (by simpa [List.getElem?_drop] using hj)
   rwa [← Nat.add_assoc] at this
theorem W_adv {i r lo hi k:Nat} {s:RS} (B:Base P N) (h:σ i=.pointer (some ⟨r,0,none⟩)) (hr:RdAt w lo hi r s) (hk:k≤s.l.length) (hQ:∀ w',RdAt w' lo hi r ⟨s.l.drop k,s.bad,s.nl⟩→Mod w w' (blk r)→Q .normal σ w') :
  W P loc N' (.ops [⟨some 0,.move (V i),0,none,[]⟩,⟨some 1,.move (V i),0,none,[]⟩,⟨some 2,.nilCheck (T 1),0,none,[]⟩,⟨some 3,.fieldAddr N.zv (T 2) 0,0,none,[]⟩,⟨some 4,.load N.za (T 3),0,none,[]⟩,
   ⟨some 5,.slice N.za (T 4) (some (.const (.int .i64 k))) none none,0,none,[]⟩,⟨some 6,.nilCheck (T 0),0,none,[]⟩,⟨some 7,.fieldAddr N.zv (T 6) 0,0,none,[]⟩,⟨none,.store N.za (T 7) (T 5),0,none,[]⟩]) Q σ w:=by
 refine zi fun τ=>?_
 obtain⟨v,hv,hb⟩:=hr.cell0
 obtain⟨v',hs,hb',hone⟩:=hb.adv B hk
 have st:=B.Lu8.run_store1 (w:=w) (b:=r) (o:=0) (v:=v') hone (zqb (i:=0) hr.there (by omega))
 simp +decide (disch:=omega) only [bK,bE,Nat.reduceBeqDiff,BEq.rfl,Option.map_some,Option.map_none,h]
 rw[zw rfl]
 simp +decide (disch:=omega) only [bK,bE,BEq.rfl,Nat.add_zero,B.reader0.run,B.Lu8.run_load1 rfl,hv,hs]
 rw[zw rfl]
 simp +decide (disch:=omega) only [bK,bE,Nat.reduceBeqDiff,BEq.rfl,Nat.add_zero,B.reader0.run,st,zai,locs_envOf]
 have m:Mod w (w.setCell ⟨r,0,none⟩ v') (blk r):=Mod.setCell fun _=>rfl
 refine hQ _ (RdAt.mk' (World.cell?_setCell_same _ _ _ hv) (by rw[World.cell?_setCell_other _ _ _ _ (by simp)]; exact hr.cell1) (hb'.mod m hr.hi_le fun k o h1 h2 he=>?_) (m.there hr.lt hr.there) (Nat.le_trans hr.hi_le m.size) hr.apart) m
 have:k=r:=he
 have:=hr.apart
 omega
end
end Go.Kf
