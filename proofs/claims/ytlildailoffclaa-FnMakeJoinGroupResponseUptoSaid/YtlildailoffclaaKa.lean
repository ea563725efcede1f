/- A part of the calculus by which the claim's proof goes: over any program and any numbering of its functions; no condition beyond those that each theorem names. -/
import Derived.StillTail
import Derived.Below
import Derived.Scope
import Derived.Laws.Sem
import Derived.Laws.World
import Derived.Deep.MidRow
import Derived.Laws.Tables
import Derived.KernelRfl
import Derived.Laws.BytesArg
import Derived.Laws.IdiomCopy
import Derived.Laws.AppendOwn
set_option linter.unusedSimpArgs false
set_option linter.unusedVariables false
namespace Go.Kf
open Go Go.RowKit
structure ROp where
 dst : Option Nat
 op : Op
 type : TypeId
 guard : Option (Option Nat × Bool)
 after : List Nat
 deriving Inhabited
inductive C where
 | skip | ret
 | label (l : Nat) | goto (l : Nat) | exit (id : Nat)
 | ops (l : List ROp)
 | draw (l : List ROp)
 | seq (a b : C)
 | cond (i : Nat) (a b : C)
 | block (id : Nat) (c : C)
 | loop (c : C)
 | scope (c : C)
 deriving Inhabited
def mapO (f : Nat → Nat) : Operand → Operand
 | .tmp t => .tmp (f t)
 | .const v => .const v
 | .global g => .global g
 | .func g => .func g
def znk (f : Nat → Nat) : Callee → Callee
 | .value x => .value (mapO f x)
 | .invoke x m => .invoke (mapO f x) m
 | .builtin b => .builtin b
def zro (f : Nat → Nat) : Op → Option Op
 | .move x => some (.move (mapO f x))
 | .assign x => some (.assign (mapO f x))
 | .pick c a b => some (.pick (mapO f c) (mapO f a) (mapO f b))
 | .alloc e => some (.alloc e)
 | .box e x => some (.box e (mapO f x))
 | .build t ps => some (.build t (ps.map fun p => (p.1, mapO f p.2)))
 | .buildSlice t n ps => some (.buildSlice t n (ps.map fun p => (p.1, mapO f p.2)))
 | .load t a => some (.load t (mapO f a))
 | .store t a x => some (.store t (mapO f a) (mapO f x))
 | .nilCheck x => some (.nilCheck (mapO f x))
 | .binOp o t x y u => some (.binOp o t (mapO f x) (mapO f y) u)
 | .unOp o t x => some (.unOp o t (mapO f x))
 | .convert s d x => some (.convert s d (mapO f x))
 | .makeInterface t x => some (.makeInterface t (mapO f x))
 | .makeFunc fn a b => some (.makeFunc fn (a.map (mapO f)) (b.map (mapO f)))
 | .makeMap t r => some (.makeMap t (r.map (mapO f)))
 | .makeSlice t l c => some (.makeSlice t (mapO f l) (mapO f c))
 | .slice t x l h m => some (.slice t (mapO f x) (l.map (mapO f)) (h.map (mapO f)) (m.map (mapO f)))
 | .fieldAddr t x i => some (.fieldAddr t (mapO f x) i)
 | .field t x i => some (.field t (mapO f x) i)
 | .indexAddr t x i => some (.indexAddr t (mapO f x) (mapO f i))
 | .index t x i => some (.index t (mapO f x) (mapO f i))
 | .lookup t x i ok => some (.lookup t (mapO f x) (mapO f i) ok)
 | .mapUpdate t m k v => some (.mapUpdate t (mapO f m) (mapO f k) (mapO f v))
 | .extract x i => some (.extract (mapO f x) i)
 | .range t x => some (.range t (mapO f x))
 | .next x b => some (.next (mapO f x) b)
 | .entry x => some (.entry (mapO f x))
 | .call c => some (.call { callee := znk f c.callee, args := c.args.map (mapO f), argTypes := c.argTypes })
 | _ => none
def zlh (loc : List Nat) (t : Nat) : Option Nat := loc.idxOf? t
def baseOf (loc : List Nat) (ops : List Oper) : Nat :=
 match ops.filterMap fun o => o.dst.bind fun d => if (zlh loc d).isSome then none else some d with
 | [] => 0
 | d :: l => l.foldl Nat.min d
def ren (loc : List Nat) (base : Nat) (t : Nat) : Nat :=
 match zlh loc t with
 | some i => i + 100
 | none => t - base
def fine (loc : List Nat) (N base : Nat) (t : Nat) : Bool :=
 Nat.blt t N && ((zlh loc t).isSome || (Nat.ble base t && Nat.blt t (base + 90)))
def Operand.tmps : Operand → List Nat
 | .tmp t => [t]
 | _ => []
def typed : Op → Bool
 | .call _ | .next .. => true
 | _ => false
def znp (loc : List Nat) (N base : Nat) (all : List Oper) (o : Oper) : Option ROp :=
 if (o.dst.toList ++ o.op.operands.toList.flatMap Operand.tmps).all (fine loc N base) then
  (match o.guard with
     | none => some none
     | some (j, b) => match all[j]? with
       | some oj => match oj.dst with
         | some d => if fine loc N base d then some (some (some (ren loc base d), b)) else none
         | none => some (some (none, b))
       | none => none).bind fun g =>
  (zro (ren loc base) o.op).map fun op =>
   { dst := o.dst.map (ren loc base), op, type := if typed o.op then o.type else 0, guard := g, after := (o.after.toList.filter (Region.binds .any)).map Edge.on }
 else none
def zpn (loc : List Nat) (N : Nat) (ops : List Oper) : Option (List ROp) :=
 ops.mapM (znp loc N (baseOf loc ops) ops)
def er (loc : List Nat) (N : Nat) : Code → Option C
 | .skip => some .skip
 | .ret => some .ret
 | .label l => some (.label l)
 | .goto l => some (.goto l)
 | .exit id => some (.exit id)
 | .region _ ops false => (zpn loc N ops.toList).map fun l => .ops (l.map fun r => { r with after := [] })
 | .region _ ops true => (zpn loc N ops.toList).map .draw
 | .seq a b => (er loc N a).bind fun x => (er loc N b).map fun y => .seq x y
 | .cond (.tmp t) a b => (zlh loc t).bind fun i => (er loc N a).bind fun x => (er loc N b).map fun y => .cond i x y
 | .block id c => (er loc N c).map (.block id)
 | .loop c => (er loc N c).map .loop
 | .scope c => (er loc N c).map .scope
 | _ => none
abbrev Env := Nat → Value
def ev (ρ : Env) : Operand → Value
 | .tmp t => ρ t
 | .const v => v
 | .global g => .pointer (some ⟨g, 0, none⟩)
 | .func f => .func (.func f) #[] #[]
def put (ρ : Env) (d : Option Nat) (v : Value) : Env :=
 match d with
 | none => ρ
 | some d => fun t => if t = d then v else ρ t
def exec (ρ : Env) (o : ROp) : Sem Next :=
 execOp (ev ρ) { dst := o.dst, op := o.op, type := o.type, pos := "", after := #[], guard := none }
def upon (P : Program) (d : Option Nat) (ρ : Env) (K : Env → World → Prop) : Result Next → Prop
 | .ok (.value v) w => K (put ρ d v) w
 | .ok .skip w => K (put ρ d undef) w
 | .ok (.enter f args) w => Calls P f args w fun e w' => ∃ v, e = .returned v ∧ K (put ρ d v) w'
 | _ => False
def zea (ρ : Env) : Option (Option Nat × Bool) → Bool
 | none => true
 | some (some d, b) => match ρ d with
  | .bool c => c == b
  | _ => false
 | some (none, _) => false
def zbk (P : Program) (o : ROp) (ρ : Env) (w : World) (K : Env → World → Prop) : Prop :=
 if zea ρ o.guard = true then upon P o.dst ρ K ((exec ρ o).run P w) else K (put ρ o.dst undef) w
def runR (P : Program) : List ROp → Env → World → (Env → World → Prop) → Prop
 | [], ρ, w, K => K ρ w
 | o :: r, ρ, w, K => zbk P o ρ w fun ρ w => runR P r ρ w K
theorem upon_mono {P : Program} {d : Option Nat} {ρ : Env} {K K' : Env → World → Prop} (h : ∀ ρ w, K ρ w → K' ρ w) {r : Result Next} (hr : upon P d ρ K r) : upon P d ρ K' r := by
 cases r with
 | ok n w =>
  cases n <;> simp only [upon] at hr ⊢ <;> first
   | exact h _ _ hr
   | exact hr.mono fun e w' ⟨v, he, hk⟩ => ⟨v, he, h _ _ hk⟩
 | halt x w => simp only [upon] at hr
theorem zka {P : Program} {o : ROp} {ρ : Env} {w : World} {K K' : Env → World → Prop} (h : ∀ ρ w, K ρ w → K' ρ w) (hr : zbk P o ρ w K) : zbk P o ρ w K' := by
 unfold zbk at *
 split
 ·rename_i hw; rw [if_pos hw] at hr; exact upon_mono h hr
 ·rename_i hw; rw [if_neg hw] at hr; exact h _ _ hr
theorem zsi {P : Program} : ∀ (l : List ROp) {ρ : Env} {w : World} {K : Env → World → Prop}, runR P (l.map fun r => { r with after := [] }) ρ w K ↔ runR P l ρ w K
 | [], _, _, _ => Iff.rfl
 | r :: l, ρ, w, K => by
  have e : ∀ ρ w, runR P (l.map fun r => { r with after := [] }) ρ w K = runR P l ρ w K := fun ρ w => propext (zsi l)
  simp only [List.map_cons, runR, e]
  exact Iff.rfl
structure Fits (loc : List Nat) (N : Nat) (a : Act) (σ : Env) : Prop where
 defers : a.defers = []
 size : a.tmps.size = N
 at_ : ∀ t i, zlh loc t = some i → t < N → a.tmps.getD t undef = σ i
structure Sim (loc : List Nat) (N base : Nat) (a : Act) (ρ : Env) : Prop where
 defers : a.defers = []
 size : a.tmps.size = N
 at_ : ∀ t, fine loc N base t = true → a.tmps.getD t undef = ρ (ren loc base t)
theorem zvj {loc : List Nat} {t u i : Nat} (h : zlh loc t = some i) (h' : zlh loc u = some i) : t = u := by
 unfold zlh at h h'
 have h1 := (List.idxOf?_eq_some_iff.1 h)
 have h2 := (List.idxOf?_eq_some_iff.1 h')
 grind
theorem zxr {loc : List Nat} {N base t : Nat} (h : fine loc N base t = true) : t < N := by unfold fine at h; simp at h; exact h.1
theorem ren_inj {loc : List Nat} {N base t u : Nat} (ht : fine loc N base t = true) (hu : fine loc N base u = true) (h : ren loc base t = ren loc base u) : t = u := by
 unfold ren at h
 unfold fine at ht hu
 cases h1 : zlh loc t with
 | some i =>
  cases h2 : zlh loc u with
  | some j => simp only [h1, h2] at h; exact zvj h1 (by rw [h2]; congr 1; omega)
  | none => simp [h1, h2] at h ht hu; omega
 | none =>
  cases h2 : zlh loc u with
  | some j => simp [h1, h2] at h ht hu; omega
  | none => simp [h1, h2] at h ht hu; omega
theorem Sim.put {loc : List Nat} {N base : Nat} {a : Act} {ρ : Env} (h : Sim loc N base a ρ) (d : Option Nat) (hd : ∀ t, d = some t → fine loc N base t = true) (v : Value) :
  Sim loc N base (a.put d v) (put ρ (d.map (ren loc base)) v) := by
 cases d with
 | none => exact h
 | some d =>
  refine ⟨h.defers, by simp [Act.put, h.size], fun t ht => ?_⟩
  simp only [Act.put, Option.map_some, Kf.put]
  by_cases e : t = d
  ·subst e
   have : t < a.tmps.size := by rw [h.size]; exact zxr ht
   simp [this]
  ·have hne : ren loc base t ≠ ren loc base d := fun he => e (ren_inj ht (hd d rfl) he)
   have hdt : d ≠ t := fun x => e x.symm
   rw [if_neg hne, ← h.at_ t ht]
   simp [Array.getElem?_setIfInBounds_ne hdt]
theorem exec_ren {loc : List Nat} {N base : Nat} {a : Act} {ρ : Env} (h : Sim loc N base a ρ) {o : Oper} {op : Op} (hop : zro (ren loc base) o.op = some op)
  (hf : ∀ x ∈ o.op.operands, ∀ t, x = .tmp t → fine loc N base t = true) (r : ROp) (hr : r.op = op) (ht : typed o.op = true → r.type = o.type) :
  execOp a.eval o = exec ρ r := by
 have e1 : execOp a.eval o = execOp (fun x => ev ρ (mapO (ren loc base) x)) o := by
  refine execOp_congr o (fun cs b hs => by rw [hs] at hop; simp [zro] at hop) fun x hx => ?_
  cases x with
  | tmp t => exact h.at_ t (hf _ hx t rfl)
  | _ => rfl
 rw [e1]
 obtain ⟨dst, op0, type, pos, after, guard⟩ := o
 obtain ⟨rd, rop, rt, rg, ra⟩ := r
 simp only at hr ht
 subst hr
 clear e1 hf h
 cases op0 with
 | next x b =>
  have ht' : rt = type := ht rfl
  subst ht'
  simp only [zro, Option.some.injEq] at hop
  subst hop
  rfl
 | call c =>
  have ht' : rt = type := ht rfl
  subst ht'
  simp only [zro, Option.some.injEq] at hop
  subst hop
  simp only [exec, execOp]
  congr 1
  unfold resolve
  cases hc : c.callee with
  | builtin b =>
   simp only [znk, Array.map_map, Function.comp_def]
   congr 3
   refine Array.map_congr_left fun x _ => ?_
   cases x <;> rfl
  | value f => simp only [znk, Array.map_map, Function.comp_def]
  | invoke f m => simp only [znk, Array.map_map, Function.comp_def]
 | binOp b t x y u =>
  simp only [zro, Option.some.injEq] at hop
  subst hop
  cases x <;> cases y <;> rfl
 | _ => first
  | (simp only [zro, Option.some.injEq, reduceCtorEq] at hop; done)
  | (simp only [zro, Option.some.injEq] at hop; subst hop; simp [exec, execOp, Function.comp_def, Option.map_map]; done)
  | (simp only [zro, Option.some.injEq] at hop; subst hop; rfl)
theorem wanted_ren {loc : List Nat} {N base : Nat} {a : Act} {ρ : Env} (h : Sim loc N base a ρ) {all : List Oper} {ops : Array Oper} (hall : ∀ j : Nat, all[j]? = ops[j]?) {o : Oper} {r : ROp} (he : znp loc N base all o = some r) :
  Region.wanted o (yielded ops a.tmps) = zea ρ r.guard := by
 unfold znp at he
 split at he
 case isFalse => cases he
 unfold Region.wanted
 cases hg : o.guard with
 | none =>
  rw [hg] at he
  simp only [Option.bind_some, Option.map_eq_some_iff] at he
  obtain ⟨op, _, rfl⟩ := he
  rfl
 | some g =>
  obtain ⟨j, b⟩ := g
  rw [hg] at he
  simp only at he
  cases hj : all[j]? with
  | none => rw [hj] at he; simp at he
  | some oj =>
   rw [hj] at he
   simp only at he
   have hj' : ops[j]? = some oj := (hall j).symm.trans hj
   unfold yielded
   simp only [hj', Option.bind_some]
   cases hd : oj.dst with
   | none =>
    rw [hd] at he
    simp only [Option.bind_some, Option.map_eq_some_iff] at he
    obtain ⟨op, _, rfl⟩ := he
    simp [zea]
   | some d =>
    rw [hd] at he
    simp only at he
    split at he
    case isFalse => simp at he
    rename_i hfd
    simp only [Option.bind_some, Option.map_eq_some_iff] at he
    obtain ⟨op, _, rfl⟩ := he
    have hs := h.at_ d hfd
    have hlt : d < a.tmps.size := by rw [h.size]; exact zxr hfd
    simp only [Option.bind_some, zea, ← hs]
    simp only [hlt, Array.getElem?_eq_getElem, Array.getD_eq_getD_getElem?, Option.getD_some]
    cases a.tmps[d] <;> simp
theorem zlm {loc : List Nat} {N base : Nat} {all : List Oper} {o : Oper} {r : ROp} (he : znp loc N base all o = some r) :
  r.dst = o.dst.map (ren loc base) ∧ zro (ren loc base) o.op = some r.op ∧ (typed o.op = true → r.type = o.type) ∧
  (∀ t, o.dst = some t → fine loc N base t = true) ∧ (∀ x ∈ o.op.operands, ∀ t, x = .tmp t → fine loc N base t = true) ∧
  r.after = (o.after.toList.filter (Region.binds .any)).map Edge.on := by
 unfold znp at he
 split at he
 case isFalse => cases he
 rename_i hall
 rw [List.all_append, Bool.and_eq_true] at hall
 obtain ⟨h1, h2⟩ := hall
 rw [Option.bind_eq_some_iff] at he
 obtain ⟨g, _, he⟩ := he
 simp only [Option.map_eq_some_iff] at he
 obtain ⟨op, hop, rfl⟩ := he
 refine ⟨rfl, hop, fun ht => by simp only [ht, if_true], fun t ht => ?_, fun x hx t ht => ?_, rfl⟩
 ·rw [ht] at h1; simpa using h1
 ·subst ht
  rw [List.all_eq_true] at h2
  exact h2 t (List.mem_flatMap.2 ⟨.tmp t, by simpa using hx, by simp [Operand.tmps]⟩)
theorem znb {P : Program} {loc : List Nat} {N base : Nat} {all : List Oper} {ops : Array Oper} (hall : ∀ j : Nat, all[j]? = ops[j]?) {i : Nat} {o : Oper} {r : ROp}
  (hi : ops[i]? = some o) (he : znp loc N base all o = some r) {a : Act} {ρ : Env} (h : Sim loc N base a ρ) {w : World} {K : Env → World → Prop} {K' : Act → World → Prop} {Q : Exit → Act → World → Prop}
  (hK : ∀ a ρ w, Sim loc N base a ρ → K ρ w → K' a w) (hr : zbk P r ρ w K) : wpOp P ops Q i K' a w := by
 obtain ⟨hd, hop, hty, hfd, hfo, _⟩ := zlm he
 have hw := wanted_ren h hall he
 unfold wpOp
 simp only [hi]
 unfold zbk at hr
 rw [hw]
 by_cases hb : zea ρ r.guard = true
 ·rw [if_pos hb] at hr
  rw [if_pos hb]
  left
  unfold Oper.wp
  rw [exec_ren h hop hfo r rfl hty]
  cases hres : (exec ρ r).run P w with
  | ok n w' =>
   rw [hres] at hr
   cases n <;> simp only [upon] at hr <;> simp only [Oper.upon]
   case value v => exact hK _ _ _ (by rw [hd]; exact h.put _ hfd v) hr
   case skip => exact hK _ _ _ (by rw [hd]; exact h.put _ hfd undef) hr
   case enter f args =>
    refine hr.mono ?_
    rintro e w'' ⟨v, rfl, hk⟩
    exact hK _ _ _ (by rw [hd]; exact h.put _ hfd v) hk
  | halt x w' => rw [hres] at hr; simp only [upon] at hr
 ·rw [if_neg hb] at hr
  rw [if_neg hb]
  exact hK _ _ _ (by rw [hd]; exact h.put _ hfd undef) hr
theorem zsz {P : Program} {loc : List Nat} {N base : Nat} {all : List Oper} {ops : Array Oper} (hall : ∀ j : Nat, all[j]? = ops[j]?) {Q : Exit → Act → World → Prop} :
  ∀ (rest : List Oper) (rl : List ROp) (k : Nat), rest.mapM (znp loc N base all) = some rl → (∀ j : Nat, rest[j]? = ops[k + j]?) →
  ∀ {a : Act} {ρ : Env} {w : World} {K : Env → World → Prop}, (∀ a ρ w, Sim loc N base a ρ → K ρ w → Q .normal a w) → Sim loc N base a ρ → runR P rl ρ w K →
   wpOps P ops Q (List.range' k rest.length) a w := by
 intro rest
 induction rest with
 | nil =>
  intro rl k hm _ a ρ w K hK h hr
  simp at hm
  subst hm
  exact hK _ _ _ h hr
 | cons o rest ih =>
  intro rl k hm hj a ρ w K hK h hr
  rw [List.mapM_cons] at hm
  simp only [Option.bind_eq_bind, Option.bind_eq_some_iff, Option.pure_def, Option.some.injEq] at hm
  obtain ⟨r, he, rl', hm', rfl⟩ := hm
  rw [List.length_cons, List.range'_succ, wpOps_cons]
  have h0 : ops[k]? = some o := by have := hj 0; simpa using this.symm
  refine znb hall h0 he h (K := fun ρ w => runR P rl' ρ w K) (fun a ρ w hs hk => ?_) hr
  exact ih rl' (k + 1) hm' (fun j => by have := hj (j + 1); simpa [Nat.add_assoc, Nat.add_comm 1 j] using this) hK hs hk
def zia (σ τ : Env) : Env := fun t => if t < 100 then τ t else σ (t - 100)
def locs (ρ : Env) : Env := fun i => ρ (i + 100)
@[simp] theorem envOf_loc (σ τ : Env) (i : Nat) : zia σ τ (i + 100) = σ i := by
 show (if i + 100 < 100 then τ (i + 100) else σ (i + 100 - 100)) = σ i
 rw [if_neg (by omega), Nat.add_sub_cancel]
def lift (loc : List Nat) (N : Nat) (Q : Exit → Env → World → Prop) : Exit → Act → World → Prop := fun e a w => ∃ σ, Fits loc N a σ ∧ Q e σ w
def W (P : Program) (loc : List Nat) (N : Nat) (c : C) (Q : Exit → Env → World → Prop) (σ : Env) (w : World) : Prop :=
 ∀ code, er loc N code = some c → ∀ a, Fits loc N a σ → code.wp P (lift loc N Q) a w
def zgw (next : Env → World → Prop) (Q : Exit → Env → World → Prop) : Exit → Env → World → Prop
 | .normal, σ, w => next σ w
 | e, σ, w => Q e σ w
def inB (id : Nat) (Q : Exit → Env → World → Prop) : Exit → Env → World → Prop
 | .exit id', σ, w => if id' = id then Q .normal σ w else Q (.exit id') σ w
 | e, σ, w => Q e σ w
theorem Fits.sim {loc : List Nat} {N base : Nat} {a : Act} {σ : Env} (h : Fits loc N a σ) : Sim loc N base a (zia σ fun t => a.tmps.getD (base + t) undef) := by
 refine ⟨h.defers, h.size, fun t ht => ?_⟩
 have hN := zxr ht
 unfold fine at ht
 unfold ren
 cases hl : zlh loc t with
 | some i => simp only [envOf_loc]; exact h.at_ t i hl hN
 | none =>
  simp [hl] at ht
  simp only [zia]
  rw [if_pos (by omega)]
  congr 1
  omega
theorem Sim.fits {loc : List Nat} {N base : Nat} {a : Act} {ρ : Env} (h : Sim loc N base a ρ) : Fits loc N a (locs ρ) := by
 refine ⟨h.defers, h.size, fun t i hl hN => ?_⟩
 have hf : fine loc N base t = true := by unfold fine; simp [hl, hN]
 rw [h.at_ t hf]
 simp [ren, hl, locs]
section
variable {P : Program} {loc : List Nat} {N : Nat} {Q : Exit → Env → World → Prop} {σ : Env} {w : World}
theorem zpj {c : C} {Q' : Exit → Env → World → Prop} (h : W P loc N c Q σ w) (hq : ∀ e σ w, Q e σ w → Q' e σ w) : W P loc N c Q' σ w :=
 fun code hc a ha => wp_mono (h code hc a ha) fun _ _ _ ⟨σ, hf, hQ⟩ => ⟨σ, hf, hq _ _ _ hQ⟩
theorem zdu {id : Nat} {ops : Array Oper} {d : Bool} : er loc N (.region id ops d) = (zpn loc N ops.toList).map (if d then .draw else fun l => .ops (l.map fun r => { r with after := [] })) := by
 cases d <;> rfl
theorem zbv (h : Q .normal σ w) : W P loc N .skip Q σ w := by
 intro code hc a ha
 cases code with
 | skip => exact wp_skip ⟨σ, ha, h⟩
 | region id ops d => rw [zdu] at hc; cases h0 : zpn loc N ops.toList <;> cases d <;> simp [h0] at hc
 | cond x a b => cases x <;> simp [er, Option.bind_eq_some_iff] at hc
 | _ => simp [er, Option.bind_eq_some_iff] at hc
theorem zbl (h : Q .ret σ w) : W P loc N .ret Q σ w := by
 intro code hc a ha
 cases code with
 | ret => exact wp_ret ⟨σ, ha, h⟩
 | region id ops d => rw [zdu] at hc; cases h0 : zpn loc N ops.toList <;> cases d <;> simp [h0] at hc
 | cond x a b => cases x <;> simp [er, Option.bind_eq_some_iff] at hc
 | _ => simp [er, Option.bind_eq_some_iff] at hc
theorem zpk {id : Nat} (h : Q (.exit id) σ w) : W P loc N (.exit id) Q σ w := by
 intro code hc a ha
 cases code with
 | exit id' => simp [er] at hc; subst hc; exact wp_exit ⟨σ, ha, h⟩
 | region id ops d => rw [zdu] at hc; cases h0 : zpn loc N ops.toList <;> cases d <;> simp [h0] at hc
 | cond x a b => cases x <;> simp [er, Option.bind_eq_some_iff] at hc
 | _ => simp [er, Option.bind_eq_some_iff] at hc
theorem W_seq {x y : C} (h : W P loc N x (zgw (W P loc N y Q) Q) σ w) : W P loc N (.seq x y) Q σ w := by
 intro code hc a ha
 cases code with
 | seq c d =>
  simp only [er, Option.bind_eq_some_iff, Option.map_eq_some_iff, C.seq.injEq] at hc
  obtain ⟨x', hx, y', hy, rfl, rfl⟩ := hc
  refine wp_seq (wp_mono (h c hx a ha) ?_)
  rintro e a' w' ⟨σ', hf, hq⟩
  cases e with
  | normal => exact hq d hy a' hf
  | _ => exact ⟨σ', hf, hq⟩
 | region id ops d => rw [zdu] at hc; cases h0 : zpn loc N ops.toList <;> cases d <;> simp [h0] at hc
 | cond x a b => cases x <;> simp [er, Option.bind_eq_some_iff] at hc
 | _ => simp [er] at hc
theorem W_cond {i : Nat} {x y : C} {t : Bool} (hi : σ i = .bool t) (hN : ∀ s, loc[i]? = some s → s < N) (h : W P loc N (if t then x else y) Q σ w) : W P loc N (.cond i x y) Q σ w := by
 intro code hc a ha
 cases code with
 | cond o c d =>
  cases o with
  | tmp s =>
   simp only [er, Option.bind_eq_some_iff, Option.map_eq_some_iff, C.cond.injEq] at hc
   obtain ⟨i', hl, x', hx, y', hy, rfl, rfl, rfl⟩ := hc
   have hs : loc[i']? = some s := by
    have := List.idxOf?_eq_some_iff.1 hl
    grind
   have he : a.eval (.tmp s) = .bool t := by
    show a.tmps.getD s undef = _
    rw [ha.at_ s i' hl (hN s hs), hi]
   refine wp_cond he ?_
   cases t
   ·exact h d hy a ha
   ·exact h c hx a ha
  | _ => simp [er] at hc
 | region id ops d => rw [zdu] at hc; cases h0 : zpn loc N ops.toList <;> cases d <;> simp [h0] at hc
 | _ => simp [er, Option.bind_eq_some_iff] at hc
theorem zey {id : Nat} {c : C} (h : W P loc N c (inB id Q) σ w) : W P loc N (.block id c) Q σ w := by
 intro code hc a ha
 cases code with
 | block id' c' =>
  simp only [er, Option.map_eq_some_iff, C.block.injEq] at hc
  obtain ⟨x, hx, rfl, rfl⟩ := hc
  refine wp_block (wp_mono (h c' hx a ha) ?_)
  rintro e a' w' ⟨σ', hf, hq⟩
  cases e with
  | exit k =>
   simp only [inB] at hq
   simp only [Exit.inBlock]
   split
   ·rename_i hk; rw [if_pos hk] at hq; exact ⟨σ', hf, hq⟩
   ·rename_i hk; rw [if_neg hk] at hq; exact ⟨σ', hf, hq⟩
  | _ => exact ⟨σ', hf, hq⟩
 | region id ops d => rw [zdu] at hc; cases h0 : zpn loc N ops.toList <;> cases d <;> simp [h0] at hc
 | cond x a b => cases x <;> simp [er, Option.bind_eq_some_iff] at hc
 | _ => simp [er, Option.bind_eq_some_iff] at hc
theorem wp_loop_g {c : Code} {Q : Exit → Act → World → Prop} (I : Nat → Act → World → Prop)
  (round : ∀ n a w, I n a w → c.wp P (Exit.then (fun a' w' => ∃ m, m < n ∧ I m a' w') Q) a w) {n : Nat} {a : Act} {w : World} (h₀ : I n a w) : (Code.loop c).wp P Q a w := by
 intro b k cs
 have key : ∀ n a w, I n a w →
   ∃ e a' w', Q e a' w' ∧ Arrives P (lone (b.at a (.code c :: .inLoop c :: k)) cs w) b k cs e a' w' := by
  intro n
  induction n using Nat.strongRecOn with
  | _ n ih =>
   intro a w hI
   obtain ⟨e, a₁, w₁, hq, harr⟩ := round n a w hI b (.inLoop c :: k) cs
   cases e with
   | normal =>
    obtain ⟨m, hlt, hI₁⟩ := hq
    obtain ⟨e₂, a₂, w₂, hq₂, harr₂⟩ := ih m hlt a₁ w₁ hI₁
    exact ⟨e₂, a₂, w₂, hq₂, .of_steps (Steps.trans harr (.one step_inLoop)) harr₂⟩
   | exit id => exact ⟨_, a₁, w₁, hq, .pass (x := .inLoop c) rfl (fun _ _ => .inl (by simp)) harr⟩
   | goto l => exact ⟨_, a₁, w₁, hq, .pass (x := .inLoop c) rfl (fun _ _ => .inl (by simp)) harr⟩
   | ret => exact ⟨_, a₁, w₁, hq, .pass (x := .inLoop c) rfl (fun _ _ => .inl (by simp)) harr⟩
   | panic ch => exact ⟨_, a₁, w₁, hq, .pass (x := .inLoop c) rfl (fun _ _ => .inl (by simp)) harr⟩
   | outgrown => exact ⟨_, a₁, w₁, hq, .pass (x := .inLoop c) rfl (fun _ _ => .inl (by simp)) harr⟩
 obtain ⟨e, a', w', hq, harr⟩ := key _ a w h₀
 exact ⟨e, a', w', hq, .of_steps (.one step_loop) harr⟩
theorem zri {c : C} (I : Nat → Env → World → Prop) {n : Nat} (h₀ : I n σ w)
  (round : ∀ n σ w, I n σ w → W P loc N c (zgw (fun σ' w' => ∃ m, m < n ∧ I m σ' w') Q) σ w) : W P loc N (.loop c) Q σ w := by
 intro code hc a ha
 cases code with
 | loop c' =>
  simp only [er, Option.map_eq_some_iff, C.loop.injEq] at hc
  obtain ⟨x, hx, rfl⟩ := hc
  refine wp_loop_g (fun n a w => ∃ σ, Fits loc N a σ ∧ I n σ w) ?_ (n := n) ⟨σ, ha, h₀⟩
  rintro n a w ⟨σ, hf, hI⟩
  refine wp_mono (round n σ w hI c' hx a hf) ?_
  rintro e a' w' ⟨σ', hf', hq⟩
  cases e with
  | normal => obtain ⟨m, hm, hI'⟩ := hq; exact ⟨m, hm, σ', hf', hI'⟩
  | _ => exact ⟨σ', hf', hq⟩
 | region id ops d => rw [zdu] at hc; cases h0 : zpn loc N ops.toList <;> cases d <;> simp [h0] at hc
 | cond x a b => cases x <;> simp [er, Option.bind_eq_some_iff] at hc
 | _ => simp [er, Option.bind_eq_some_iff] at hc
theorem zn {l : List ROp} (h : ∀ τ, runR P l (zia σ τ) w fun ρ w => Q .normal (locs ρ) w) : W P loc N (.ops l) Q σ w := by
 intro code hc a ha
 cases code with
 | region id ops d =>
  rw [zdu] at hc
  cases h0 : zpn loc N ops.toList with
  | none => rw [h0] at hc; simp at hc
  | some rl =>
   rw [h0] at hc
   cases d with
   | true => simp at hc
   | false =>
    simp at hc
    subst hc
    have h := fun τ => (zsi rl).1 (h τ)
    refine wp_region ?_
    have := zsz (P := P) (loc := loc) (N := N) (base := baseOf loc ops.toList) (all := ops.toList) (ops := ops) (fun j => by simp) (Q := lift loc N Q) ops.toList rl 0 h0 (fun j => by simp)
     (a := a) (w := w) (K := fun ρ w => Q .normal (locs ρ) w) (fun a ρ w hs hk => ⟨_, hs.fits, hk⟩) ha.sim (h _)
    simpa [List.range_eq_range'] using this
 | cond x a b => cases x <;> simp [er, Option.bind_eq_some_iff] at hc
 | _ => simp [er, Option.bind_eq_some_iff] at hc
end
def Hands (P : Program) (loc : List Nat) (N : Nat) (fn : Func) (σ : Env) (w : World) (v : Value) : Prop :=
 ∀ a, Fits loc N a σ → (results fn a.tmps).run P w = .ok v w
theorem calls_of_W {P : Program} {loc : List Nat} {f : FuncId} {fn : Func} {code : Code} {c : C} {args : Array Value} {w : World} {R : Ending → World → Prop}
  (hf : P.funcs[f]? = some fn) (hb : fn.body = some code) (he : er loc fn.ntmps code = some c) (hsz : args.size ≤ fn.ntmps) (σ : Env)
  (hσ : ∀ t i, zlh loc t = some i → t < fn.ntmps → (args.getD t undef) = σ i)
  (h : W P loc fn.ntmps c (fun e σ w => (e = .normal ∨ e = .ret) ∧ ∃ v, Hands P loc fn.ntmps fn σ w v ∧ R (.returned v) w) σ w) : Calls P f args w R := by
 have hfit : Fits loc fn.ntmps { tmps := args ++ Array.replicate (fn.ntmps - args.size) undef, defers := [] } σ := by
  refine ⟨rfl, by simp; omega, fun t i hl hN => ?_⟩
  rw [← hσ t i hl hN]
  simp only [Array.getD_eq_getD_getElem?, Array.getElem?_append]
  split
  ·rfl
  ·rename_i hlt
   rw [Array.getElem?_eq_none (by omega : args.size ≤ t)]
   by_cases h2 : t - args.size < fn.ntmps - args.size <;> simp [h2]
 refine calls_of_wp hf hb (wp_mono (h code he _ hfit) ?_)
 rintro e a w ⟨σ', hf', hor, v, hv, hR⟩
 rcases hor with rfl | rfl
 ·exact ⟨hf'.defers, v, hv a hf', hR⟩
 ·exact ⟨hf'.defers, v, hv a hf', hR⟩
def readyP (l : List ROp) (pend : List Nat) (i : Nat) : Prop := i ∈ pend ∧ ∀ e ∈ (l.getD i default).after, e ∉ pend
def anyP (P : Program) (l : List ROp) (K : Env → World → Prop) : Nat → List Nat → Env → World → Prop
 | 0, _, ρ, w => K ρ w
 | f + 1, pend, ρ, w => ∀ i, readyP l pend i → zbk P (l.getD i default) ρ w fun ρ w => anyP P l K f (pend.erase i) ρ w
def zfu (r : ROp) : List Nat :=
 r.op.operands.toList.flatMap Operand.tmps ++ (match r.guard with | some (some d, _) => [d] | _ => [])
def zrf (l : List ROp) : Bool := l.zipIdx.all fun (r, i) => r.after.all fun e => Nat.blt e i
theorem zki {l : List ROp} (h : zrf l = true) {i e : Nat} (hi : i < l.length) (he : e ∈ (l.getD i default).after) : e < i := by
 unfold zrf at h
 rw [List.all_eq_true] at h
 have h1 := h (l[i], i) (List.mem_zipIdx_iff_getElem?.2 (by simp [hi]))
 simp only [List.all_eq_true] at h1
 have h2 := h1 e (by simpa [List.getD, hi] using he)
 simpa using h2
theorem zvr {l : List ROp} (hb : zrf l = true) : ∀ (pend : List Nat), pend ≠ [] → (∀ i ∈ pend, i < l.length) → ∃ i, readyP l pend i := by
 intro pend hne hlt
 obtain ⟨m, hm, hmin⟩ : ∃ m, m ∈ pend ∧ ∀ x ∈ pend, m ≤ x := by
  cases hmin : pend.min? with
  | none => simp at hmin; exact absurd hmin hne
  | some m =>
   have := List.min?_eq_some_iff.1 hmin
   exact ⟨m, this.1, fun x hx => this.2 x hx⟩
 exact ⟨m, hm, fun e he hep => by have := zki hb (hlt m hm) he; have := hmin e hep; omega⟩
section
variable {P : Program} {loc : List Nat} {N : Nat} {Q : Exit → Env → World → Prop} {σ : Env} {w : World}
theorem mapM_get {α β : Type} {f : α → Option β} : ∀ {l : List α} {r : List β}, l.mapM f = some r → ∀ i : Nat, r[i]? = (l[i]?).bind f
 | [], r, h, i => by simp at h; subst h; simp
 | a :: l, r, h, i => by
  rw [List.mapM_cons] at h
  simp only [Option.bind_eq_bind, Option.bind_eq_some_iff, Option.pure_def, Option.some.injEq] at h
  obtain ⟨b, hb, r', hr, rfl⟩ := h
  cases i with
  | zero => simp [hb]
  | succ i => simpa using mapM_get hr i
theorem zmv {α β : Type} {f : α → Option β} : ∀ {l : List α} {r : List β}, l.mapM f = some r → r.length = l.length
 | [], r, h => by simp at h; subst h; rfl
 | a :: l, r, h => by
  rw [List.mapM_cons] at h
  simp only [Option.bind_eq_bind, Option.bind_eq_some_iff, Option.pure_def, Option.some.injEq] at h
  obtain ⟨b, _, r', hr, rfl⟩ := h
  simp [zmv hr]
theorem zta {base : Nat} {ops : Array Oper} {rl : List ROp} (hm : ops.toList.mapM (znp loc N base ops.toList) = some rl) (hb : zrf rl = true) {K : Env → World → Prop}
  (hK : ∀ a ρ w, Sim loc N base a ρ → K ρ w → lift loc N Q .normal a w) : ∀ (f : Nat) (pend : List Nat) (listed : Array Bool) (a : Act) (ρ : Env) (w : World), pend.length = f → pend.Nodup → (∀ i ∈ pend, i < ops.size) →
   listed.size = ops.size → (∀ i, i < ops.size → (listed.getD i true = false ↔ i ∈ pend)) → Sim loc N base a ρ → anyP P rl K f pend ρ w → wpAny P .any ops (lift loc N Q) f listed a w := by
 have hgt := mapM_get hm
 have hlen : rl.length = ops.size := by simpa using zmv hm
 have hget : ∀ i o, ops[i]? = some o → ∃ r, znp loc N base ops.toList o = some r ∧ rl.getD i default = r := by
  intro i o hi
  have h1 := hgt i
  have hi' : ops.toList[i]? = some o := by simpa using hi
  rw [hi'] at h1
  simp only [Option.bind_some] at h1
  have hil : i < rl.length := by rw [hlen]; exact (Array.getElem?_eq_some_iff.1 hi).1
  refine ⟨rl[i], ?_, by simp [List.getD, hil]⟩
  rw [← h1]; simp [hil]
 have hready : ∀ (pend : List Nat) (listed : Array Bool), (∀ i ∈ pend, i < ops.size) → listed.size = ops.size → (∀ i, i < ops.size → (listed.getD i true = false ↔ i ∈ pend)) →
   ∀ i, i ∈ Region.ready .any ops listed ↔ readyP rl pend i := by
  intro pend listed hp hs hl i
  rw [mem_ready]
  constructor
  ·rintro ⟨h0, o, ho, hall⟩
   have hi : i < ops.size := (Array.getElem?_eq_some_iff.1 ho).1
   refine ⟨(hl i hi).1 h0, fun e he hep => ?_⟩
   obtain ⟨r, hr, hg⟩ := hget i o ho
   rw [hg, (zlm hr).2.2.2.2.2] at he
   obtain ⟨ed, hed, rfl⟩ := List.mem_map.1 he
   have hed' := List.mem_filter.1 hed
   have h3 := hall ed (by simpa using hed'.1) hed'.2
   have h4 := (hl ed.on (hp _ hep)).2 hep
   have hlt : ed.on < listed.size := by rw [hs]; exact hp _ hep
   simp [hlt] at h3 h4
   rw [h3] at h4; cases h4
  ·rintro ⟨hi, hall⟩
   have hil := hp i hi
   have ho : ops[i]? = some ops[i] := by simp [hil]
   refine ⟨(hl i hil).2 hi, ops[i], ho, fun e he hbe => ?_⟩
   obtain ⟨r, hr, hg⟩ := hget i _ ho
   have hmem : e.on ∈ (rl.getD i default).after := by
    rw [hg, (zlm hr).2.2.2.2.2]
    exact List.mem_map.2 ⟨e, List.mem_filter.2 ⟨by simpa using he, hbe⟩, rfl⟩
   have hback := zki hb (by rw [hlen]; exact hil) hmem
   have hnp := hall _ hmem
   have hlt : e.on < ops.size := by omega
   have h4 : ¬ listed.getD e.on true = false := fun h => hnp ((hl e.on hlt).1 h)
   have hlt' : e.on < listed.size := by rw [hs]; exact hlt
   simp [hlt'] at h4 ⊢
   exact h4
 intro f
 induction f with
 | zero =>
  intro pend listed a ρ w hf _ hp hs hl hsim hany
  have hnil : pend = [] := List.length_eq_zero_iff.1 hf
  subst hnil
  refine ⟨?_, hK _ _ _ hsim hany⟩
  cases hr : Region.ready .any ops listed with
  | nil => rfl
  | cons x xs =>
   have := (hready [] listed hp hs hl x).1 (by rw [hr]; simp)
   exact absurd this.1 (by simp)
 | succ f ih =>
  intro pend listed a ρ w hf hnd hp hs hl hsim hany
  refine ⟨fun hr => ?_, fun i hi => ?_⟩
  ·have hne : pend ≠ [] := by intro h; rw [h] at hf; simp at hf
   obtain ⟨i, hi⟩ := zvr hb pend hne (fun i h => by rw [hlen]; exact hp i h)
   have := (hready pend listed hp hs hl i).2 hi
   rw [hr] at this; cases this
  ·have hi' := (hready pend listed hp hs hl i).1 hi
   have hil := hp i hi'.1
   have ho : ops[i]? = some ops[i] := by simp [hil]
   obtain ⟨r, hr, hg⟩ := hget i _ ho
   have hst := hany i hi'
   rw [hg] at hst
   refine znb (fun j => by simp) ho hr hsim (fun a' ρ' w' hsim' hk => ?_) hst
   refine ih (pend.erase i) _ a' ρ' w' (by rw [List.length_erase_of_mem hi'.1]; omega) (hnd.erase i) (fun j hj => hp j (List.mem_of_mem_erase hj)) (by simpa using hs) (fun j hj => ?_) hsim' hk
   have hjs : j < listed.size := by rw [hs]; exact hj
   rw [hnd.mem_erase_iff, ← hl j hj]
   by_cases hij : i = j
   ·subst hij; simp [hjs]
   ·rw [getD_set_ne true hij]
    exact ⟨fun h => ⟨fun e => hij e.symm, h⟩, fun h => h.2⟩
theorem W_draw {l : List ROp} (hm : P.follows .mixedOrders = true) (hb : zrf l = true) (h : ∀ τ, anyP P l (fun ρ w => Q .normal (locs ρ) w) l.length (List.range l.length) (zia σ τ) w.drew) : W P loc N (.draw l) Q σ w := by
 intro code hc a ha
 cases code with
 | region id ops d =>
  rw [zdu] at hc
  cases h0 : zpn loc N ops.toList with
  | none => rw [h0] at hc; simp at hc
  | some rl =>
   rw [h0] at hc
   cases d with
   | false => simp at hc
   | true =>
    simp at hc
    subst hc
    have hlen : rl.length = ops.size := by simpa using zmv h0
    refine wp_region_any hm ?_
    have h1 := h (fun t => a.tmps.getD (baseOf loc ops.toList + t) undef)
    rw [hlen] at h1
    refine zta h0 hb (K := fun ρ w => Q .normal (locs ρ) w) (fun a ρ w hs hk => ⟨_, hs.fits, hk⟩) ops.size (List.range ops.size) _ a _ _ (by simp) List.nodup_range (fun i hi => by simpa using hi) (by simp) (fun i hi => by simp [hi]) ha.sim h1
 | cond x a b => cases x <;> simp [er, Option.bind_eq_some_iff] at hc
 | _ => simp [er, Option.bind_eq_some_iff] at hc
end
def zkk (P : Program) (r : ROp) (ρ : Env) (w : World) (v : Value) : Prop :=
 (zea ρ r.guard = true ∧ (exec ρ r).run P w = .ok (.value v) w) ∨ (zea ρ r.guard = false ∧ v = undef)
def zmk (P : Program) (Cw : World → Prop) (l : List ROp) (rd : Nat → Bool) (K : Env → Prop) : List Nat → Env → Prop
 | [], ρ => K ρ
 | i :: is, ρ => if rd i = true then ∃ v, (∀ w, Cw w → zkk P (l.getD i default) ρ w v) ∧ zmk P Cw l rd K is (put ρ (l.getD i default).dst v) else zmk P Cw l rd K is ρ
def reach (l : List ROp) : Nat → Nat → Nat → Bool
 | 0, j, i => (l.getD j default).after.contains i
 | f + 1, j, i => (l.getD j default).after.contains i || (l.getD j default).after.any fun k => reach l f k i
def zrp (l : List ROp) (rd : Nat → Bool) (j : Nat) : Bool := (List.range l.length).all fun i => !rd i || reach l l.length j i
def znq (P : Program) (Cw : World → Prop) (l : List ROp) (rd : Nat → Bool) (K : Env → World → Prop) : List Nat → Env → World → Prop
 | [], ρ, w => K ρ w
 | j :: E, ρ, w => zbk P (l.getD j default) ρ w fun ρ w => (zrp l rd j = true ∨ Cw w) ∧ znq P Cw l rd K E ρ w
def zxm : Op → Bool
 | .select .. => true
 | _ => false
def pairB (l : List ROp) (rd : Nat → Bool) (i j : Nat) : Bool :=
 match (l.getD i default).dst with
 | none => true
 | some d =>
  if Nat.blt d 100 then
   if i == j then !(zfu (l.getD j default)).contains d
   else (match (l.getD j default).dst with | some d' => !(Nat.beq d' d) | none => true) &&
    (!(zfu (l.getD j default)).contains d || ((l.getD j default).after.contains i && (!rd j || rd i)))
  else !rd i && (i == j || (l.getD i default).after.contains j)
def stepB (l : List ROp) (rd : Nat → Bool) (i j : Nat) : Bool :=
 !(!rd i && !rd j && Nat.blt i j) || (List.range l.length).any fun k => Nat.ble i k && Nat.blt k j && !rd k && (l.getD j default).after.contains k
def zpl (l : List ROp) (rd : Nat → Bool) : Bool :=
 zrf l && l.all (fun r => !zxm r.op) && (List.range l.length).all fun i => (List.range l.length).all fun j => pairB l rd i j && stepB l rd i j
theorem zos {r : ROp} (hs : zxm r.op = false) {ρ ρ' : Env} (h : ∀ t ∈ zfu r, ρ t = ρ' t) : exec ρ r = exec ρ' r := by
 unfold exec
 refine execOp_congr _ (fun cs b he => by simp only at he; rw [he] at hs; cases hs) fun x hx => ?_
 cases x with
 | tmp t => exact h t (List.mem_append_left _ (List.mem_flatMap.2 ⟨.tmp t, by simpa using hx, by simp [Operand.tmps]⟩))
 | _ => rfl
theorem zkl {r : ROp} {ρ ρ' : Env} (h : ∀ t ∈ zfu r, ρ t = ρ' t) : zea ρ r.guard = zea ρ' r.guard := by
 cases hg : r.guard with
 | none => rfl
 | some g =>
  obtain ⟨o, b⟩ := g
  cases o with
  | none => rfl
  | some d => simp only [zea]; rw [h d (List.mem_append_right _ (by simp [hg]))]
theorem zig {P : Program} {r : ROp} (hs : zxm r.op = false) {ρ ρ' : Env} (h : ∀ t ∈ zfu r, ρ t = ρ' t) {w : World} {v : Value} (hy : zkk P r ρ w v) : zkk P r ρ' w v := by
 unfold zkk at *
 rw [← zos hs h, ← zkl h]
 exact hy
theorem upon_map {P : Program} {d : Option Nat} {ρ ρ' : Env} {K K' : Env → World → Prop} (h : ∀ v w, K (put ρ d v) w → K' (put ρ' d v) w) {r : Result Next} (hr : upon P d ρ K r) : upon P d ρ' K' r := by
 cases r with
 | ok n w =>
  cases n <;> simp only [upon] at hr ⊢ <;> first
   | exact h _ _ hr
   | exact hr.mono fun e w' ⟨v, he, hk⟩ => ⟨v, he, h _ _ hk⟩
 | halt x w => simp only [upon] at hr
section
variable {P : Program} {l : List ROp} {rd : Nat → Bool}
theorem zok (h : zpl l rd = true) {i j : Nat} (hi : i < l.length) (hj : j < l.length) : pairB l rd i j = true ∧ stepB l rd i j = true := by
 unfold zpl at h
 rw [Bool.and_eq_true, List.all_eq_true] at h
 have h1 := h.2 i (List.mem_range.2 hi)
 rw [List.all_eq_true] at h1
 simpa using h1 j (List.mem_range.2 hj)
theorem zvf (h : zpl l rd = true) {i : Nat} (hi : i < l.length) : zxm (l.getD i default).op = false := by
 unfold zpl at h
 simp only [Bool.and_eq_true, List.all_eq_true] at h
 have := h.1.2 l[i] (List.getElem_mem hi)
 simpa [List.getD, hi] using this
theorem zol (h : zpl l rd = true) : zrf l = true := by
 unfold zpl at h
 simp only [Bool.and_eq_true] at h
 exact h.1.1
theorem zko (h : zpl l rd = true) {i j d : Nat} (hi : i < l.length) (hj : j < l.length) (hd : (l.getD i default).dst = some d) (hlt : d < 100) :
  (i = j → d ∉ zfu (l.getD j default)) ∧ (i ≠ j → (l.getD j default).dst ≠ some d ∧ (d ∈ zfu (l.getD j default) → i ∈ (l.getD j default).after ∧ (rd j = true → rd i = true))) := by
 have h1 := (zok h hi hj).1
 unfold pairB at h1
 rw [hd] at h1
 have hb : Nat.blt d 100 = true := by simpa using hlt
 simp only [hb, if_true] at h1
 refine ⟨fun e => ?_, fun e => ?_⟩
 ·have : (i == j) = true := by simpa using e
  rw [this] at h1; simpa using h1
 ·have : (i == j) = false := by simpa using e
  rw [this] at h1
  simp only [Bool.false_eq_true, if_false, Bool.and_eq_true] at h1
  refine ⟨fun hc => ?_, fun hm => ?_⟩
  ·rw [hc] at h1; simp at h1
  ·have h2 := h1.2
   simp only [Bool.or_eq_true, Bool.not_eq_true', List.contains_eq_mem, decide_eq_true_eq, Bool.and_eq_true, decide_eq_false_iff_not] at h2
   rcases h2 with h2 | h2
   ·exact absurd hm h2
   ·refine ⟨h2.1, fun hr => ?_⟩
    rcases h2.2 with h3 | h3
    ·rw [hr] at h3; cases h3
    ·exact h3
theorem zmc (h : zpl l rd = true) {i j d : Nat} (hi : i < l.length) (hj : j < l.length) (hd : (l.getD i default).dst = some d) (hge : ¬ d < 100) :
  rd i = false ∧ (i ≠ j → j ∈ (l.getD i default).after) := by
 have h1 := (zok h hi hj).1
 unfold pairB at h1
 rw [hd] at h1
 have hb : Nat.blt d 100 = false := by
  cases hb : Nat.blt d 100 with
  | false => rfl
  | true => exact absurd (by simpa using hb) hge
 simp only [hb, Bool.false_eq_true, if_false, Bool.and_eq_true, Bool.not_eq_true', Bool.or_eq_true, beq_iff_eq, List.contains_eq_mem, decide_eq_true_eq] at h1
 exact ⟨h1.1, fun e => h1.2.resolve_left e⟩
theorem zoi (hp : zpl l rd = true) {Cw : World → Prop} {K : Env → Prop} : ∀ (is : List Nat) (ρ : Env), is.Pairwise (· < ·) → (∀ i ∈ is, i < l.length) → zmk P Cw l rd K is ρ →
  ∃ ρ1, K ρ1 ∧ (∀ t, (∀ i ∈ is, rd i = true → (l.getD i default).dst ≠ some t) → ρ1 t = ρ t) ∧
   ∀ i ∈ is, rd i = true → ∃ v, (∀ d, (l.getD i default).dst = some d → ρ1 d = v) ∧ ∀ w, Cw w → zkk P (l.getD i default) ρ1 w v
 | [], ρ, _, _, h => ⟨ρ, h, fun _ _ => rfl, fun _ hi => by cases hi⟩
 | i :: is, ρ, hs, hlt, h => by
  have hs' := List.pairwise_cons.1 hs
  have hi := hlt i (by simp)
  have hlt' : ∀ j ∈ is, j < l.length := fun j hj => hlt j (by simp [hj])
  unfold zmk at h
  by_cases hr : rd i = true
  ·rw [if_pos hr] at h
   obtain ⟨v, hy, h⟩ := h
   obtain ⟨ρ1, hK, hrest, hall⟩ := zoi hp is _ hs'.2 hlt' h
   have hown : ∀ d, (l.getD i default).dst = some d → d < 100 := fun d hd => by
    refine Decidable.byContradiction fun hge => ?_
    have := (zmc hp hi hi hd hge).1
    rw [hr] at this; cases this
   refine ⟨ρ1, hK, fun t ht => ?_, fun j hj hrj => ?_⟩
   ·rw [hrest t fun j hj hrj => ht j (by simp [hj]) hrj]
    have := ht i (by simp) hr
    cases hd : (l.getD i default).dst with
    | none => rfl
    | some d =>
     simp only [put]
     rw [if_neg (fun e => this (by rw [hd, e]))]
   ·rcases List.mem_cons.1 hj with rfl | hj'
    ·have hval : ∀ d, (l.getD j default).dst = some d → ρ1 d = v := fun d hd => by
      rw [hrest d fun k hk hrk hdk => by
       have hne : j ≠ k := by have := hs'.1 k hk; omega
       exact ((zko hp hi (hlt' k hk) hd (hown d hd)).2 hne).1 hdk]
      rw [hd]; simp [put]
     refine ⟨v, hval, fun w hw => zig (zvf hp hi) (fun t ht => ?_) (hy w hw)⟩
     have hnd : (l.getD j default).dst ≠ some t := fun hd => (zko hp hi hi hd (hown t hd)).1 rfl ht
     rw [hrest t fun k hk hrk hdk => by
      have hk' := hlt' k hk
      have hkd : t < 100 := Decidable.byContradiction fun hge => by
       have := (zmc hp hk' hk' hdk hge).1
       rw [hrk] at this; cases this
      have hne : k ≠ j := by have := hs'.1 k hk; omega
      have := ((zko hp hk' hi hdk hkd).2 hne).2 ht
      have := zki (zol hp) hi this.1
      have := hs'.1 k hk; omega]
     cases hd : (l.getD j default).dst with
     | none => rfl
     | some d =>
      simp only [put]
      rw [if_neg (fun e => hnd (by rw [hd, e]))]
    ·exact hall j hj' hrj
  ·rw [if_neg hr] at h
   obtain ⟨ρ1, hK, hrest, hall⟩ := zoi hp is _ hs'.2 hlt' h
   refine ⟨ρ1, hK, fun t ht => hrest t fun j hj hrj => ht j (by simp [hj]) hrj, fun j hj hrj => ?_⟩
   rcases List.mem_cons.1 hj with rfl | hj'
   ·exact absurd hrj hr
   ·exact hall j hj' hrj
def zfk (l : List ROp) (rd : Nat → Bool) (ρ1 : Env) (pend : List Nat) (ρ : Env) : Env := fun t =>
 if pend.any (fun i => rd i && decide ((l.getD i default).dst = some t)) then ρ1 t else ρ t
theorem zez {ρ1 ρ : Env} {pend : List Nat} {t i : Nat} (hi : i ∈ pend) (hr : rd i = true) (hd : (l.getD i default).dst = some t) : zfk l rd ρ1 pend ρ t = ρ1 t := by
 unfold zfk
 rw [if_pos]
 rw [List.any_eq_true]
 exact ⟨i, hi, by simp only [hr, hd, decide_true, Bool.and_self]⟩
theorem zcz {ρ1 ρ : Env} {pend : List Nat} {t : Nat} (h : ∀ i ∈ pend, rd i = true → (l.getD i default).dst ≠ some t) : zfk l rd ρ1 pend ρ t = ρ t := by
 unfold zfk
 rw [if_neg]
 rw [List.any_eq_true]
 rintro ⟨i, hi, hx⟩
 simp only [Bool.and_eq_true, decide_eq_true_eq] at hx
 exact h i hi hx.1 hx.2
theorem zoj (hb : zrf l = true) {pend : List Nat} (hcl : ∀ j, j < l.length → j ∉ pend → ∀ e ∈ (l.getD j default).after, e ∉ pend) : ∀ (f j i : Nat), j < l.length → (∀ e ∈ (l.getD j default).after, e ∉ pend) → reach l f j i = true → i ∉ pend
 | 0, j, i, hj, hall, h => by simp [reach] at h; exact hall i h
 | f + 1, j, i, hj, hall, h => by
  simp only [reach, Bool.or_eq_true, List.contains_eq_mem, decide_eq_true_eq, List.any_eq_true] at h
  rcases h with h | ⟨k, hk, h⟩
  ·exact hall i h
  ·have hkl : k < l.length := by have := zki hb hj hk; omega
   exact zoj hb hcl f k i hkl (hcl k hkl (hall k hk)) h
theorem zwm (hp : zpl l rd = true) {Cw : World → Prop} {K : Env → World → Prop} {ρ1 : Env}
  (hread : ∀ i, i < l.length → rd i = true → ∃ v, (∀ d, (l.getD i default).dst = some d → ρ1 d = v) ∧ ∀ w, Cw w → zkk P (l.getD i default) ρ1 w v) :
  ∀ (f : Nat) (pend : List Nat) (ρ : Env) (w : World), pend.length = f → pend.Pairwise (· < ·) → (∀ i ∈ pend, i < l.length) →
   (∀ j, j < l.length → j ∉ pend → ∀ e ∈ (l.getD j default).after, e ∉ pend) →
   (∀ i j, i < l.length → j < l.length → rd i = false → rd j = false → i < j → i ∈ pend → j ∈ pend) →
   (∀ t, (∀ j, j < l.length → j ∉ pend → rd j = false → (l.getD j default).dst ≠ some t) → zfk l rd ρ1 pend ρ t = ρ1 t) →
   ((∃ i ∈ pend, rd i = true) → Cw w) →
   znq P Cw l rd K (pend.filter fun i => !rd i) (zfk l rd ρ1 pend ρ) w → anyP P l K f pend ρ w := by
 intro f
 induction f with
 | zero =>
  intro pend ρ w hf _ _ _ _ _ _ hc
  have hnil : pend = [] := List.length_eq_zero_iff.1 hf
  subst hnil
  have : zfk l rd ρ1 [] ρ = ρ := funext fun t => zcz (fun i hi => by cases hi)
  rw [this] at hc
  exact hc
 | succ f ih =>
  intro pend ρ w hf hs hlt hcl hup hinv hCw hc i hready
  obtain ⟨hi, hall⟩ := hready
  have hil := hlt i hi
  have hnd : pend.Nodup := hs.imp (fun h => Nat.ne_of_lt h)
  have hlook : ∀ t ∈ zfu (l.getD i default), zfk l rd ρ1 pend ρ t = ρ t := fun t ht => zcz fun k hk hrk hdk => by
   have hkl := hlt k hk
   have hkd : t < 100 := Decidable.byContradiction fun hge => by
    have := (zmc hp hkl hkl hdk hge).1
    rw [hrk] at this; cases this
   by_cases hki : k = i
   ·subst hki; exact (zko hp hkl hkl hdk hkd).1 rfl ht
   ·exact hall k (((zko hp hkl hil hdk hkd).2 hki).2 ht).1 hk
  have hsel := zvf hp hil
  have hs' : (pend.erase i).Pairwise (· < ·) := hs.sublist List.erase_sublist
  have hlt' : ∀ j ∈ pend.erase i, j < l.length := fun j hj => hlt j (List.mem_of_mem_erase hj)
  have hlen' : (pend.erase i).length = f := by rw [List.length_erase_of_mem hi]; omega
  have hmem : ∀ j, j ∈ pend.erase i ↔ j ≠ i ∧ j ∈ pend := fun j => hnd.mem_erase_iff
  have hcl' : ∀ j, j < l.length → j ∉ pend.erase i → ∀ e ∈ (l.getD j default).after, e ∉ pend.erase i := fun j hj hjp e he hep => by
   have hep' := (hmem e).1 hep
   by_cases hji : j = i
   ·subst hji; exact hall e he hep'.2
   ·exact hcl j hj (fun h => hjp ((hmem j).2 ⟨hji, h⟩)) e he hep'.2
  by_cases hr : rd i = true
  ·
   obtain ⟨v, hv, hy⟩ := hread i hil hr
   have hdst : ∀ d, (l.getD i default).dst = some d → d < 100 := fun d hd => Decidable.byContradiction fun hge => by
    have := (zmc hp hil hil hd hge).1
    rw [hr] at this; cases this
   have heq : ∀ t ∈ zfu (l.getD i default), ρ1 t = ρ t := fun t ht => by
    rw [← hlook t ht]
    refine (hinv t fun j hj hjp hrj hdj => ?_).symm
    by_cases hjd : t < 100
    ·by_cases hji : j = i
     ·subst hji; rw [hr] at hrj; cases hrj
     ·have := (((zko hp hj hil hdj hjd).2 hji).2 ht).2 hr
      rw [hrj] at this; cases this
    ·by_cases hji : j = i
     ·subst hji; rw [hr] at hrj; cases hrj
     ·exact hcl j hj hjp i ((zmc hp hj hil hdj hjd).2 hji) hi
   have hy' := zig hsel heq (hy w (hCw ⟨i, hi, hr⟩))
   have hfill : zfk l rd ρ1 (pend.erase i) (put ρ (l.getD i default).dst v) = zfk l rd ρ1 pend ρ := by
    funext t
    by_cases ht : ∃ k ∈ pend.erase i, rd k = true ∧ (l.getD k default).dst = some t
    ·obtain ⟨k, hk, hrk, hdk⟩ := ht
     rw [zez hk hrk hdk, zez ((hmem k).1 hk).2 hrk hdk]
    ·rw [zcz fun k hk hrk hdk => ht ⟨k, hk, hrk, hdk⟩]
     cases hd : (l.getD i default).dst with
     | none =>
      simp only [put]
      exact (zcz fun k hk hrk hdk => by
       by_cases hki : k = i
       ·subst hki; rw [hd] at hdk; cases hdk
       ·exact ht ⟨k, (hmem k).2 ⟨hki, hk⟩, hrk, hdk⟩).symm
     | some d =>
      simp only [put]
      by_cases htd : t = d
      ·subst htd
       rw [if_pos rfl, zez hi hr hd, hv t hd]
      ·rw [if_neg htd]
       exact (zcz fun k hk hrk hdk => by
        by_cases hki : k = i
        ·subst hki; rw [hd] at hdk; exact htd (Option.some.inj hdk).symm
        ·exact ht ⟨k, (hmem k).2 ⟨hki, hk⟩, hrk, hdk⟩).symm
   have hfil : (pend.erase i).filter (fun j => !rd j) = pend.filter fun j => !rd j := by
    rw [hnd.erase_eq_filter, List.filter_filter]
    refine List.filter_congr fun j hj => ?_
    by_cases hji : j = i
    ·subst hji; simp [hr]
    ·simp [hji]
   have hgo : anyP P l K f (pend.erase i) (put ρ (l.getD i default).dst v) w := by
    refine ih _ _ _ hlen' hs' hlt' hcl' (fun a b ha hb hra hrb hab hap => ?_) (fun t ht => ?_) (fun ⟨k, hk, hrk⟩ => hCw ⟨k, ((hmem k).1 hk).2, hrk⟩) (by rw [hfil, hfill]; exact hc)
    ·have := (hmem a).1 hap
     refine (hmem b).2 ⟨fun e => ?_, hup a b ha hb hra hrb hab this.2⟩
     subst e; rw [hr] at hrb; cases hrb
    ·rw [hfill]
     refine hinv t fun j hj hjp hrj => ht j hj (fun h => hjp ((hmem j).1 h).2) hrj
   unfold zbk
   rcases hy' with ⟨hw, hrun⟩ | ⟨hw, rfl⟩
   ·rw [if_pos hw, hrun]; exact hgo
   ·rw [if_neg (by rw [hw]; simp)]; exact hgo
  ·
   have hr' : rd i = false := by simpa using hr
   have hhead : ∃ E, (pend.filter fun j => !rd j) = i :: E := by
    cases hE : pend.filter fun j => !rd j with
    | nil =>
     have : i ∈ pend.filter fun j => !rd j := List.mem_filter.2 ⟨hi, by simp [hr']⟩
     rw [hE] at this; cases this
    | cons h E =>
     refine ⟨E, ?_⟩
     have hsf : (h :: E).Pairwise (· < ·) := by rw [← hE]; exact hs.sublist List.filter_sublist
     have him : i ∈ h :: E := by rw [← hE]; exact List.mem_filter.2 ⟨hi, by simp [hr']⟩
     have hhm : h ∈ pend ∧ (!rd h) = true := (List.mem_filter (p := fun j => !rd j)).1 (by rw [hE]; exact List.mem_cons_self)
     rcases List.mem_cons.1 him with rfl | him'
     ·rfl
     ·exfalso
      have hhi := (List.pairwise_cons.1 hsf).1 i him'
      have hrh : rd h = false := by simpa using hhm.2
      have hsb := (zok hp (hlt h hhm.1) hil).2
      unfold stepB at hsb
      rw [hrh, hr'] at hsb
      have hbl : Nat.blt h i = true := by simpa using hhi
      rw [hbl] at hsb
      simp only [Bool.not_false, Bool.and_self, Bool.not_true, Bool.false_or, List.any_eq_true, Bool.and_eq_true, List.contains_eq_mem, decide_eq_true_eq, Bool.not_eq_true'] at hsb
      obtain ⟨k, hk, ⟨⟨hk1, hk2⟩, hk3⟩, hk4⟩ := hsb
      have hk1' : h ≤ k := by simpa using hk1
      have hkp : k ∈ pend := by
       rcases Nat.lt_or_ge h k with hlt2 | hge2
       ·exact hup h k (hlt h hhm.1) (List.mem_range.1 hk) hrh hk3 hlt2 hhm.1
       ·have : k = h := by omega
        rw [this]; exact hhm.1
      exact hall k hk4 hkp
   obtain ⟨E, hE⟩ := hhead
   rw [hE] at hc
   simp only [znq] at hc
   have hfil : (pend.erase i).filter (fun j => !rd j) = E := by
    have h1 : (pend.erase i).filter (fun j => !rd j) = (pend.filter fun j => !rd j).filter fun j => j != i := by
     rw [hnd.erase_eq_filter, List.filter_filter, List.filter_filter]
     refine List.filter_congr fun j _ => Bool.and_comm _ _
    rw [h1, hE]
    have hsf : (i :: E).Pairwise (· < ·) := by rw [← hE]; exact hs.sublist List.filter_sublist
    rw [List.filter_cons]
    simp only [bne_self_eq_false, Bool.false_eq_true, if_false]
    refine List.filter_eq_self.2 fun j hj => ?_
    have := (List.pairwise_cons.1 hsf).1 j hj
    simp; omega
   have hown : ∀ k ∈ pend.erase i, rd k = true → ∀ d, (l.getD i default).dst = some d → (l.getD k default).dst ≠ some d := fun k hk hrk d hd hdk => by
    have hkl := hlt' k hk
    have hkd : d < 100 := Decidable.byContradiction fun hge => by
     have := (zmc hp hkl hkl hdk hge).1
     rw [hrk] at this; cases this
    exact ((zko hp hil hkl hd hkd).2 (fun e => ((hmem k).1 hk).1 e.symm)).1 hdk
   have hfill : ∀ v, zfk l rd ρ1 (pend.erase i) (put ρ (l.getD i default).dst v) = put (zfk l rd ρ1 pend ρ) (l.getD i default).dst v := by
    intro v
    have hsame : ∀ t, (l.getD i default).dst ≠ some t → zfk l rd ρ1 (pend.erase i) (put ρ (l.getD i default).dst v) t = zfk l rd ρ1 pend ρ t := by
     intro t hti
     by_cases ht : ∃ k ∈ pend.erase i, rd k = true ∧ (l.getD k default).dst = some t
     ·obtain ⟨k, hk, hrk, hdk⟩ := ht
      rw [zez hk hrk hdk, zez ((hmem k).1 hk).2 hrk hdk]
     ·rw [zcz fun k hk hrk hdk => ht ⟨k, hk, hrk, hdk⟩]
      rw [zcz (pend := pend) fun k hk hrk hdk => by
       by_cases hki : k = i
       ·subst hki; rw [hr'] at hrk; cases hrk
       ·exact ht ⟨k, (hmem k).2 ⟨hki, hk⟩, hrk, hdk⟩]
      cases hd : (l.getD i default).dst with
      | none => rfl
      | some d =>
       simp only [put]
       rw [if_neg (fun e => hti (by rw [hd, e]))]
    funext t
    by_cases hti : (l.getD i default).dst = some t
    ·rw [zcz fun k hk hrk => hown k hk hrk t hti, hti]
     simp [put]
    ·rw [hsame t hti]
     cases hd : (l.getD i default).dst with
     | none => rfl
     | some d =>
      simp only [put]
      rw [if_neg (fun e => hti (by rw [hd, e]))]
   have hgo : ∀ v w', ((zrp l rd i = true ∨ Cw w') ∧ znq P Cw l rd K E (put (zfk l rd ρ1 pend ρ) (l.getD i default).dst v) w') → anyP P l K f (pend.erase i) (put ρ (l.getD i default).dst v) w' := by
    rintro v w' ⟨hlast, hch⟩
    refine ih _ _ _ hlen' hs' hlt' hcl' (fun a b ha hb hra hrb hab hap => ?_) (fun t ht => ?_) (fun ⟨k, hk, hrk⟩ => ?_) (by rw [hfil, hfill]; exact hch)
    ·have := (hmem a).1 hap
     refine (hmem b).2 ⟨fun e => ?_, hup a b ha hb hra hrb hab this.2⟩
     subst e
     have him : a ∈ pend.filter fun j => !rd j := List.mem_filter.2 ⟨this.2, by simp [hra]⟩
     rw [hE] at him
     have hsf : (b :: E).Pairwise (· < ·) := by rw [← hE]; exact hs.sublist List.filter_sublist
     rcases List.mem_cons.1 him with e | he
     ·omega
     ·have := (List.pairwise_cons.1 hsf).1 a he; omega
    ·rw [hfill]
     have hti := ht i hil (fun h => ((hmem i).1 h).1 rfl) hr'
     have h1 : put (zfk l rd ρ1 pend ρ) (l.getD i default).dst v t = zfk l rd ρ1 pend ρ t := by
      cases hd : (l.getD i default).dst with
      | none => rfl
      | some d => simp only [put]; rw [if_neg (fun e => hti (by rw [hd, e]))]
     rw [h1]
     exact hinv t fun j hj hjp hrj => ht j hj (fun h => hjp ((hmem j).1 h).2) hrj
    ·rcases hlast with hlast | hcw
     ·unfold zrp at hlast
      rw [List.all_eq_true] at hlast
      have := hlast k (List.mem_range.2 (hlt' k hk))
      simp only [hrk, Bool.not_true, Bool.false_or] at this
      exact absurd ((hmem k).1 hk).2 (zoj (zol hp) hcl _ i k hil hall this)
     ·exact hcw
   have hexec : exec (zfk l rd ρ1 pend ρ) (l.getD i default) = exec ρ (l.getD i default) := zos hsel hlook
   have hwant : zea (zfk l rd ρ1 pend ρ) (l.getD i default).guard = zea ρ (l.getD i default).guard := zkl hlook
   unfold zbk at hc ⊢
   rw [hexec, hwant] at hc
   by_cases hw : zea ρ (l.getD i default).guard = true
   ·rw [if_pos hw] at hc ⊢
    exact upon_map hgo hc
   ·rw [if_neg hw] at hc ⊢
    exact hgo _ _ hc
theorem anyP_mixed (hp : zpl l rd = true) {Cw : World → Prop} {K : Env → World → Prop} {ρ : Env} {w : World} (hw : Cw w)
  (h : zmk P Cw l rd (fun ρ1 => znq P Cw l rd K ((List.range l.length).filter fun i => !rd i) ρ1 w) (List.range l.length) ρ) : anyP P l K l.length (List.range l.length) ρ w := by
 obtain ⟨ρ1, hK, hrest, hall⟩ := zoi hp _ _ List.pairwise_lt_range (fun i hi => List.mem_range.1 hi) h
 have hfill : zfk l rd ρ1 (List.range l.length) ρ = ρ1 := by
  funext t
  by_cases ht : ∃ k ∈ List.range l.length, rd k = true ∧ (l.getD k default).dst = some t
  ·obtain ⟨k, hk, hrk, hdk⟩ := ht
   exact zez hk hrk hdk
  ·rw [zcz fun k hk hrk hdk => ht ⟨k, hk, hrk, hdk⟩]
   exact (hrest t fun k hk hrk hdk => ht ⟨k, hk, hrk, hdk⟩).symm
 refine zwm hp (ρ1 := ρ1) (fun i hi hr => ?_) l.length _ ρ w (by simp) List.pairwise_lt_range (fun i hi => List.mem_range.1 hi) (fun j hj hjp => absurd (List.mem_range.2 hj) hjp)
  (fun a b _ hb _ _ _ _ => List.mem_range.2 hb) (fun t _ => by rw [hfill]) (fun _ => hw) (by rw [hfill]; exact hK)
 exact hall i (List.mem_range.2 hi) hr
end
def zqm : Op → Bool
 | .move _ | .assign _ | .pick .. | .load .. | .nilCheck _ | .binOp .. | .unOp .. | .convert .. | .fieldAddr .. | .field .. | .indexAddr .. | .index .. | .slice .. | .extract .. => true
 | .call c => match c.callee with
  | .builtin .len => true
  | _ => false
 | _ => false
theorem zou {P : Program} {w w' : World} {s : Sem Value} {n : Next} (h : (do pure (Next.value (← s)) : Sem Next).run P w = .ok n w') : ∃ v, n = .value v := by
 cases hs : s.run P w with
 | ok v w1 => simp [hs] at h; exact ⟨v, h.1.symm⟩
 | halt x w1 => simp [hs] at h
theorem zwf {P : Program} {α : Type} {s : Sem α} {f : α → Sem Next} (hf : ∀ a w n w', (f a).run P w = .ok n w' → ∃ v, n = .value v) {w w' : World} {n : Next} (h : (s >>= f).run P w = .ok n w') : ∃ v, n = .value v := by
 rw [Sem.run_bind] at h
 cases hs : s.run P w with
 | ok a w1 => rw [hs] at h; exact hf a w1 n w' h
 | halt x w1 => rw [hs] at h; simp at h
theorem zve {P : Program} {w w' : World} {ρ : Env} {o : ROp} {n : Next} (hp : zqm o.op = true) (h : (exec ρ o).run P w = .ok n w') : ∃ v, n = .value v := by
 obtain ⟨d, op, ty, g, af⟩ := o
 cases op with
 | move x => simp [exec, execOp] at h; exact ⟨_, h.1.symm⟩
 | assign x => simp [exec, execOp] at h; exact ⟨_, h.1.symm⟩
 | pick c a b =>
  have e : exec ρ ⟨d, .pick c a b, ty, g, af⟩ = (do pure (Next.value (← (do pure (if ← asBool (ev ρ c) then ev ρ a else ev ρ b) : Sem Value))) : Sem Next) := by simp [exec, execOp]
  rw [e] at h; exact zou h
 | nilCheck x =>
  simp only [exec, execOp] at h
  split at h
  ·simp [runtimePanic, program, bind, Sem.bind, Sem.run, goPanic] at h
  ·simp [runtimePanic, program, bind, Sem.bind, Sem.run, goPanic] at h
  ·simp [runtimePanic, program, bind, Sem.bind, Sem.run, goPanic] at h
  ·split at h
   ·simp [runtimePanic, program, bind, Sem.bind, Sem.run, goPanic] at h
   ·refine zwf (fun p w n w' h => ?_) h
    refine zwf (fun b w n w' h => ?_) h
    split at h
    ·simp [unsupported, bind, Sem.bind] at h
    ·simp at h; exact ⟨_, h.1.symm⟩
   ·simp at h; exact ⟨_, h.1.symm⟩
  ·simp at h; exact ⟨_, h.1.symm⟩
 | call c =>
  obtain ⟨ce, args, ts⟩ := c
  cases ce with
  | builtin b =>
   cases b <;> simp [zqm] at hp
   have e : exec ρ ⟨d, .call ⟨.builtin .len, args, ts⟩, ty, g, af⟩ = (do pure (Next.value (← Builtin.len_ ts ty (args.map (ev ρ)))) : Sem Next) := by simp [exec, execOp, resolve, invoke, builtin]
   rw [e] at h; exact zou h
  | _ => simp [zqm] at hp
 | _ => first
  | (simp [zqm] at hp; done)
  | exact zou h
theorem stepR_pure {P : Program} {o : ROp} (hp : zqm o.op = true) {ρ : Env} {w : World} {K : Env → World → Prop} (h : zbk P o ρ w K) :
  ∃ v w', ((zea ρ o.guard = true ∧ (exec ρ o).run P w = .ok (.value v) w') ∨ (zea ρ o.guard = false ∧ v = undef ∧ w' = w)) ∧ K (put ρ o.dst v) w' := by
 unfold zbk at h
 by_cases hw : zea ρ o.guard = true
 ·rw [if_pos hw] at h
  cases hr : (exec ρ o).run P w with
  | ok n w' =>
   obtain ⟨v, rfl⟩ := zve hp hr
   rw [hr] at h
   exact ⟨v, w', .inl ⟨hw, rfl⟩, h⟩
  | halt x w' => rw [hr] at h; simp [upon] at h
 ·rw [if_neg hw] at h
  exact ⟨undef, w, .inr ⟨by simpa using hw, rfl, rfl⟩, h⟩
def zmi (P : Program) (w : World) (K : Env → Prop) : List ROp → Env → Prop
 | [], ρ => K ρ
 | o :: r, ρ => zbk P o ρ w fun ρ' w' => w' = w ∧ zmi P w K r ρ'
section
variable {P : Program} {w : World}
end
def upd (σ : Env) (i : Nat) (v : Value) : Env := fun j => if j = i then v else σ j
@[simp] theorem upd_same (σ : Env) (i : Nat) (v : Value) : upd σ i v i = v := by simp [upd]
theorem zq {σ : Env} {i j : Nat} {v : Value} (h : j ≠ i) : upd σ i v j = σ j := by simp [upd, h]
@[simp] theorem locs_envOf (σ τ : Env) : locs (zia σ τ) = σ := by funext i; simp [locs]
@[simp] theorem envOf_var (σ τ : Env) (i : Nat) : zia σ τ (i + 100) = σ i := envOf_loc σ τ i
theorem zci (ρ : Env) (i : Nat) (v : Value) : locs (put ρ (some (i + 100)) v) = upd (locs ρ) i v := by
 funext j
 simp only [locs, put, upd]
 by_cases h : j = i
 ·subst h; simp
 ·rw [if_neg (by omega), if_neg h]
theorem zei {ρ : Env} {k : Nat} {v : Value} (h : k < 100) : locs (put ρ (some k) v) = locs ρ := by
 funext j
 simp only [locs, put]
 rw [if_neg (by omega)]
def sel (b : Bool) (x y : Value) : Value := match b with
 | true => x
 | false => y
@[congr] theorem sel_congr {b b' : Bool} {x y : Value} (h : b = b') : sel b x y = sel b' x y := by rw [h]
@[simp] theorem sel_true (x y : Value) : sel true x y = x := rfl
@[simp] theorem sel_false (x y : Value) : sel false x y = y := rfl
theorem zie (ρ : Env) (d : Nat) (v : Value) (t : Nat) : put ρ (some d) v t = sel (t == d) v (ρ t) := by
 show (if t = d then v else ρ t) = _
 by_cases h : t = d
 ·simp [h]
 ·have : (t == d) = false := by simpa using h
  rw [if_neg h, this]; rfl
theorem zd {K : Env → World → Prop} {ρ : Env} {w : World} (h : ∀ σ' : Env, (∀ i, σ' i = ρ (i + 100)) → K σ' w) : K (locs ρ) w := h _ fun _ => rfl
theorem put_none (ρ : Env) (v : Value) : put ρ none v = ρ := rfl
@[simp] theorem ev_tmp (ρ : Env) (t : Nat) : ev ρ (.tmp t) = ρ t := rfl
@[simp] theorem ev_const (ρ : Env) (v : Value) : ev ρ (.const v) = v := rfl
@[simp] theorem ev_global (ρ : Env) (g : Nat) : ev ρ (.global g) = .pointer (some ⟨g, 0, none⟩) := rfl
@[simp] theorem ev_func (ρ : Env) (f : Nat) : ev ρ (.func f) = .func (.func f) #[] #[] := rfl
def zfx (K : Value → World → Prop) : Result Value → Prop
 | .ok v w => K v w
 | .halt _ _ => False
def zwu (K : World → Prop) : Result Unit → Prop
 | .ok _ w => K w
 | .halt _ _ => False
@[simp] theorem stepV_ok (K : Value → World → Prop) (v : Value) (w : World) : zfx K (.ok v w) = K v w := rfl
@[simp] theorem stepU_ok (K : World → Prop) (v : Unit) (w : World) : zwu K (.ok v w) = K w := rfl
@[congr] theorem stepV_congr {K : Value → World → Prop} {r r' : Result Value} (h : r = r') : zfx K r = zfx K r' := by rw [h]
@[congr] theorem stepU_congr {K : World → Prop} {r r' : Result Unit} (h : r = r') : zwu K r = zwu K r' := by rw [h]
section
variable {P : Program} {ρ : Env} {w : World} {K : Env → World → Prop} {d : Option Nat} {ty : TypeId} {af : List Nat}
theorem zas {o : ROp} (hg : o.guard = none) : zbk P o ρ w K = upon P o.dst ρ K ((exec ρ o).run P w) := by
 unfold zbk; rw [hg]; simp [zea]
theorem zbw {op : Op} {g : Nat} {b : Bool} (h : ρ g = .bool b) : zbk P ⟨d, op, ty, some (some g, b), af⟩ ρ w K = zbk P ⟨d, op, ty, none, af⟩ ρ w K := by
 unfold zbk; simp only [zea, h, beq_self_eq_true, if_true]; rfl
theorem zcf {op : Op} {g : Nat} {b : Bool} (h : ρ g = .bool (!b)) : zbk P ⟨d, op, ty, some (some g, b), af⟩ ρ w K = K (put ρ d undef) w := by
 unfold zbk; simp only [zea, h]; cases b <;> simp
theorem zbg {s : Sem Value} : upon P d ρ K ((do pure (Next.value (← s)) : Sem Next).run P w) = zfx (fun v w => K (put ρ d v) w) (s.run P w) := by
 cases h : s.run P w with
 | ok v w' => simp [h, upon]
 | halt x w' => simp [h, upon, zfx]
theorem zup {s : Sem Unit} : upon P d ρ K ((do s; pure Next.skip : Sem Next).run P w) = zwu (fun w => K (put ρ d undef) w) (s.run P w) := by
 cases h : s.run P w with
 | ok v w' => simp [h, upon]
 | halt x w' => simp [h, upon, zwu]
theorem znc {x : Operand} : zbk P ⟨d, .move x, ty, none, af⟩ ρ w K = K (put ρ d (ev ρ x)) w := by rw [zas rfl]; rfl
theorem zmq {x : Operand} : zbk P ⟨d, .assign x, ty, none, af⟩ ρ w K = K (put ρ d (ev ρ x)) w := by rw [zas rfl]; rfl
theorem zcw {c a b : Operand} : zbk P ⟨d, .pick c a b, ty, none, af⟩ ρ w K = zfx (fun v w => K (put ρ d v) w) ((do pure (if ← asBool (ev ρ c) then ev ρ a else ev ρ b) : Sem Value).run P w) := by
 rw [zas rfl, ← zbg]
 simp [exec, execOp]
theorem zog {e : TypeId} : zbk P ⟨d, .alloc e, ty, none, af⟩ ρ w K = zfx (fun v w => K (put ρ d v) w) ((Instr.alloc e true (.tuple #[])).run P w) := by rw [zas rfl, ← zbg]; rfl
theorem step_box {e : TypeId} {x : Operand} : zbk P ⟨d, .box e x, ty, none, af⟩ ρ w K = zfx (fun v w => K (put ρ d v) w) ((Instr.box e (ev ρ x)).run P w) := by rw [zas rfl, ← zbg]; rfl
theorem zjz {e : TypeId} {ps : Array (Nat × Operand)} : zbk P ⟨d, .build e ps, ty, none, af⟩ ρ w K = zfx (fun v w => K (put ρ d v) w) ((Instr.build e (ps.map fun p => (p.1, ev ρ p.2))).run P w) := by rw [zas rfl, ← zbg]; rfl
theorem zio {e : TypeId} {n : Nat} {ps : Array (Nat × Operand)} : zbk P ⟨d, .buildSlice e n ps, ty, none, af⟩ ρ w K = zfx (fun v w => K (put ρ d v) w) ((Instr.buildSlice e n (ps.map fun p => (p.1, ev ρ p.2))).run P w) := by rw [zas rfl, ← zbg]; rfl
theorem zuu {t : TypeId} {x : Operand} : zbk P ⟨d, .load t x, ty, none, af⟩ ρ w K = zfx (fun v w => K (put ρ d v) w) ((Instr.loadAt t (ev ρ x)).run P w) := by rw [zas rfl, ← zbg]; rfl
theorem zjx {t : TypeId} {x y : Operand} : zbk P ⟨none, .store t x y, ty, none, af⟩ ρ w K = zwu (fun w => K ρ w) ((Instr.storeAt t (ev ρ x) (ev ρ y)).run P w) := by rw [zas rfl]; exact zup
theorem zat {x : Operand} {a : Addr} (h : ev ρ x = .pointer (some a)) : zbk P ⟨d, .nilCheck x, ty, none, af⟩ ρ w K = K (put ρ d (.pointer (some a))) w := by
 rw [zas rfl]; simp only [exec, execOp, h]; rfl
theorem zlz {o : BinOp} {t u : TypeId} {x y : Operand} : zbk P ⟨d, .binOp o t x y u, ty, none, af⟩ ρ w K = zfx (fun v w => K (put ρ d v) w) ((do eqGuard o t x y (ev ρ x) (ev ρ y); binOp o t (ev ρ x) (ev ρ y) : Sem Value).run P w) := by rw [zas rfl, ← zbg]; rfl
theorem zur {o : UnOp} {t : TypeId} {x : Operand} : zbk P ⟨d, .unOp o t x, ty, none, af⟩ ρ w K = zfx (fun v w => K (put ρ d v) w) ((Op.unary o (ev ρ x)).run P w) := by rw [zas rfl, ← zbg]; rfl
theorem zjh {s t : TypeId} {x : Operand} : zbk P ⟨d, .convert s t x, ty, none, af⟩ ρ w K = zfx (fun v w => K (put ρ d v) w) ((convert s t (ev ρ x)).run P w) := by rw [zas rfl, ← zbg]; rfl
theorem znd {t : TypeId} {x : Operand} : zbk P ⟨d, .makeInterface t x, ty, none, af⟩ ρ w K = zfx (fun v w => K (put ρ d v) w) ((Instr.makeInterface t (ev ρ x)).run P w) := by rw [zas rfl, ← zbg]; rfl
theorem zne {fn : Fn} {a b : Array Operand} : zbk P ⟨d, .makeFunc fn a b, ty, none, af⟩ ρ w K = zfx (fun v w => K (put ρ d v) w) ((Instr.makeFunc fn (a.map (ev ρ)) (b.map (ev ρ))).run P w) := by rw [zas rfl, ← zbg]; rfl
theorem zut {t : TypeId} {r : Option Operand} : zbk P ⟨d, .makeMap t r, ty, none, af⟩ ρ w K = zfx (fun v w => K (put ρ d v) w) ((Instr.makeMap t (r.map (ev ρ))).run P w) := by rw [zas rfl, ← zbg]; rfl
theorem zjq {t : TypeId} {l c : Operand} : zbk P ⟨d, .makeSlice t l c, ty, none, af⟩ ρ w K = zfx (fun v w => K (put ρ d v) w) ((Instr.makeSlice t (ev ρ l) (ev ρ c)).run P w) := by rw [zas rfl, ← zbg]; rfl
theorem zsb {t : TypeId} {x : Operand} {l h m : Option Operand} : zbk P ⟨d, .slice t x l h m, ty, none, af⟩ ρ w K = zfx (fun v w => K (put ρ d v) w) ((Instr.sliceAt t (ev ρ x) (l.map (ev ρ)) (h.map (ev ρ)) (m.map (ev ρ))).run P w) := by rw [zas rfl, ← zbg]; rfl
theorem zhf {t : TypeId} {x : Operand} {i : Nat} : zbk P ⟨d, .fieldAddr t x i, ty, none, af⟩ ρ w K = zfx (fun v w => K (put ρ d v) w) ((Instr.fieldAt t (ev ρ x) i).run P w) := by rw [zas rfl, ← zbg]; rfl
theorem zgi {t : TypeId} {x : Operand} {i : Nat} : zbk P ⟨d, .field t x i, ty, none, af⟩ ρ w K = zfx (fun v w => K (put ρ d v) w) ((Instr.field t (ev ρ x) i).run P w) := by rw [zas rfl, ← zbg]; rfl
theorem zmj {t : TypeId} {x i : Operand} : zbk P ⟨d, .indexAddr t x i, ty, none, af⟩ ρ w K = zfx (fun v w => K (put ρ d v) w) ((Instr.indexAt t (ev ρ x) (ev ρ i)).run P w) := by rw [zas rfl, ← zbg]; rfl
theorem zsc {t : TypeId} {x i : Operand} : zbk P ⟨d, .index t x i, ty, none, af⟩ ρ w K = zfx (fun v w => K (put ρ d v) w) ((Instr.index t (ev ρ x) (ev ρ i)).run P w) := by rw [zas rfl, ← zbg]; rfl
theorem zwt {t : TypeId} {x i : Operand} {ok : Bool} : zbk P ⟨d, .lookup t x i ok, ty, none, af⟩ ρ w K = zfx (fun v w => K (put ρ d v) w) ((Instr.lookup t (ev ρ x) (ev ρ i) ok).run P w) := by rw [zas rfl, ← zbg]; rfl
theorem zrk {t : TypeId} {m k x : Operand} : zbk P ⟨none, .mapUpdate t m k x, ty, none, af⟩ ρ w K = zwu (fun w => K ρ w) ((Instr.mapUpdate t (ev ρ m) (ev ρ k) (ev ρ x)).run P w) := by rw [zas rfl]; exact zup
theorem zow {x : Operand} {i : Nat} : zbk P ⟨d, .extract x i, ty, none, af⟩ ρ w K = zfx (fun v w => K (put ρ d v) w) ((Instr.extract (ev ρ x) i).run P w) := by rw [zas rfl, ← zbg]; rfl
theorem step_range {t : TypeId} {x : Operand} : zbk P ⟨d, .range t x, ty, none, af⟩ ρ w K = zfx (fun v w => K (put ρ d v) w) ((Instr.range t (ev ρ x)).run P w) := by rw [zas rfl, ← zbg]; rfl
theorem zus {x : Operand} {b : Bool} : zbk P ⟨d, .next x b, ty, none, af⟩ ρ w K = zfx (fun v w => K (put ρ d v) w) ((Instr.next (ev ρ x) b ty).run P w) := by rw [zas rfl, ← zbg]; rfl
theorem step_entry {x : Operand} : zbk P ⟨d, .entry x, ty, none, af⟩ ρ w K = zfx (fun v w => K (put ρ d v) w) ((Instr.entry (ev ρ x)).run P w) := by rw [zas rfl, ← zbg]; rfl
theorem ztg {x : Operand} {ts : Array TypeId} : zbk P ⟨d, .call ⟨.builtin .len, #[x], ts⟩, ty, none, af⟩ ρ w K = zfx (fun v w => K (put ρ d v) w) ((Builtin.len_ ts ty #[ev ρ x]).run P w) := by
 rw [zas rfl, ← zbg]
 simp [exec, execOp, resolve, invoke, builtin]
theorem zqf {x y : Operand} {ts : Array TypeId} : zbk P ⟨d, .call ⟨.builtin .append, #[x, y], ts⟩, ty, none, af⟩ ρ w K = zfx (fun v w => K (put ρ d v) w) ((Builtin.append_ ts ty #[ev ρ x, ev ρ y]).run P w) := by
 rw [zas rfl, ← zbg]
 simp [exec, execOp, resolve, invoke, builtin]
theorem zuv {x y : Operand} {ts : Array TypeId} : zbk P ⟨d, .call ⟨.builtin .copy, #[x, y], ts⟩, ty, none, af⟩ ρ w K = zfx (fun v w => K (put ρ d v) w) ((Builtin.copy_ ts ty #[ev ρ x, ev ρ y]).run P w) := by
 rw [zas rfl, ← zbg]
 simp [exec, execOp, resolve, invoke, builtin]
def zdh (P : Program) (f : FuncId) : Prop := ∃ fn, P.funcs[f]? = some fn ∧ fn.body.isSome = true ∧ (fn.name == "runtime.NumGoroutine") = false
theorem zlf {f : FuncId} {args : Array Value} (h : zdh P f) : (callFunc f args).run P w = .ok (.enter f args) w := by
 obtain ⟨fn, hf, hb, hn⟩ := h
 have hb' : fn.body.isNone = false := by cases hx : fn.body <;> simp_all
 have e : callFunc f args = .program fun p => (match p.funcs[f]? with
  | none => stuck "call: no such function"
  | some fn =>
   if fn.name == "runtime.NumGoroutine" then Sem.pure .numGoroutine
   else if fn.body.isNone then
    (do
    mark (.extern f)
    if let some e := Extern.findNext fn then return ← e args
    match Extern.find fn with
    | some e => pure (.value (← e args))
    | none =>
     if fn.name.endsWith ".init" && !fn.name.startsWith "(" && !fn.name.startsWith "gosem." then pure (.value (.tuple #[]))
     else unsupported (.extern fn.name))
   else Sem.pure (.enter f args)) := rfl
 rw [e]
 simp only [Sem.run, hf, hn, hb', Bool.false_eq_true, if_false]
theorem step_call {f : FuncId} {xs : Array Operand} {ts : Array TypeId} (hf : zdh P f) :
  zbk P ⟨d, .call ⟨.value (.func f), xs, ts⟩, ty, none, af⟩ ρ w K = Calls P f (xs.map (ev ρ)) w fun e w' => ∃ v, e = .returned v ∧ K (put ρ d v) w' := by
 rw [zas rfl]
 have e : (exec ρ ⟨d, .call ⟨.value (.func f), xs, ts⟩, ty, none, af⟩).run P w = .ok (.enter f (xs.map (ev ρ))) w := by
  have h1 := zlf (P := P) (w := w) (args := xs.map (ev ρ)) hf
  simp only [exec, execOp, resolve, ev_func, Deferred.ofValue, Sem.run_bind, invoke]
  simpa [invoke] using h1
 rw [e]; rfl
theorem step_callV {x : Operand} {f : FuncId} {cap : Array Value} {xs : Array Operand} {ts : Array TypeId} (hx : ev ρ x = .func (.func f) #[] cap) (hf : zdh P f) :
  zbk P ⟨d, .call ⟨.value x, xs, ts⟩, ty, none, af⟩ ρ w K = Calls P f (xs.map (ev ρ) ++ cap) w fun e w' => ∃ v, e = .returned v ∧ K (put ρ d v) w' := by
 rw [zas rfl]
 have e : (exec ρ ⟨d, .call ⟨.value x, xs, ts⟩, ty, none, af⟩).run P w = .ok (.enter f (xs.map (ev ρ) ++ cap)) w := by
  have h1 := zlf (P := P) (w := w) (args := xs.map (ev ρ) ++ cap) hf
  simp only [exec, execOp, resolve, hx, Deferred.ofValue, Sem.run_bind, invoke]
  simpa [invoke] using h1
 rw [e]; rfl
end
structure TI (P : Program) (t : TypeId) (d : TypeDesc) (sz by' : Nat) (z : Value) : Prop where
 und : P.underlying t = some d
 info : ∃ i, P.info? t = some i ∧ i.size = sz ∧ i.bytes = by' ∧ i.zero = some z
def zml : TypeDesc → Bool
 | .struct _ | .array .. => true
 | _ => false
section
variable {P : Program} {t : TypeId} {d : TypeDesc} {sz by' : Nat} {z : Value} {w : World}
theorem TI.run_und (h : TI P t d sz by' z) : (underlying t).run P w = .ok d w := by
 simp [underlying, program, Sem.run, bind, Sem.bind, h.und, pure]
theorem TI.run_size (h : TI P t d sz by' z) : (sizeOf t).run P w = .ok sz w := by
 obtain ⟨i, hi, h1, _, _⟩ := h.info
 simp [sizeOf, typeInfo, program, Sem.run, bind, Sem.bind, hi, pure, h1]
theorem TI.run_zero (h : TI P t d sz by' z) : (zeroValue t).run P w = .ok z w := by
 obtain ⟨i, hi, _, _, h3⟩ := h.info
 simp [zeroValue, typeInfo, program, Sem.run, bind, Sem.bind, hi, pure, h3]
theorem TI.run_isAgg (h : TI P t d sz by' z) : (isAgg t).run P w = .ok (zml d) w := by
 unfold isAgg
 rw [Sem.run_bind, h.run_und]
 cases d <;> rfl
end
structure Mod (w w' : World) (M : Nat → Nat → Prop) : Prop where
 os : w'.os = w.os
 tape : w'.tape = w.tape
 output : w'.output = w.output
 size : w.heap.size ≤ w'.heap.size
 block : ∀ k, k < w.heap.size → (∀ o, ¬ M k o) → w'.heap[k]? = w.heap[k]?
 cell : ∀ k o, k < w.heap.size → ¬ M k o → w'.cell? ⟨k, o, none⟩ = w.cell? ⟨k, o, none⟩
 isCell : ∀ k o, k < w.heap.size → (w'.cell? ⟨k, o, none⟩).isSome = (w.cell? ⟨k, o, none⟩).isSome
 frozen : ∀ k o, k < w.heap.size → w'.frozen? ⟨k, o, none⟩ = w.frozen? ⟨k, o, none⟩
 shape : ∀ k, k < w.heap.size → w'.shape? k = w.shape? k
def zw : Nat → Nat → Prop := fun _ _ => False
def blk (r : Nat) : Nat → Nat → Prop := fun k _ => k = r
def rng (b o n : Nat) : Nat → Nat → Prop := fun k i => k = b ∧ o ≤ i ∧ i < o + n
def orM (M M' : Nat → Nat → Prop) : Nat → Nat → Prop := fun k o => M k o ∨ M' k o
theorem Mod.refl (w : World) (M : Nat → Nat → Prop) : Mod w w M := ⟨rfl, rfl, rfl, Nat.le_refl _, fun _ _ _ => rfl, fun _ _ _ _ => rfl, fun _ _ _ => rfl, fun _ _ _ => rfl, fun _ _ => rfl⟩
theorem Mod.mono {w w' : World} {M M' : Nat → Nat → Prop} (h : Mod w w' M) (hm : ∀ k o, k < w.heap.size → M k o → M' k o) : Mod w w' M' :=
 ⟨h.os, h.tape, h.output, h.size, fun k hk hn => h.block k hk fun o ho => hn o (hm k o hk ho), fun k o hk hn => h.cell k o hk fun ho => hn (hm k o hk ho), h.isCell, h.frozen, h.shape⟩
theorem Mod.trans {w w1 w2 : World} {M M1 M2 : Nat → Nat → Prop} (h : Mod w w1 M1) (h' : Mod w1 w2 M2) (hm : ∀ k o, k < w.heap.size → M1 k o ∨ M2 k o → M k o) : Mod w w2 M := by
 have hs := h.size
 refine ⟨h'.os.trans h.os, h'.tape.trans h.tape, h'.output.trans h.output, Nat.le_trans h.size h'.size, fun k hk hn => ?_, fun k o hk hn => ?_, fun k o hk => ?_, fun k o hk => ?_, fun k hk => ?_⟩
 ·rw [h'.block k (by omega) fun o ho => hn o (hm k o hk (.inr ho)), h.block k hk fun o ho => hn o (hm k o hk (.inl ho))]
 ·rw [h'.cell k o (by omega) fun ho => hn (hm k o hk (.inr ho)), h.cell k o hk fun ho => hn (hm k o hk (.inl ho))]
 ·rw [h'.isCell k o (by omega), h.isCell k o hk]
 ·rw [h'.frozen k o (by omega), h.frozen k o hk]
 ·rw [h'.shape k (by omega), h.shape k hk]
theorem Mod.trans' {w w1 w2 : World} {M : Nat → Nat → Prop} (h : Mod w w1 M) (h' : Mod w1 w2 M) : Mod w w2 M := h.trans h' fun _ _ _ hm => hm.elim id id
theorem Mod.fresh {w w1 w2 : World} {M M' : Nat → Nat → Prop} (h : Mod w w1 M) (h' : Mod w1 w2 M') (hm : ∀ k o, M' k o → w.heap.size ≤ k) : Mod w w2 M :=
 h.trans h' fun k o hk ho => ho.elim id fun ho => by have := hm k o ho; omega
theorem Mod.drew (w : World) (M : Nat → Nat → Prop) : Mod w w.drew M := ⟨rfl, rfl, rfl, Nat.le_refl _, fun _ _ _ => rfl, fun _ _ _ _ => rfl, fun _ _ _ => rfl, fun _ _ _ => rfl, fun _ _ => rfl⟩
theorem heap_alloc (w : World) (o : Obj) (k : Nat) (h : k < w.heap.size) : (w.alloc o).heap[k]? = w.heap[k]? := Below.heap_alloc w o k h
theorem Mod.of_blocks {w w' : World} {M : Nat → Nat → Prop} (h1 : w'.os = w.os) (h2 : w'.tape = w.tape) (h3 : w'.output = w.output) (h4 : w.heap.size ≤ w'.heap.size) (h5 : ∀ k, k < w.heap.size → w'.heap[k]? = w.heap[k]?) : Mod w w' M :=
 ⟨h1, h2, h3, h4, fun k hk _ => h5 k hk, fun k o hk _ => World.cell?_of_block (h5 k hk), fun k o hk => by rw [World.cell?_of_block (h5 k hk)], fun k o hk => World.frozen?_of_block (h5 k hk), fun k hk => by simp [World.shape?, h5 k hk]⟩
theorem Mod.alloc (w : World) (o : Obj) (M : Nat → Nat → Prop) : Mod w (w.alloc o) M :=
 .of_blocks rfl rfl rfl (by show w.heap.size ≤ (w.heap.push o).size; rw [Array.size_push]; omega) fun k hk => heap_alloc w o k hk
theorem zox (w : World) (b o : Nat) (v : Value) : (w.setCell ⟨b, o, none⟩ v).heap[b]? = (w.heap[b]?).map fun
  | .cells c e f => .cells (c.setIfInBounds o v) e f
  | x => x := by
 simp only [World.setCell, Array.getElem?_modify, if_true]
 cases hh : w.heap[b]? with
 | none => rfl
 | some ob => cases ob <;> rfl
theorem zmy (w : World) (b o : Nat) (v : Value) (i : Nat) : ((w.setCell ⟨b, o, none⟩ v).cell? ⟨b, i, none⟩).isSome = (w.cell? ⟨b, i, none⟩).isSome := by
 simp only [World.cell?, zox]
 cases hh : w.heap[b]? with
 | none => rfl
 | some ob =>
  cases ob <;> simp
  rename_i c e f
  by_cases h : i < c.size <;> simp [h]
theorem zth (w : World) (b o : Nat) (v : Value) : (w.setCell ⟨b, o, none⟩ v).shape? b = w.shape? b := by
 simp only [World.shape?, zox]
 cases hh : w.heap[b]? with
 | none => rfl
 | some ob => cases ob <;> simp
theorem Mod.setCell {w : World} {b o : Nat} {v : Value} {M : Nat → Nat → Prop} (hm : b < w.heap.size → M b o) : Mod w (w.setCell ⟨b, o, none⟩ v) M := by
 have hne : ∀ k, k ≠ b → (w.setCell ⟨b, o, none⟩ v).heap[k]? = w.heap[k]? := fun k hk => Below.heap_setCell _ _ _ _ hk
 refine ⟨rfl, rfl, rfl, by simp [World.setCell], fun k hk hn => ?_, fun k i hk hn => ?_, fun k i hk => ?_, fun k i hk => World.frozen?_setCell _ _ _ _, fun k hk => ?_⟩
 ·by_cases e : k = b
  ·subst e; exact absurd (hm hk) (hn o)
  ·exact hne k e
 ·by_cases e : k = b
  ·subst e
   have hio : i ≠ o := fun e2 => by subst e2; exact hn (hm hk)
   exact World.cell?_setCell_other w _ _ v fun e => hio (by injection e with e1 e2; exact e2.symm)
  ·exact World.cell?_of_block (hne k e)
 ·by_cases e : k = b
  ·subst e; exact zmy _ _ _ _ _
  ·rw [World.cell?_of_block (hne k e)]
 ·by_cases e : k = b
  ·subst e; exact zth _ _ _ _
  ·simp [World.shape?, hne k e]
theorem Mod.setCells {M : Nat → Nat → Prop} {b : Nat} : ∀ (vs : List Value) (o : Nat) (w : World), (b < w.heap.size → ∀ i, o ≤ i → i < o + vs.length → M b i) → Mod w (w.setCells b o vs) M
 | [], _, w, _ => .refl w M
 | v :: vs, o, w, hm => by
  refine Mod.trans' (w1 := w.setCell ⟨b, o, none⟩ v) (Mod.setCell fun hb => hm hb o (Nat.le_refl _) (by simp)) ?_
  refine Mod.setCells vs (o + 1) _ fun hb i h1 h2 => hm (by simpa [World.setCell] using hb) i (by omega) (by simp; omega)
theorem Mod.below {w w' : World} (h : Mod w w' zw) : Below w.heap.size w w' :=
 ⟨h.os, h.tape, h.output, h.size, fun k hk => h.block k hk fun _ hf => hf⟩
theorem Mod.rangeAt {w w' : World} {M : Nat → Nat → Prop} (h : Mod w w' M) {b o : Nat} {cs : List Value} (hb : b < w.heap.size) (hm : ∀ i, o ≤ i → i < o + cs.length → ¬ M b i) (hr : w.rangeAt b o cs) : w'.rangeAt b o cs := by
 intro j v hj
 have hl : j < cs.length := (List.getElem?_eq_some_iff.1 hj).1
 rw [h.cell b (o + j) hb (hm _ (by omega) (by omega))]
 exact hr j v hj
theorem Mod.there {w w' : World} {M : Nat → Nat → Prop} (h : Mod w w' M) {b o n : Nat} (hb : b < w.heap.size) (hr : w.there b o n) : w'.there b o n :=
 fun j hj => ⟨by rw [h.isCell b _ hb]; exact (hr j hj).1, by rw [h.frozen b _ hb]; exact (hr j hj).2⟩
theorem zfc {w : World} {b o : Nat} (h : (w.cell? ⟨b, o, none⟩).isSome = true) : b < w.heap.size := by
 unfold World.cell? at h
 cases hh : w.heap[b]? with
 | none => rw [hh] at h; simp at h
 | some x => exact (Array.getElem?_eq_some_iff.1 hh).1
theorem ztd {w : World} {b o n : Nat} (h : w.there b o n) (hn : 0 < n) : b < w.heap.size := zfc (by have := (h 0 hn).1; exact this)
theorem zx {w : World} {b o : Nat} {cs ds : List Value} : w.rangeAt b o (cs ++ ds) ↔ w.rangeAt b o cs ∧ w.rangeAt b (o + cs.length) ds := by
 constructor
 ·intro h
  refine ⟨fun j v hj => h j v (by rw [List.getElem?_append_left (List.getElem?_eq_some_iff.1 hj).1]; exact hj), fun j v hj => ?_⟩
  have := h (cs.length + j) v (by rw [List.getElem?_append_right (by omega)]; simpa using hj)
  rw [← Nat.add_assoc] at this
  exact this
 ·rintro ⟨h1, h2⟩ j v hj
  by_cases hl : j < cs.length
  ·rw [List.getElem?_append_left hl] at hj; exact h1 j v hj
  ·rw [List.getElem?_append_right (by omega)] at hj
   have := h2 (j - cs.length) v hj
   rwa [show o + cs.length + (j - cs.length) = o + j by omega] at this
theorem zha {w : World} {b o : Nat} {v : Value} : w.rangeAt b o [v] ↔ w.cell? ⟨b, o, none⟩ = some v := by
 constructor
 ·intro h; exact h 0 v rfl
 ·intro h j u hj
  cases j with
  | zero => simp at hj; subst hj; exact h
  | succ j => simp at hj
theorem zlx (w : World) (o : Obj) : (w.alloc o).heap[w.heap.size]? = some o := by
 show (w.heap.push o)[w.heap.size]? = some o
 exact Array.getElem?_push_size
theorem zu (w : World) (cs : Array Value) (t : TypeId) (fr : Nat × Nat) : (w.alloc (.cells cs t fr)).rangeAt w.heap.size 0 cs.toList := by
 intro j v hj
 simp only [Nat.zero_add, World.cell?, zlx]
 simpa using hj
theorem zbe (w : World) (cs : Array Value) (t : TypeId) : (w.alloc (.cells cs t)).there w.heap.size 0 cs.size := by
 intro j hj
 simp only [Nat.zero_add, World.cell?, World.frozen?, zlx]
 constructor
 ·simp [hj]
 ·simp
theorem zae (w : World) (o : Obj) : (w.alloc o).heap.size = w.heap.size + 1 := by
 show (w.heap.push o).size = _
 exact Array.size_push _
section
variable {P : Program} {w : World}
structure HF (P : Program) (T : TypeId) (k off : Nat) : Prop where
 out : ∃ fs f i, P.underlying T = some (.struct fs) ∧ fs[k]? = some f ∧ f.offset = off ∧ P.info? f.type = some i ∧ i.size ≠ 0
theorem HF.run {T : TypeId} {k off : Nat} (h : HF P T k off) (b o : Nat) : (Instr.fieldAt T (.pointer (some ⟨b, o, none⟩)) k).run P w = .ok (.pointer (some ⟨b, o + off, none⟩)) w := by
 obtain ⟨fs, f, i, h1, h2, h3, h4, h5⟩ := h.out
 subst h3
 simp [Instr.fieldAt, underlying, program, Sem.run, bind, Sem.bind, h1, h2, pure, Instr.sureAddr, fieldPlace, sizeOf, typeInfo, h4, h5, Addr.add_mid]
def ldv (d : TypeDesc) (cs : List Value) : Value := if zml d then .agg cs.toArray else cs.headD undef
theorem TI.run_load {t : TypeId} {d : TypeDesc} {sz by' : Nat} {z : Value} (h : TI P t d sz by' z) {b o : Nat} {cs : List Value} (hc : w.rangeAt b o cs) (hl : cs.length = sz) (h1 : zml d = false → sz = 1) :
  (Instr.loadAt t (.pointer (some ⟨b, o, none⟩))).run P w = .ok (ldv d cs) w := by
 simp only [Instr.loadAt, Instr.sureAddr, Sem.run_bind, Sem.run_pure, Result.andThen_ok, loadVar]
 rw [h.run_isAgg]
 simp only [Result.andThen_ok]
 cases hd : zml d with
 | true =>
  have hl2 : (loadCells ⟨b, o, none⟩ cs.length).run P w = .ok cs.toArray w :=
   run_loadCells_list (P := P) w ⟨b, o, none⟩ cs (fun j v hv => by rw [Addr.add_mid]; exact hc j v hv)
  simp only [if_true, Sem.run_bind, h.run_size, Result.andThen_ok, Sem.run_pure, ← hl, hl2, ldv, hd]
 | false =>
  have := h1 hd
  subst hl
  match cs, this with
  | [v], _ =>
   have hv : w.cell? ⟨b, o, none⟩ = some v := hc 0 v rfl
   simp [load, Sem.run, hv, ldv, hd]
theorem TI.run_store {t : TypeId} {d : TypeDesc} {sz by' : Nat} {z : Value} (h : TI P t d sz by' z) {b o : Nat} {v : Value} {cs : List Value} (hv : v.cells = cs.toArray) (hl : cs.length = sz) (ht : w.there b o sz)
  (h1 : ∀ c ∈ cs, c.oneCell' = true) : (Instr.storeAt t (.pointer (some ⟨b, o, none⟩)) v).run P w = .ok () (w.setCells b o cs) := by
 have hs := run_storeCells_cells (P := P) b o cs 0 w (fun j hj => by simpa using (ht j (by omega)).1) (fun j hj => by simpa using (ht j (by omega)).2) h1
 simp only [Nat.add_zero] at hs
 simp only [Instr.storeAt, Instr.sureAddr, Sem.run_bind, Sem.run_pure, Result.andThen_ok, storeVar, h.run_size, hv]
 rw [if_neg (by simp [hl])]
 simpa using hs
theorem TI.run_alloc {t : TypeId} {d : TypeDesc} {sz by' : Nat} {z : Value} (h : TI P t d sz by' z) (old : Value) :
  (Instr.alloc t true old).run P w = .ok (.pointer (some ⟨w.heap.size, 0, none⟩)) (w.alloc (.cells z.cells t)) := by
 simp only [Instr.alloc, Sem.run_bind, h.run_zero, Result.andThen_ok]
 rfl
theorem run_box (t : TypeId) (v : Value) : (Instr.box t v).run P w = .ok (.pointer (some ⟨w.heap.size, 0, none⟩)) (w.alloc (.cells v.cells t)) := rfl
theorem TI.run_len {t e ty : TypeId} {sz by' : Nat} {z : Value} (h : TI P t (.slice e) sz by' z) {a : Option Addr} {n c : Nat} : (Builtin.len_ #[t] ty #[.slice a n c]).run P w = .ok (.int .i64 n) w := by
 simp [Builtin.len_, Sem.run_bind, h.run_und, goInt]
theorem run_lss {t : TypeId} {x y : Operand} {k : IntKind} {a b : Int} : (do eqGuard .lss t x y (.int k a) (.int k b); binOp .lss t (.int k a) (.int k b) : Sem Value).run P w = .ok (.bool (decide (a < b))) w := by
 simp [eqGuard, binOp, Op.intCmp]
theorem run_leq {t : TypeId} {x y : Operand} {k : IntKind} {a b : Int} : (do eqGuard .leq t x y (.int k a) (.int k b); binOp .leq t (.int k a) (.int k b) : Sem Value).run P w = .ok (.bool (decide (a ≤ b))) w := by
 simp [eqGuard, binOp, Op.intCmp]
theorem run_gtr {t : TypeId} {x y : Operand} {k : IntKind} {a b : Int} : (do eqGuard .gtr t x y (.int k a) (.int k b); binOp .gtr t (.int k a) (.int k b) : Sem Value).run P w = .ok (.bool (decide (a > b))) w := by
 simp [eqGuard, binOp, Op.intCmp]
theorem run_geq {t : TypeId} {x y : Operand} {k : IntKind} {a b : Int} : (do eqGuard .geq t x y (.int k a) (.int k b); binOp .geq t (.int k a) (.int k b) : Sem Value).run P w = .ok (.bool (decide (a ≥ b))) w := by
 simp [eqGuard, binOp, Op.intCmp]
theorem ztm {t : TypeId} {x y : Operand} {k : IntKind} {a b : Int} : (do eqGuard .eql t x y (.int k a) (.int k b); binOp .eql t (.int k a) (.int k b) : Sem Value).run P w = .ok (.bool (a == b)) w := by
 simp [eqGuard, binOp, Op.intCmp]
theorem run_ineq {t : TypeId} {x y : Operand} {k : IntKind} {a b : Int} : (do eqGuard .neq t x y (.int k a) (.int k b); binOp .neq t (.int k a) (.int k b) : Sem Value).run P w = .ok (.bool (a != b)) w := by
 simp [eqGuard, binOp, Op.intCmp]
theorem run_iadd {t : TypeId} {x y : Operand} {k : IntKind} {a b : Int} : (do eqGuard .add t x y (.int k a) (.int k b); binOp .add t (.int k a) (.int k b) : Sem Value).run P w = .ok (.int k (k.wrap (a + b))) w := by
 simp [eqGuard, binOp, Op.intArith]
theorem run_isub {t : TypeId} {x y : Operand} {k : IntKind} {a b : Int} : (do eqGuard .sub t x y (.int k a) (.int k b); binOp .sub t (.int k a) (.int k b) : Sem Value).run P w = .ok (.int k (k.wrap (a - b))) w := by
 simp [eqGuard, binOp, Op.intArith]
theorem run_not {b : Bool} : (Op.unary .not (.bool b)).run P w = .ok (.bool !b) w := rfl
theorem run_pick {b : Bool} {x y : Value} : (do pure (if ← asBool (.bool b) then x else y) : Sem Value).run P w = .ok (if b then x else y) w := by
 simp [asBool]
theorem zax {s t : TypeId} {ds : TypeDesc} {k k' : IntKind} {a b a' b' : Nat} {z z' : Value} (hs : TI P s ds a b z) (ht : TI P t (.int k) a' b' z') {n : Int} (hds : ∃ k, ds = .int k) :
  (convert s t (.int k' n)).run P w = .ok (.int k (k.wrap n)) w := by
 obtain ⟨k2, rfl⟩ := hds
 simp [convert, Sem.run_bind, hs.run_und, ht.run_und, Conv.intToInt]
theorem zle {t e : TypeId} {a b a' b' : Nat} {z z' : Value} {de : TypeDesc} (ht : TI P t (.slice e) a b z) (he : TI P e de a' b' z') {ad : Option Addr} {n c h : Nat} {k : IntKind} (hl : h ≤ c) :
  (Instr.sliceAt t (.slice ad n c) none (some (.int k h)) none).run P w = .ok (.slice ad h c) w := by
 simp [Instr.sliceAt, Instr.slice, Instr.sliceBounds, Instr.sliceBound, Sem.run_bind, ht.run_und, he.run_size, asIntOf, hl, Addr.add]
theorem zbf {t e : TypeId} {a b a' b' : Nat} {z z' : Value} {de : TypeDesc} (ht : TI P t (.slice e) a b z) (he : TI P e de a' b' z') {bl o n c i : Nat} {k : IntKind} (hi : i < n) :
  (Instr.indexAt t (.slice (some ⟨bl, o, none⟩) n c) (.int k i)).run P w = .ok (.pointer (some ⟨bl, o + i * a', none⟩)) w := by
 simp [Instr.indexAt, Sem.run_bind, ht.run_und, he.run_size, asIntOf, hi, Addr.add_mid]
def ldc (c : Option Value) (w : World) (r : Result Value) : Result Value :=
 match c with
 | some v => .ok v w
 | none => r
@[simp] theorem ldc_some (v : Value) (w : World) (r : Result Value) : ldc (some v) w r = .ok v w := rfl
theorem TI.run_load1 {t : TypeId} {d : TypeDesc} {sz by' : Nat} {z : Value} (h : TI P t d sz by' z) (hd : zml d = false) (b o : Nat) :
  (Instr.loadAt t (.pointer (some ⟨b, o, none⟩))).run P w = ldc (w.cell? ⟨b, o, none⟩) w ((load ⟨b, o, none⟩).run P w) := by
 simp only [Instr.loadAt, Instr.sureAddr, Sem.run_bind, Sem.run_pure, Result.andThen_ok, loadVar]
 rw [h.run_isAgg, hd]
 simp only [Result.andThen_ok, Bool.false_eq_true, if_false]
 cases hc : w.cell? ⟨b, o, none⟩ with
 | none => rfl
 | some v => simp [load, Sem.run, hc]
theorem TI.run_store1 {t : TypeId} {d : TypeDesc} {by' : Nat} {z : Value} (h : TI P t d 1 by' z) {b o : Nat} {v : Value} (hv : v.oneCell' = true) (ht : w.there b o 1) :
  (Instr.storeAt t (.pointer (some ⟨b, o, none⟩)) v).run P w = .ok () (w.setCell ⟨b, o, none⟩ v) := by
 have hc : v.cells = [v].toArray := by cases v <;> first | rfl | simp [Value.oneCell'] at hv
 exact h.run_store (w := w) (b := b) (o := o) hc rfl ht (by simpa using hv)
def bor (k : IntKind) (a b : Int) : Int := k.wrap (BitVec.ofInt k.bits a ||| BitVec.ofInt k.bits b).toNat
def band (k : IntKind) (a b : Int) : Int := k.wrap (BitVec.ofInt k.bits a &&& BitVec.ofInt k.bits b).toNat
def shl (k : IntKind) (x y : Int) : Int := k.wrap (x * 2 ^ min y.toNat k.bits)
theorem run_or {t : TypeId} {x y : Operand} {k : IntKind} {a b : Int} : (do eqGuard .or t x y (.int k a) (.int k b); binOp .or t (.int k a) (.int k b) : Sem Value).run P w = .ok (.int k (bor k a b)) w := by
 simp [eqGuard, binOp, Op.intBits, bor]
theorem zto {t : TypeId} {x y : Operand} {k : IntKind} {a b : Int} : (do eqGuard .and t x y (.int k a) (.int k b); binOp .and t (.int k a) (.int k b) : Sem Value).run P w = .ok (.int k (band k a b)) w := by
 simp [eqGuard, binOp, Op.intBits, band]
theorem run_shl {t : TypeId} {x y : Operand} {k yk : IntKind} {a b : Int} (hb : 0 ≤ b) : (do eqGuard .shl t x y (.int k a) (.int yk b); binOp .shl t (.int k a) (.int yk b) : Sem Value).run P w = .ok (.int k (shl k a b)) w := by
 simp [eqGuard, binOp, Op.shift, shl, show ¬ b < 0 by omega]
theorem zpa {a b : Value} : (Instr.extract (.tuple #[a, b]) 0).run P w = .ok a w := rfl
theorem zoz {a b : Value} : (Instr.extract (.tuple #[a, b]) 1).run P w = .ok b w := rfl
theorem locs_def (ρ : Env) (i : Nat) : locs ρ i = ρ (i + 100) := rfl
theorem zqs (σ τ : Env) (t : Nat) : zia σ τ t = sel (decide (t < 100)) (τ t) (σ (t - 100)) := by
 show (if t < 100 then τ t else σ (t - 100)) = _
 by_cases h : t < 100 <;> simp [h]
theorem zf {loc : List Nat} {N : Nat} {x y : C} {Q : Exit → Env → World → Prop} {σ : Env} (h : ∀ K : Env → World → Prop, (∀ σ w, W P loc N y Q σ w → K σ w) → W P loc N x (zgw K Q) σ w) : W P loc N (.seq x y) Q σ w :=
 W_seq (h _ fun _ _ h => h)
end
def zeb (P : Program) (Cw : World → Prop) (K : Env → Prop) : List (ROp × Bool) → Env → Prop
 | [], ρ => K ρ
 | (o, true) :: r, ρ => ∃ v, (∀ w, Cw w → zkk P o ρ w v) ∧ zeb P Cw K r (put ρ o.dst v)
 | (_, false) :: r, ρ => zeb P Cw K r ρ
def zgq (P : Program) (Cw : World → Prop) (K : Env → World → Prop) : List ROp → Env → World → Prop
 | [], ρ, w => K ρ w
 | [o], ρ, w => zbk P o ρ w K
 | o :: p :: r, ρ, w => zbk P o ρ w fun ρ w => Cw w ∧ zgq P Cw K (p :: r) ρ w
def rdOf (rd : List Bool) (i : Nat) : Bool := rd.getD i false
def planZ (l : List ROp) (rd : List Bool) : Bool :=
 Nat.beq rd.length l.length && zpl l (rdOf rd) && (match ((List.range l.length).filter fun i => !rdOf rd i).getLast? with
  | some j => zrp l (rdOf rd) j
  | none => true)
theorem zkm {P : Program} {Cw : World → Prop} {K : Env → Prop} {l : List ROp} {rd : Nat → Bool} : ∀ (r : List (ROp × Bool)) (k : Nat) (ρ : Env), (∀ i p, r[i]? = some p → l.getD (k + i) default = p.1 ∧ rd (k + i) = p.2) →
  zeb P Cw K r ρ → zmk P Cw l rd K (List.range' k r.length) ρ
 | [], k, ρ, _, h => h
 | (o, b) :: r, k, ρ, hl, h => by
  obtain ⟨h1, h2⟩ := hl 0 (o, b) rfl
  simp only [Nat.add_zero] at h1 h2
  rw [List.length_cons, List.range'_succ]
  unfold zmk
  have hr : ∀ i p, r[i]? = some p → l.getD (k + 1 + i) default = p.1 ∧ rd (k + 1 + i) = p.2 := fun i p hp => by
   have := hl (i + 1) p (by simpa using hp)
   rwa [show k + (i + 1) = k + 1 + i by omega] at this
  cases b with
  | true =>
   rw [if_pos h2, h1]
   obtain ⟨v, hv, h⟩ := h
   exact ⟨v, hv, zkm r (k + 1) _ hr h⟩
  | false =>
   rw [if_neg (by rw [h2]; simp)]
   exact zkm r (k + 1) _ hr h
theorem zqu {P : Program} {Cw : World → Prop} {K : Env → World → Prop} {l : List ROp} {rd : Nat → Bool} : ∀ (J : List Nat) (ρ : Env) (w : World), (∀ j, J.getLast? = some j → zrp l rd j = true) →
  zgq P Cw K (J.map fun j => l.getD j default) ρ w → znq P Cw l rd K J ρ w
 | [], _, _, _, h => h
 | [j], ρ, w, hj, h => by
  unfold znq
  refine zka (fun ρ w hk => ⟨.inl (hj j rfl), ?_⟩) h
  exact hk
 | j :: i :: J, ρ, w, hj, h => by
  unfold znq
  refine zka (fun ρ w hk => ⟨.inr hk.1, ?_⟩) h
  exact zqu (i :: J) ρ w (fun j' h' => hj j' (by simpa using h')) hk.2
theorem zme {l : List ROp} {rd : Nat → Bool} : ∀ (r : List (ROp × Bool)) (k : Nat), (∀ i p, r[i]? = some p → l.getD (k + i) default = p.1 ∧ rd (k + i) = p.2) →
  ((List.range' k r.length).filter fun i => !rd i).map (fun j => l.getD j default) = (r.filter fun p => !p.2).map Prod.fst
 | [], k, _ => rfl
 | (o, b) :: r, k, hl => by
  obtain ⟨h1, h2⟩ := hl 0 (o, b) rfl
  simp only [Nat.add_zero] at h1 h2
  have hr : ∀ i p, r[i]? = some p → l.getD (k + 1 + i) default = p.1 ∧ rd (k + 1 + i) = p.2 := fun i p hp => by
   have := hl (i + 1) p (by simpa using hp)
   rwa [show k + (i + 1) = k + 1 + i by omega] at this
  rw [List.length_cons, List.range'_succ]
  cases b with
  | true => rw [List.filter_cons_of_neg (by rw [h2]; simp), List.filter_cons_of_neg (by simp)]; exact zme r (k + 1) hr
  | false => rw [List.filter_cons_of_pos (by rw [h2]; simp), List.filter_cons_of_pos (by simp), List.map_cons, List.map_cons, h1, zme r (k + 1) hr]
def zer (l : List ROp) (rd : List Bool) : List ROp := ((l.zip rd).filter fun p => !p.2).map Prod.fst
theorem W_drawZ {P : Program} {loc : List Nat} {N : Nat} {Q : Exit → Env → World → Prop} {σ : Env} {w : World} {l : List ROp} (hm : P.follows .mixedOrders = true) (rd : List Bool) (hB : planZ l rd = true) (Cw : World → Prop) (hw : Cw w.drew)
  (h : ∀ τ, zeb P Cw (fun ρ1 => zgq P Cw (fun ρ w => Q .normal (locs ρ) w) (zer l rd) ρ1 w.drew) (l.zip rd) (zia σ τ)) : W P loc N (.draw l) Q σ w := by
 unfold planZ at hB
 rw [Bool.and_eq_true, Bool.and_eq_true] at hB
 obtain ⟨⟨hl, hp⟩, hlast⟩ := hB
 have hl : rd.length = l.length := by simpa using hl
 have hzl : (l.zip rd).length = l.length := by simp [hl]
 have hz : ∀ i p, (l.zip rd)[i]? = some p → l.getD (0 + i) default = p.1 ∧ rdOf rd (0 + i) = p.2 := by
  intro i p hi
  rw [List.getElem?_zip_eq_some] at hi
  simp [List.getD, rdOf, hi.1, hi.2]
 refine W_draw hm (zol hp) fun τ => anyP_mixed hp (Cw := Cw) hw ?_
 have hcs := zme (l := l) (rd := rdOf rd) (l.zip rd) 0 hz
 rw [hzl, ← List.range_eq_range'] at hcs
 have h1 := h τ
 have e : List.range l.length = List.range' 0 (l.zip rd).length := by rw [hzl, List.range_eq_range']
 rw [show (List.range l.length) = List.range' 0 (l.zip rd).length from e]
 refine zkm (l.zip rd) 0 _ hz ?_
 have key : ∀ ρ1, zgq P Cw (fun ρ w => Q .normal (locs ρ) w) (zer l rd) ρ1 w.drew → znq P Cw l (rdOf rd) (fun ρ w => Q .normal (locs ρ) w) ((List.range' 0 (l.zip rd).length).filter fun i => !rdOf rd i) ρ1 w.drew := by
  intro ρ1 hc
  rw [← e]
  refine zqu _ _ _ (fun j hj => ?_) ?_
  ·rw [hj] at hlast; exact hlast
  ·rw [hcs]; exact hc
 have mono : ∀ (r : List (ROp × Bool)) (ρ : Env) (K K' : Env → Prop), (∀ ρ, K ρ → K' ρ) → zeb P Cw K r ρ → zeb P Cw K' r ρ := by
  intro r
  induction r with
  | nil => intro ρ K K' hk h; exact hk _ h
  | cons p r ih =>
   intro ρ K K' hk h
   obtain ⟨o, b⟩ := p
   cases b with
   | true => obtain ⟨v, hv, h⟩ := h; exact ⟨v, hv, ih _ _ _ hk h⟩
   | false => exact ih _ _ _ hk h
 exact mono _ _ _ _ key h1
theorem zp {P : Program} {Cw : World → Prop} {K : Env → Prop} {o : ROp} {r : List (ROp × Bool)} {ρ : Env} (v : Value) (h : ∀ w, Cw w → (exec ρ o).run P w = .ok (.value v) w) (hg : o.guard = none) (hr : zeb P Cw K r (put ρ o.dst v)) : zeb P Cw K ((o, true) :: r) ρ :=
 ⟨v, fun w hw => .inl ⟨by rw [hg]; rfl, h w hw⟩, hr⟩
theorem zby {P : Program} {ρ : Env} {d : Option Nat} {ty : TypeId} {x : Operand} {g : Option (Option Nat × Bool)} {af : List Nat} {w : World} : (exec ρ ⟨d, .move x, ty, g, af⟩).run P w = .ok (.value (ev ρ x)) w := rfl
theorem zap {P : Program} {s : Sem Value} {w : World} {v : Value} (h : s.run P w = .ok v w) : (do pure (Next.value (← s)) : Sem Next).run P w = .ok (.value v) w := by simp [h]
abbrev T (k : Nat) : Operand := .tmp k
abbrev V (i : Nat) : Operand := .tmp (i + 100)
structure Nums where
 zel : Nat := 0
 zjs : Nat := 0
 zgo : Nat := 0
 zeo : Nat := 0
 zfb : Nat := 0
 zdj : Nat := 0
 zdb : Nat := 0
 zdt : Nat := 0
 zfh : Nat := 0
 zca : Nat := 0
 zhz : Nat := 0
 zcx : Nat := 0
 zja : Nat := 0
 zga : Nat := 0
 zds : Nat := 0
 zdl : Nat := 0
 zjn : Nat := 0
 zai : Nat := 0
 zeg : Nat := 0
 zch : Nat := 0
 zcp : Nat := 0
 zcj : Nat := 0
 zcl : Nat := 0
 zhh : Nat := 0
 zan : Nat := 0
 zeq : Nat := 0
 zgk : Nat := 0
 zcm : Nat := 0
 zdn : Nat := 0
 zcv : Nat := 0
 zno : Nat := 0
 zdk : Nat := 0
 zfg : Nat := 0
 zff : Nat := 0
 zsp : Nat := 0
 zrr : Nat := 0
 zgn : Nat := 0
 zpc : Nat := 0
 zgj : Nat := 0
 f_sorted : Nat := 0
 zec : Nat := 0
 zix : Nat := 0
 zso : Nat := 0
 zke : Nat := 0
 zkr : Nat := 0
 zej : Nat := 0
 t_ : Nat := 0
 zag : Nat := 0
 zbt : Nat := 0
 zbh : Nat := 0
 zi : Nat := 0
 zj : Nat := 0
 zav : Nat := 0
 za : Nat := 0
 zbc : Nat := 0
 zay : Nat := 0
 zaf : Nat := 0
 zcr : Nat := 0
 zcq : Nat := 0
 zaa : Nat := 0
 zbz : Nat := 0
 zaq : Nat := 0
 zld : Nat := 0
 zgf : Nat := 0
 zfs : Nat := 0
 ze : Nat := 0
 zbd : Nat := 0
 zbp : Nat := 0
 zbn : Nat := 0
 zjw : Nat := 0
 zmp : Nat := 0
 zz : Nat := 0
 zy : Nat := 0
 zb : Nat := 0
 zal : Nat := 0
 zbr : Nat := 0
 zed : Nat := 0
 zc : Nat := 0
 zlc : Nat := 0
 zad : Nat := 0
 zk : Nat := 0
def znv (N : Nums) : C :=
 .seq (
 .ops [
 ⟨some 0, .box N.zbz (V 0), 0, none, []⟩,
 ⟨some (2+100), .assign (.const (.int .u16 0)), 0, none, []⟩]) (
 .seq (
 .ops [
 ⟨some 0, .move (V 1), 0, none, []⟩,
 ⟨some 1, .indexAddr N.za (T 0) (.const (.int .i64 1)), 0, none, []⟩,
 ⟨some 2, .load N.zk (T 1), 0, none, []⟩]) (
 .seq (
 .draw [
 ⟨some 0, .move (V 1), 0, none, []⟩,
 ⟨some 1, .indexAddr N.za (T 0) (.const (.int .i64 1)), 0, none, [0]⟩,
 ⟨some 2, .load N.zk (T 1), 0, none, [1]⟩,
 ⟨some 3, .convert N.zk N.zed (T 2), 0, none, [2]⟩,
 ⟨some 4, .move (V 1), 0, none, []⟩,
 ⟨some 5, .indexAddr N.za (T 4) (.const (.int .i64 0)), 0, none, [4]⟩,
 ⟨some 6, .load N.zk (T 5), 0, none, [5]⟩,
 ⟨some 7, .convert N.zk N.zed (T 6), 0, none, [6]⟩,
 ⟨some 8, .binOp .shl N.zed (T 7) (.const (.int .u64 8)) N.zbr, 0, none, [7]⟩,
 ⟨some 9, .binOp .or N.zed (T 3) (T 8) N.zed, 0, none, [3, 8]⟩,
 ⟨some (2+100), .assign (T 9), 0, none, [9, 0, 1, 2, 3, 4, 5, 6, 7, 8, 9]⟩]) (
 .ret)))
def znu (N : Nums) : C :=
 .seq (
 .ops [
 ⟨some 0, .box N.zbz (V 0), 0, none, []⟩,
 ⟨some (2+100), .assign (.const (.int .u32 0)), 0, none, []⟩]) (
 .seq (
 .ops [
 ⟨some 0, .move (V 1), 0, none, []⟩,
 ⟨some 1, .indexAddr N.za (T 0) (.const (.int .i64 3)), 0, none, []⟩,
 ⟨some 2, .load N.zk (T 1), 0, none, []⟩]) (
 .seq (
 .draw [
 ⟨some 0, .move (V 1), 0, none, []⟩,
 ⟨some 1, .indexAddr N.za (T 0) (.const (.int .i64 3)), 0, none, [0]⟩,
 ⟨some 2, .load N.zk (T 1), 0, none, [1]⟩,
 ⟨some 3, .convert N.zk N.zc (T 2), 0, none, [2]⟩,
 ⟨some 4, .move (V 1), 0, none, []⟩,
 ⟨some 5, .indexAddr N.za (T 4) (.const (.int .i64 2)), 0, none, [4]⟩,
 ⟨some 6, .load N.zk (T 5), 0, none, [5]⟩,
 ⟨some 7, .convert N.zk N.zc (T 6), 0, none, [6]⟩,
 ⟨some 8, .binOp .shl N.zc (T 7) (.const (.int .u64 8)) N.zbr, 0, none, [7]⟩,
 ⟨some 9, .binOp .or N.zc (T 3) (T 8) N.zc, 0, none, [3, 8]⟩,
 ⟨some 10, .move (V 1), 0, none, []⟩,
 ⟨some 11, .indexAddr N.za (T 10) (.const (.int .i64 1)), 0, none, [10]⟩,
 ⟨some 12, .load N.zk (T 11), 0, none, [11]⟩,
 ⟨some 13, .convert N.zk N.zc (T 12), 0, none, [12]⟩,
 ⟨some 14, .binOp .shl N.zc (T 13) (.const (.int .u64 16)) N.zbr, 0, none, [13]⟩,
 ⟨some 15, .binOp .or N.zc (T 9) (T 14) N.zc, 0, none, [9, 14]⟩,
 ⟨some 16, .move (V 1), 0, none, []⟩,
 ⟨some 17, .indexAddr N.za (T 16) (.const (.int .i64 0)), 0, none, [16]⟩,
 ⟨some 18, .load N.zk (T 17), 0, none, [17]⟩,
 ⟨some 19, .convert N.zk N.zc (T 18), 0, none, [18]⟩,
 ⟨some 20, .binOp .shl N.zc (T 19) (.const (.int .u64 24)) N.zbr, 0, none, [19]⟩,
 ⟨some 21, .binOp .or N.zc (T 15) (T 20) N.zc, 0, none, [15, 20]⟩,
 ⟨some (2+100), .assign (T 21), 0, none, [21, 0, 1, 2, 3, 4, 5, 6, 7, 8, 9, 10, 11, 12, 13, 14, 15, 16, 17, 18, 19, 20, 21]⟩]) (
 .ret)))
def znt (N : Nums) : C :=
 .seq (
 .ops [
 ⟨some 0, .box N.zbz (V 0), 0, none, []⟩,
 ⟨some (2+100), .assign (.const (.int .u64 0)), 0, none, []⟩]) (
 .seq (
 .ops [
 ⟨some 0, .move (V 1), 0, none, []⟩,
 ⟨some 1, .indexAddr N.za (T 0) (.const (.int .i64 7)), 0, none, []⟩,
 ⟨some 2, .load N.zk (T 1), 0, none, []⟩]) (
 .seq (
 .draw [
 ⟨some 0, .move (V 1), 0, none, []⟩,
 ⟨some 1, .indexAddr N.za (T 0) (.const (.int .i64 7)), 0, none, [0]⟩,
 ⟨some 2, .load N.zk (T 1), 0, none, [1]⟩,
 ⟨some 3, .convert N.zk N.zad (T 2), 0, none, [2]⟩,
 ⟨some 4, .move (V 1), 0, none, []⟩,
 ⟨some 5, .indexAddr N.za (T 4) (.const (.int .i64 6)), 0, none, [4]⟩,
 ⟨some 6, .load N.zk (T 5), 0, none, [5]⟩,
 ⟨some 7, .convert N.zk N.zad (T 6), 0, none, [6]⟩,
 ⟨some 8, .binOp .shl N.zad (T 7) (.const (.int .u64 8)) N.zbr, 0, none, [7]⟩,
 ⟨some 9, .binOp .or N.zad (T 3) (T 8) N.zad, 0, none, [3, 8]⟩,
 ⟨some 10, .move (V 1), 0, none, []⟩,
 ⟨some 11, .indexAddr N.za (T 10) (.const (.int .i64 5)), 0, none, [10]⟩,
 ⟨some 12, .load N.zk (T 11), 0, none, [11]⟩,
 ⟨some 13, .convert N.zk N.zad (T 12), 0, none, [12]⟩,
 ⟨some 14, .binOp .shl N.zad (T 13) (.const (.int .u64 16)) N.zbr, 0, none, [13]⟩,
 ⟨some 15, .binOp .or N.zad (T 9) (T 14) N.zad, 0, none, [9, 14]⟩,
 ⟨some 16, .move (V 1), 0, none, []⟩,
 ⟨some 17, .indexAddr N.za (T 16) (.const (.int .i64 4)), 0, none, [16]⟩,
 ⟨some 18, .load N.zk (T 17), 0, none, [17]⟩,
 ⟨some 19, .convert N.zk N.zad (T 18), 0, none, [18]⟩,
 ⟨some 20, .binOp .shl N.zad (T 19) (.const (.int .u64 24)) N.zbr, 0, none, [19]⟩,
 ⟨some 21, .binOp .or N.zad (T 15) (T 20) N.zad, 0, none, [15, 20]⟩,
 ⟨some 22, .move (V 1), 0, none, []⟩,
 ⟨some 23, .indexAddr N.za (T 22) (.const (.int .i64 3)), 0, none, [22]⟩,
 ⟨some 24, .load N.zk (T 23), 0, none, [23]⟩,
 ⟨some 25, .convert N.zk N.zad (T 24), 0, none, [24]⟩,
 ⟨some 26, .binOp .shl N.zad (T 25) (.const (.int .u64 32)) N.zbr, 0, none, [25]⟩,
 ⟨some 27, .binOp .or N.zad (T 21) (T 26) N.zad, 0, none, [21, 26]⟩,
 ⟨some 28, .move (V 1), 0, none, []⟩,
 ⟨some 29, .indexAddr N.za (T 28) (.const (.int .i64 2)), 0, none, [28]⟩,
 ⟨some 30, .load N.zk (T 29), 0, none, [29]⟩,
 ⟨some 31, .convert N.zk N.zad (T 30), 0, none, [30]⟩,
 ⟨some 32, .binOp .shl N.zad (T 31) (.const (.int .u64 40)) N.zbr, 0, none, [31]⟩,
 ⟨some 33, .binOp .or N.zad (T 27) (T 32) N.zad, 0, none, [27, 32]⟩,
 ⟨some 34, .move (V 1), 0, none, []⟩,
 ⟨some 35, .indexAddr N.za (T 34) (.const (.int .i64 1)), 0, none, [34]⟩,
 ⟨some 36, .load N.zk (T 35), 0, none, [35]⟩,
 ⟨some 37, .convert N.zk N.zad (T 36), 0, none, [36]⟩,
 ⟨some 38, .binOp .shl N.zad (T 37) (.const (.int .u64 48)) N.zbr, 0, none, [37]⟩,
 ⟨some 39, .binOp .or N.zad (T 33) (T 38) N.zad, 0, none, [33, 38]⟩,
 ⟨some 40, .move (V 1), 0, none, []⟩,
 ⟨some 41, .indexAddr N.za (T 40) (.const (.int .i64 0)), 0, none, [40]⟩,
 ⟨some 42, .load N.zk (T 41), 0, none, [41]⟩,
 ⟨some 43, .convert N.zk N.zad (T 42), 0, none, [42]⟩,
 ⟨some 44, .binOp .shl N.zad (T 43) (.const (.int .u64 56)) N.zbr, 0, none, [43]⟩,
 ⟨some 45, .binOp .or N.zad (T 39) (T 44) N.zad, 0, none, [39, 44]⟩,
 ⟨some (2+100), .assign (T 45), 0, none, [45, 0, 1, 2, 3, 4, 5, 6, 7, 8, 9, 10, 11, 12, 13, 14, 15, 16, 17, 18, 19, 20, 21, 22, 23, 24, 25, 26, 27, 28, 29, 30, 31, 32, 33, 34, 35, 36, 37, 38, 39, 40, 41, 42, 43, 44, 45]⟩]) (
 .ret)))
def zrt (N : Nums) : C :=
 .seq (
 .ops [
 ⟨some (1+100), .assign (.const (.string ⟨#[]⟩)), 0, none, []⟩]) (
 .seq (
 .ops [
 ⟨some 0, .move (V 0), 0, none, []⟩,
 ⟨some 1, .convert N.za N.zal (T 0), 0, none, []⟩,
 ⟨some (1+100), .assign (T 1), 0, none, []⟩]) (
 .ret))
def c_Uvarint (N : Nums) : C :=
 .seq (
 .ops [
 ⟨some (1+100), .assign (.const (.int .u32 0)), 0, none, []⟩,
 ⟨some (2+100), .assign (.const (.int .i64 0)), 0, none, []⟩]) (
 .scope (
 .seq (
 .ops [
 ⟨some (3+100), .assign (.const (.int .u32 0)), 0, none, []⟩]) (
 .seq (
 .ops [
 ⟨some (4+100), .assign (.const (.int .i64 0)), 0, none, []⟩]) (
 .seq (
 .seq (
 .ops [
 ⟨some 0, .move (V 0), 0, none, []⟩,
 ⟨some 1, .call ⟨.builtin .len, #[T 0], #[N.za]⟩, N.ze, none, []⟩,
 ⟨some (5+100), .binOp .lss N.ze (T 1) (.const (.int .i64 1)) N.ze, 0, none, []⟩]) (
 .cond 5 (
 .goto 0) (
 .skip))) (
 .seq (
 .ops [
 ⟨some 0, .move (V 0), 0, none, []⟩,
 ⟨some 1, .indexAddr N.za (T 0) (.const (.int .i64 0)), 0, none, []⟩,
 ⟨some 2, .load N.zk (T 1), 0, none, []⟩,
 ⟨some 3, .binOp .and N.zk (T 2) (.const (.int .u8 127)) N.zk, 0, none, []⟩,
 ⟨some 4, .convert N.zk N.zc (T 3), 0, none, []⟩,
 ⟨some (3+100), .assign (T 4), 0, none, []⟩]) (
 .seq (
 .seq (
 .ops [
 ⟨some 0, .move (V 0), 0, none, []⟩,
 ⟨some 1, .indexAddr N.za (T 0) (.const (.int .i64 0)), 0, none, []⟩,
 ⟨some 2, .load N.zk (T 1), 0, none, []⟩,
 ⟨some 3, .binOp .and N.zk (T 2) (.const (.int .u8 128)) N.zk, 0, none, []⟩,
 ⟨some (6+100), .binOp .eql N.zk (T 3) (.const (.int .u8 0)) N.zk, 0, none, []⟩]) (
 .cond 6 (
 .seq (
 .ops [
 ⟨some 0, .move (V 3), 0, none, []⟩,
 ⟨some (1+100), .assign (T 0), 0, none, []⟩,
 ⟨some (2+100), .assign (.const (.int .i64 1)), 0, none, []⟩]) (
 .ret)) (
 .seq (
 .ops [
 ⟨some 0, .move (V 0), 0, none, []⟩,
 ⟨some 1, .call ⟨.builtin .len, #[T 0], #[N.za]⟩, N.ze, none, []⟩,
 ⟨some (7+100), .binOp .lss N.ze (T 1) (.const (.int .i64 2)) N.ze, 0, none, []⟩]) (
 .cond 7 (
 .goto 0) (
 .skip))))) (
 .seq (
 .ops [
 ⟨some 0, .move (V 3), 0, none, []⟩,
 ⟨some 1, .move (V 0), 0, none, []⟩,
 ⟨some 2, .indexAddr N.za (T 1) (.const (.int .i64 1)), 0, none, []⟩,
 ⟨some 3, .load N.zk (T 2), 0, none, []⟩,
 ⟨some 4, .binOp .and N.zk (T 3) (.const (.int .u8 127)) N.zk, 0, none, []⟩,
 ⟨some 5, .convert N.zk N.zc (T 4), 0, none, []⟩,
 ⟨some 6, .binOp .shl N.zc (T 5) (.const (.int .u64 7)) N.zbr, 0, none, []⟩,
 ⟨some 7, .binOp .or N.zc (T 0) (T 6) N.zc, 0, none, []⟩,
 ⟨some (3+100), .assign (T 7), 0, none, []⟩]) (
 .seq (
 .seq (
 .ops [
 ⟨some 0, .move (V 0), 0, none, []⟩,
 ⟨some 1, .indexAddr N.za (T 0) (.const (.int .i64 1)), 0, none, []⟩,
 ⟨some 2, .load N.zk (T 1), 0, none, []⟩,
 ⟨some 3, .binOp .and N.zk (T 2) (.const (.int .u8 128)) N.zk, 0, none, []⟩,
 ⟨some (8+100), .binOp .eql N.zk (T 3) (.const (.int .u8 0)) N.zk, 0, none, []⟩]) (
 .cond 8 (
 .seq (
 .ops [
 ⟨some 0, .move (V 3), 0, none, []⟩,
 ⟨some (1+100), .assign (T 0), 0, none, []⟩,
 ⟨some (2+100), .assign (.const (.int .i64 2)), 0, none, []⟩]) (
 .ret)) (
 .seq (
 .ops [
 ⟨some 0, .move (V 0), 0, none, []⟩,
 ⟨some 1, .call ⟨.builtin .len, #[T 0], #[N.za]⟩, N.ze, none, []⟩,
 ⟨some (9+100), .binOp .lss N.ze (T 1) (.const (.int .i64 3)) N.ze, 0, none, []⟩]) (
 .cond 9 (
 .goto 0) (
 .skip))))) (
 .seq (
 .ops [
 ⟨some 0, .move (V 3), 0, none, []⟩,
 ⟨some 1, .move (V 0), 0, none, []⟩,
 ⟨some 2, .indexAddr N.za (T 1) (.const (.int .i64 2)), 0, none, []⟩,
 ⟨some 3, .load N.zk (T 2), 0, none, []⟩,
 ⟨some 4, .binOp .and N.zk (T 3) (.const (.int .u8 127)) N.zk, 0, none, []⟩,
 ⟨some 5, .convert N.zk N.zc (T 4), 0, none, []⟩,
 ⟨some 6, .binOp .shl N.zc (T 5) (.const (.int .u64 14)) N.zbr, 0, none, []⟩,
 ⟨some 7, .binOp .or N.zc (T 0) (T 6) N.zc, 0, none, []⟩,
 ⟨some (3+100), .assign (T 7), 0, none, []⟩]) (
 .seq (
 .seq (
 .ops [
 ⟨some 0, .move (V 0), 0, none, []⟩,
 ⟨some 1, .indexAddr N.za (T 0) (.const (.int .i64 2)), 0, none, []⟩,
 ⟨some 2, .load N.zk (T 1), 0, none, []⟩,
 ⟨some 3, .binOp .and N.zk (T 2) (.const (.int .u8 128)) N.zk, 0, none, []⟩,
 ⟨some (10+100), .binOp .eql N.zk (T 3) (.const (.int .u8 0)) N.zk, 0, none, []⟩]) (
 .cond 10 (
 .seq (
 .ops [
 ⟨some 0, .move (V 3), 0, none, []⟩,
 ⟨some (1+100), .assign (T 0), 0, none, []⟩,
 ⟨some (2+100), .assign (.const (.int .i64 3)), 0, none, []⟩]) (
 .ret)) (
 .seq (
 .ops [
 ⟨some 0, .move (V 0), 0, none, []⟩,
 ⟨some 1, .call ⟨.builtin .len, #[T 0], #[N.za]⟩, N.ze, none, []⟩,
 ⟨some (11+100), .binOp .lss N.ze (T 1) (.const (.int .i64 4)) N.ze, 0, none, []⟩]) (
 .cond 11 (
 .goto 0) (
 .skip))))) (
 .seq (
 .ops [
 ⟨some 0, .move (V 3), 0, none, []⟩,
 ⟨some 1, .move (V 0), 0, none, []⟩,
 ⟨some 2, .indexAddr N.za (T 1) (.const (.int .i64 3)), 0, none, []⟩,
 ⟨some 3, .load N.zk (T 2), 0, none, []⟩,
 ⟨some 4, .binOp .and N.zk (T 3) (.const (.int .u8 127)) N.zk, 0, none, []⟩,
 ⟨some 5, .convert N.zk N.zc (T 4), 0, none, []⟩,
 ⟨some 6, .binOp .shl N.zc (T 5) (.const (.int .u64 21)) N.zbr, 0, none, []⟩,
 ⟨some 7, .binOp .or N.zc (T 0) (T 6) N.zc, 0, none, []⟩,
 ⟨some (3+100), .assign (T 7), 0, none, []⟩]) (
 .seq (
 .seq (
 .ops [
 ⟨some 0, .move (V 0), 0, none, []⟩,
 ⟨some 1, .indexAddr N.za (T 0) (.const (.int .i64 3)), 0, none, []⟩,
 ⟨some 2, .load N.zk (T 1), 0, none, []⟩,
 ⟨some 3, .binOp .and N.zk (T 2) (.const (.int .u8 128)) N.zk, 0, none, []⟩,
 ⟨some (12+100), .binOp .eql N.zk (T 3) (.const (.int .u8 0)) N.zk, 0, none, []⟩]) (
 .cond 12 (
 .seq (
 .ops [
 ⟨some 0, .move (V 3), 0, none, []⟩,
 ⟨some (1+100), .assign (T 0), 0, none, []⟩,
 ⟨some (2+100), .assign (.const (.int .i64 4)), 0, none, []⟩]) (
 .ret)) (
 .seq (
 .ops [
 ⟨some 0, .move (V 0), 0, none, []⟩,
 ⟨some 1, .call ⟨.builtin .len, #[T 0], #[N.za]⟩, N.ze, none, []⟩,
 ⟨some (13+100), .binOp .lss N.ze (T 1) (.const (.int .i64 5)) N.ze, 0, none, []⟩]) (
 .cond 13 (
 .goto 0) (
 .skip))))) (
 .seq (
 .ops [
 ⟨some 0, .move (V 3), 0, none, []⟩,
 ⟨some 1, .move (V 0), 0, none, []⟩,
 ⟨some 2, .indexAddr N.za (T 1) (.const (.int .i64 4)), 0, none, []⟩,
 ⟨some 3, .load N.zk (T 2), 0, none, []⟩,
 ⟨some 4, .convert N.zk N.zc (T 3), 0, none, []⟩,
 ⟨some 5, .binOp .shl N.zc (T 4) (.const (.int .u64 28)) N.zbr, 0, none, []⟩,
 ⟨some 6, .binOp .or N.zc (T 0) (T 5) N.zc, 0, none, []⟩,
 ⟨some (3+100), .assign (T 6), 0, none, []⟩]) (
 .seq (
 .seq (
 .ops [
 ⟨some 0, .move (V 0), 0, none, []⟩,
 ⟨some 1, .indexAddr N.za (T 0) (.const (.int .i64 4)), 0, none, []⟩,
 ⟨some 2, .load N.zk (T 1), 0, none, []⟩,
 ⟨some (14+100), .binOp .leq N.zk (T 2) (.const (.int .u8 15)) N.zk, 0, none, []⟩]) (
 .cond 14 (
 .seq (
 .ops [
 ⟨some 0, .move (V 3), 0, none, []⟩,
 ⟨some (1+100), .assign (T 0), 0, none, []⟩,
 ⟨some (2+100), .assign (.const (.int .i64 5)), 0, none, []⟩]) (
 .ret)) (
 .skip))) (
 .seq (
 .ops [
 ⟨some (4+100), .assign (.const (.int .i64 (-5))), 0, none, []⟩]) (
 .seq (
 .label 0) (
 .seq (
 .ops [
 ⟨some 0, .move (V 4), 0, none, []⟩,
 ⟨some (1+100), .assign (.const (.int .u32 0)), 0, none, []⟩,
 ⟨some (2+100), .assign (T 0), 0, none, []⟩]) (
 .ret))))))))))))))))))
def zrx (N : Nums) : C :=
 .seq (
 .ops [
 ⟨some (1+100), .assign (.const (.bool false)), 0, none, []⟩]) (
 .seq (
 .seq (
 .ops [
 ⟨some 0, .move (V 0), 0, none, []⟩,
 ⟨some 1, .nilCheck (T 0), 0, none, []⟩,
 ⟨some 2, .fieldAddr N.zaf (T 1) 0, 0, none, []⟩,
 ⟨some 3, .load N.za (T 2), 0, none, []⟩,
 ⟨some 4, .call ⟨.builtin .len, #[T 3], #[N.za]⟩, N.ze, none, []⟩,
 ⟨some (2+100), .binOp .lss N.ze (T 4) (.const (.int .i64 1)) N.ze, 0, none, []⟩]) (
 .cond 2 (
 .seq (
 .ops [
 ⟨some 0, .move (V 0), 0, none, []⟩,
 ⟨some 1, .nilCheck (T 0), 0, none, []⟩,
 ⟨some 2, .fieldAddr N.zaf (T 1) 1, 0, none, []⟩,
 ⟨none, .store N.zaq (T 2) (.const (.bool true)), 0, none, []⟩]) (
 .seq (
 .ops [
 ⟨some 0, .move (V 0), 0, none, []⟩,
 ⟨some 1, .nilCheck (T 0), 0, none, []⟩,
 ⟨some 2, .fieldAddr N.zaf (T 1) 0, 0, none, []⟩,
 ⟨none, .store N.za (T 2) (.const (.slice none 0 0)), 0, none, []⟩]) (
 .seq (
 .ops [
 ⟨some (1+100), .assign (.const (.bool false)), 0, none, []⟩]) (
 .ret)))) (
 .skip))) (
 .seq (
 .ops [
 ⟨some 0, .move (V 0), 0, none, []⟩,
 ⟨some 1, .nilCheck (T 0), 0, none, []⟩,
 ⟨some 2, .fieldAddr N.zaf (T 1) 0, 0, none, []⟩,
 ⟨some 3, .load N.za (T 2), 0, none, []⟩,
 ⟨some 4, .indexAddr N.za (T 3) (.const (.int .i64 0)), 0, none, []⟩,
 ⟨some 5, .load N.zk (T 4), 0, none, []⟩,
 ⟨some 6, .binOp .neq N.zk (T 5) (.const (.int .u8 0)) N.zk, 0, none, []⟩,
 ⟨some (3+100), .assign (T 6), 0, none, []⟩]) (
 .seq (
 .ops [
 ⟨some 0, .move (V 0), 0, none, []⟩,
 ⟨some 1, .move (V 0), 0, none, []⟩,
 ⟨some 2, .nilCheck (T 1), 0, none, []⟩,
 ⟨some 3, .fieldAddr N.zaf (T 2) 0, 0, none, []⟩,
 ⟨some 4, .load N.za (T 3), 0, none, []⟩,
 ⟨some 5, .slice N.za (T 4) (some (.const (.int .i64 1))) none none, 0, none, []⟩,
 ⟨some 6, .nilCheck (T 0), 0, none, []⟩,
 ⟨some 7, .fieldAddr N.zaf (T 6) 0, 0, none, []⟩,
 ⟨none, .store N.za (T 7) (T 5), 0, none, []⟩]) (
 .seq (
 .ops [
 ⟨some 0, .move (V 3), 0, none, []⟩,
 ⟨some (1+100), .assign (T 0), 0, none, []⟩]) (
 .ret)))))
def zrw (N : Nums) : C :=
 .seq (
 .ops [
 ⟨some (1+100), .assign (.const (.int .i8 0)), 0, none, []⟩]) (
 .seq (
 .seq (
 .ops [
 ⟨some 0, .move (V 0), 0, none, []⟩,
 ⟨some 1, .nilCheck (T 0), 0, none, []⟩,
 ⟨some 2, .fieldAddr N.zaf (T 1) 0, 0, none, []⟩,
 ⟨some 3, .load N.za (T 2), 0, none, []⟩,
 ⟨some 4, .call ⟨.builtin .len, #[T 3], #[N.za]⟩, N.ze, none, []⟩,
 ⟨some (2+100), .binOp .lss N.ze (T 4) (.const (.int .i64 1)) N.ze, 0, none, []⟩]) (
 .cond 2 (
 .seq (
 .ops [
 ⟨some 0, .move (V 0), 0, none, []⟩,
 ⟨some 1, .nilCheck (T 0), 0, none, []⟩,
 ⟨some 2, .fieldAddr N.zaf (T 1) 1, 0, none, []⟩,
 ⟨none, .store N.zaq (T 2) (.const (.bool true)), 0, none, []⟩]) (
 .seq (
 .ops [
 ⟨some 0, .move (V 0), 0, none, []⟩,
 ⟨some 1, .nilCheck (T 0), 0, none, []⟩,
 ⟨some 2, .fieldAddr N.zaf (T 1) 0, 0, none, []⟩,
 ⟨none, .store N.za (T 2) (.const (.slice none 0 0)), 0, none, []⟩]) (
 .seq (
 .ops [
 ⟨some (1+100), .assign (.const (.int .i8 0)), 0, none, []⟩]) (
 .ret)))) (
 .skip))) (
 .seq (
 .ops [
 ⟨some 0, .move (V 0), 0, none, []⟩,
 ⟨some 1, .nilCheck (T 0), 0, none, []⟩,
 ⟨some 2, .fieldAddr N.zaf (T 1) 0, 0, none, []⟩,
 ⟨some 3, .load N.za (T 2), 0, none, []⟩,
 ⟨some 4, .indexAddr N.za (T 3) (.const (.int .i64 0)), 0, none, []⟩,
 ⟨some 5, .load N.zk (T 4), 0, none, []⟩,
 ⟨some (3+100), .assign (T 5), 0, none, []⟩]) (
 .seq (
 .ops [
 ⟨some 0, .move (V 0), 0, none, []⟩,
 ⟨some 1, .move (V 0), 0, none, []⟩,
 ⟨some 2, .nilCheck (T 1), 0, none, []⟩,
 ⟨some 3, .fieldAddr N.zaf (T 2) 0, 0, none, []⟩,
 ⟨some 4, .load N.za (T 3), 0, none, []⟩,
 ⟨some 5, .slice N.za (T 4) (some (.const (.int .i64 1))) none none, 0, none, []⟩,
 ⟨some 6, .nilCheck (T 0), 0, none, []⟩,
 ⟨some 7, .fieldAddr N.zaf (T 6) 0, 0, none, []⟩,
 ⟨none, .store N.za (T 7) (T 5), 0, none, []⟩]) (
 .seq (
 .ops [
 ⟨some 0, .move (V 3), 0, none, []⟩,
 ⟨some 1, .convert N.zk N.zjw (T 0), 0, none, []⟩,
 ⟨some (1+100), .assign (T 1), 0, none, []⟩]) (
 .ret)))))
def zpo (N : Nums) : C :=
 .seq (
 .ops [
 ⟨some (1+100), .assign (.const (.int .u16 0)), 0, none, []⟩]) (
 .seq (
 .seq (
 .ops [
 ⟨some 0, .move (V 0), 0, none, []⟩,
 ⟨some 1, .nilCheck (T 0), 0, none, []⟩,
 ⟨some 2, .fieldAddr N.zaf (T 1) 0, 0, none, []⟩,
 ⟨some 3, .load N.za (T 2), 0, none, []⟩,
 ⟨some 4, .call ⟨.builtin .len, #[T 3], #[N.za]⟩, N.ze, none, []⟩,
 ⟨some (2+100), .binOp .lss N.ze (T 4) (.const (.int .i64 2)) N.ze, 0, none, []⟩]) (
 .cond 2 (
 .seq (
 .ops [
 ⟨some 0, .move (V 0), 0, none, []⟩,
 ⟨some 1, .nilCheck (T 0), 0, none, []⟩,
 ⟨some 2, .fieldAddr N.zaf (T 1) 1, 0, none, []⟩,
 ⟨none, .store N.zaq (T 2) (.const (.bool true)), 0, none, []⟩]) (
 .seq (
 .ops [
 ⟨some 0, .move (V 0), 0, none, []⟩,
 ⟨some 1, .nilCheck (T 0), 0, none, []⟩,
 ⟨some 2, .fieldAddr N.zaf (T 1) 0, 0, none, []⟩,
 ⟨none, .store N.za (T 2) (.const (.slice none 0 0)), 0, none, []⟩]) (
 .seq (
 .ops [
 ⟨some (1+100), .assign (.const (.int .u16 0)), 0, none, []⟩]) (
 .ret)))) (
 .skip))) (
 .seq (
 .draw [
 ⟨some 0, .load N.zbz (.global N.zkr), 0, none, []⟩,
 ⟨some 1, .move (V 0), 0, none, []⟩,
 ⟨some 2, .nilCheck (T 1), 0, none, [1]⟩,
 ⟨some 3, .fieldAddr N.zaf (T 2) 0, 0, none, [2]⟩,
 ⟨some 4, .load N.za (T 3), 0, none, [3]⟩,
 ⟨some 5, .call ⟨.value (.func N.zdk), #[T 0, T 4], #[N.zbz, N.za]⟩, N.zed, none, [0, 4]⟩,
 ⟨some (3+100), .assign (T 5), 0, none, [5, 5, 0, 1, 2, 3, 4, 5]⟩]) (
 .seq (
 .ops [
 ⟨some 0, .move (V 0), 0, none, []⟩,
 ⟨some 1, .move (V 0), 0, none, []⟩,
 ⟨some 2, .nilCheck (T 1), 0, none, []⟩,
 ⟨some 3, .fieldAddr N.zaf (T 2) 0, 0, none, []⟩,
 ⟨some 4, .load N.za (T 3), 0, none, []⟩,
 ⟨some 5, .slice N.za (T 4) (some (.const (.int .i64 2))) none none, 0, none, []⟩,
 ⟨some 6, .nilCheck (T 0), 0, none, []⟩,
 ⟨some 7, .fieldAddr N.zaf (T 6) 0, 0, none, []⟩,
 ⟨none, .store N.za (T 7) (T 5), 0, none, []⟩]) (
 .seq (
 .ops [
 ⟨some 0, .move (V 3), 0, none, []⟩,
 ⟨some (1+100), .assign (T 0), 0, none, []⟩]) (
 .ret)))))
def zrd (N : Nums) : C :=
 .seq (
 .ops [
 ⟨some (1+100), .assign (.const (.int .i16 0)), 0, none, []⟩]) (
 .seq (
 .seq (
 .ops [
 ⟨some 0, .move (V 0), 0, none, []⟩,
 ⟨some 1, .nilCheck (T 0), 0, none, []⟩,
 ⟨some 2, .fieldAddr N.zaf (T 1) 0, 0, none, []⟩,
 ⟨some 3, .load N.za (T 2), 0, none, []⟩,
 ⟨some 4, .call ⟨.builtin .len, #[T 3], #[N.za]⟩, N.ze, none, []⟩,
 ⟨some (2+100), .binOp .lss N.ze (T 4) (.const (.int .i64 2)) N.ze, 0, none, []⟩]) (
 .cond 2 (
 .seq (
 .ops [
 ⟨some 0, .move (V 0), 0, none, []⟩,
 ⟨some 1, .nilCheck (T 0), 0, none, []⟩,
 ⟨some 2, .fieldAddr N.zaf (T 1) 1, 0, none, []⟩,
 ⟨none, .store N.zaq (T 2) (.const (.bool true)), 0, none, []⟩]) (
 .seq (
 .ops [
 ⟨some 0, .move (V 0), 0, none, []⟩,
 ⟨some 1, .nilCheck (T 0), 0, none, []⟩,
 ⟨some 2, .fieldAddr N.zaf (T 1) 0, 0, none, []⟩,
 ⟨none, .store N.za (T 2) (.const (.slice none 0 0)), 0, none, []⟩]) (
 .seq (
 .ops [
 ⟨some (1+100), .assign (.const (.int .i16 0)), 0, none, []⟩]) (
 .ret)))) (
 .skip))) (
 .seq (
 .draw [
 ⟨some 0, .load N.zbz (.global N.zkr), 0, none, []⟩,
 ⟨some 1, .move (V 0), 0, none, []⟩,
 ⟨some 2, .nilCheck (T 1), 0, none, [1]⟩,
 ⟨some 3, .fieldAddr N.zaf (T 2) 0, 0, none, [2]⟩,
 ⟨some 4, .load N.za (T 3), 0, none, [3]⟩,
 ⟨some 5, .call ⟨.value (.func N.zdk), #[T 0, T 4], #[N.zbz, N.za]⟩, N.zed, none, [0, 4]⟩,
 ⟨some 6, .convert N.zed N.zbd (T 5), 0, none, [5]⟩,
 ⟨some (3+100), .assign (T 6), 0, none, [6, 5, 0, 1, 2, 3, 4, 5, 6]⟩]) (
 .seq (
 .ops [
 ⟨some 0, .move (V 0), 0, none, []⟩,
 ⟨some 1, .move (V 0), 0, none, []⟩,
 ⟨some 2, .nilCheck (T 1), 0, none, []⟩,
 ⟨some 3, .fieldAddr N.zaf (T 2) 0, 0, none, []⟩,
 ⟨some 4, .load N.za (T 3), 0, none, []⟩,
 ⟨some 5, .slice N.za (T 4) (some (.const (.int .i64 2))) none none, 0, none, []⟩,
 ⟨some 6, .nilCheck (T 0), 0, none, []⟩,
 ⟨some 7, .fieldAddr N.zaf (T 6) 0, 0, none, []⟩,
 ⟨none, .store N.za (T 7) (T 5), 0, none, []⟩]) (
 .seq (
 .ops [
 ⟨some 0, .move (V 3), 0, none, []⟩,
 ⟨some (1+100), .assign (T 0), 0, none, []⟩]) (
 .ret)))))
def zrc (N : Nums) : C :=
 .seq (
 .ops [
 ⟨some (1+100), .assign (.const (.int .i32 0)), 0, none, []⟩]) (
 .seq (
 .seq (
 .ops [
 ⟨some 0, .move (V 0), 0, none, []⟩,
 ⟨some 1, .nilCheck (T 0), 0, none, []⟩,
 ⟨some 2, .fieldAddr N.zaf (T 1) 0, 0, none, []⟩,
 ⟨some 3, .load N.za (T 2), 0, none, []⟩,
 ⟨some 4, .call ⟨.builtin .len, #[T 3], #[N.za]⟩, N.ze, none, []⟩,
 ⟨some (2+100), .binOp .lss N.ze (T 4) (.const (.int .i64 4)) N.ze, 0, none, []⟩]) (
 .cond 2 (
 .seq (
 .ops [
 ⟨some 0, .move (V 0), 0, none, []⟩,
 ⟨some 1, .nilCheck (T 0), 0, none, []⟩,
 ⟨some 2, .fieldAddr N.zaf (T 1) 1, 0, none, []⟩,
 ⟨none, .store N.zaq (T 2) (.const (.bool true)), 0, none, []⟩]) (
 .seq (
 .ops [
 ⟨some 0, .move (V 0), 0, none, []⟩,
 ⟨some 1, .nilCheck (T 0), 0, none, []⟩,
 ⟨some 2, .fieldAddr N.zaf (T 1) 0, 0, none, []⟩,
 ⟨none, .store N.za (T 2) (.const (.slice none 0 0)), 0, none, []⟩]) (
 .seq (
 .ops [
 ⟨some (1+100), .assign (.const (.int .i32 0)), 0, none, []⟩]) (
 .ret)))) (
 .skip))) (
 .seq (
 .draw [
 ⟨some 0, .load N.zbz (.global N.zkr), 0, none, []⟩,
 ⟨some 1, .move (V 0), 0, none, []⟩,
 ⟨some 2, .nilCheck (T 1), 0, none, [1]⟩,
 ⟨some 3, .fieldAddr N.zaf (T 2) 0, 0, none, [2]⟩,
 ⟨some 4, .load N.za (T 3), 0, none, [3]⟩,
 ⟨some 5, .call ⟨.value (.func N.zfg), #[T 0, T 4], #[N.zbz, N.za]⟩, N.zc, none, [0, 4]⟩,
 ⟨some 6, .convert N.zc N.zbp (T 5), 0, none, [5]⟩,
 ⟨some (3+100), .assign (T 6), 0, none, [6, 5, 0, 1, 2, 3, 4, 5, 6]⟩]) (
 .seq (
 .ops [
 ⟨some 0, .move (V 0), 0, none, []⟩,
 ⟨some 1, .move (V 0), 0, none, []⟩,
 ⟨some 2, .nilCheck (T 1), 0, none, []⟩,
 ⟨some 3, .fieldAddr N.zaf (T 2) 0, 0, none, []⟩,
 ⟨some 4, .load N.za (T 3), 0, none, []⟩,
 ⟨some 5, .slice N.za (T 4) (some (.const (.int .i64 4))) none none, 0, none, []⟩,
 ⟨some 6, .nilCheck (T 0), 0, none, []⟩,
 ⟨some 7, .fieldAddr N.zaf (T 6) 0, 0, none, []⟩,
 ⟨none, .store N.za (T 7) (T 5), 0, none, []⟩]) (
 .seq (
 .ops [
 ⟨some 0, .move (V 3), 0, none, []⟩,
 ⟨some (1+100), .assign (T 0), 0, none, []⟩]) (
 .ret)))))
def zmh (N : Nums) : C :=
 .seq (
 .ops [
 ⟨some (1+100), .assign (.const (.int .u64 0)), 0, none, []⟩]) (
 .seq (
 .seq (
 .ops [
 ⟨some 0, .move (V 0), 0, none, []⟩,
 ⟨some 1, .nilCheck (T 0), 0, none, []⟩,
 ⟨some 2, .fieldAddr N.zaf (T 1) 0, 0, none, []⟩,
 ⟨some 3, .load N.za (T 2), 0, none, []⟩,
 ⟨some 4, .call ⟨.builtin .len, #[T 3], #[N.za]⟩, N.ze, none, []⟩,
 ⟨some (2+100), .binOp .lss N.ze (T 4) (.const (.int .i64 8)) N.ze, 0, none, []⟩]) (
 .cond 2 (
 .seq (
 .ops [
 ⟨some 0, .move (V 0), 0, none, []⟩,
 ⟨some 1, .nilCheck (T 0), 0, none, []⟩,
 ⟨some 2, .fieldAddr N.zaf (T 1) 1, 0, none, []⟩,
 ⟨none, .store N.zaq (T 2) (.const (.bool true)), 0, none, []⟩]) (
 .seq (
 .ops [
 ⟨some 0, .move (V 0), 0, none, []⟩,
 ⟨some 1, .nilCheck (T 0), 0, none, []⟩,
 ⟨some 2, .fieldAddr N.zaf (T 1) 0, 0, none, []⟩,
 ⟨none, .store N.za (T 2) (.const (.slice none 0 0)), 0, none, []⟩]) (
 .seq (
 .ops [
 ⟨some (1+100), .assign (.const (.int .u64 0)), 0, none, []⟩]) (
 .ret)))) (
 .skip))) (
 .seq (
 .draw [
 ⟨some 0, .load N.zbz (.global N.zkr), 0, none, []⟩,
 ⟨some 1, .move (V 0), 0, none, []⟩,
 ⟨some 2, .nilCheck (T 1), 0, none, [1]⟩,
 ⟨some 3, .fieldAddr N.zaf (T 2) 0, 0, none, [2]⟩,
 ⟨some 4, .load N.za (T 3), 0, none, [3]⟩,
 ⟨some 5, .call ⟨.value (.func N.zff), #[T 0, T 4], #[N.zbz, N.za]⟩, N.zad, none, [0, 4]⟩,
 ⟨some (3+100), .assign (T 5), 0, none, [5, 5, 0, 1, 2, 3, 4, 5]⟩]) (
 .seq (
 .ops [
 ⟨some 0, .move (V 0), 0, none, []⟩,
 ⟨some 1, .move (V 0), 0, none, []⟩,
 ⟨some 2, .nilCheck (T 1), 0, none, []⟩,
 ⟨some 3, .fieldAddr N.zaf (T 2) 0, 0, none, []⟩,
 ⟨some 4, .load N.za (T 3), 0, none, []⟩,
 ⟨some 5, .slice N.za (T 4) (some (.const (.int .i64 8))) none none, 0, none, []⟩,
 ⟨some 6, .nilCheck (T 0), 0, none, []⟩,
 ⟨some 7, .fieldAddr N.zaf (T 6) 0, 0, none, []⟩,
 ⟨none, .store N.za (T 7) (T 5), 0, none, []⟩]) (
 .seq (
 .ops [
 ⟨some 0, .move (V 3), 0, none, []⟩,
 ⟨some (1+100), .assign (T 0), 0, none, []⟩]) (
 .ret)))))
def zrb (N : Nums) : C :=
 .seq (
 .ops [
 ⟨some (1+100), .assign (.const (.int .i64 0)), 0, none, []⟩]) (
 .seq (
 .ops [
 ⟨some 0, .move (V 0), 0, none, []⟩,
 ⟨some 1, .call ⟨.value (.func N.zeq), #[T 0], #[N.zbc]⟩, N.zad, none, []⟩,
 ⟨some 2, .convert N.zad N.zbn (T 1), 0, none, []⟩,
 ⟨some (1+100), .assign (T 2), 0, none, []⟩]) (
 .ret))
def zru (N : Nums) : C :=
 .seq (
 .ops [
 ⟨some (1+100), .alloc N.zag, 0, none, []⟩]) (
 .seq (
 .ops [
 ⟨some (2+100), .alloc N.zag, 0, none, []⟩]) (
 .seq (
 .draw [
 ⟨some 0, .slice N.zag (V 2) none none none, 0, none, []⟩,
 ⟨some 1, .move (V 0), 0, none, []⟩,
 ⟨some 2, .call ⟨.value (.func N.zai), #[(T 1), (.const (.int .i64 16))], #[N.zbc, N.ze]⟩, N.za, none, [1]⟩,
 ⟨some 3, .call ⟨.builtin .copy, #[T 0, T 2], #[N.za, N.za]⟩, N.ze, none, [0, 2, 2]⟩]) (
 .seq (
 .ops [
 ⟨some 0, .load N.zag (V 2), 0, none, []⟩,
 ⟨none, .store N.zag (V 1) (T 0), 0, none, []⟩]) (
 .ret))))
def zot (N : Nums) : C :=
 .seq (
 .ops [
 ⟨some (1+100), .assign (.const (.int .u32 0)), 0, none, []⟩]) (
 .seq (
 .ops [
 ⟨some 1, .move (V 0), 0, none, []⟩,
 ⟨some 2, .nilCheck (T 1), 0, none, []⟩,
 ⟨some 3, .fieldAddr N.zaf (T 2) 0, 0, none, []⟩,
 ⟨some 4, .load N.za (T 3), 0, none, []⟩,
 ⟨some 5, .call ⟨.value (.func N.zno), #[T 4], #[N.za]⟩, N.zlc, none, []⟩,
 ⟨some 0, .move (T 5), 0, none, []⟩,
 ⟨some 6, .extract (T 0) 0, 0, none, []⟩,
 ⟨some 7, .extract (T 0) 1, 0, none, []⟩,
 ⟨some (2+100), .assign (T 6), 0, none, []⟩,
 ⟨some (3+100), .assign (T 7), 0, none, []⟩]) (
 .seq (
 .seq (
 .ops [
 ⟨some 0, .move (V 3), 0, none, []⟩,
 ⟨some (4+100), .binOp .leq N.ze (T 0) (.const (.int .i64 0)) N.ze, 0, none, []⟩]) (
 .cond 4 (
 .seq (
 .ops [
 ⟨some 0, .move (V 0), 0, none, []⟩,
 ⟨some 1, .nilCheck (T 0), 0, none, []⟩,
 ⟨some 2, .fieldAddr N.zaf (T 1) 1, 0, none, []⟩,
 ⟨none, .store N.zaq (T 2) (.const (.bool true)), 0, none, []⟩]) (
 .seq (
 .ops [
 ⟨some 0, .move (V 0), 0, none, []⟩,
 ⟨some 1, .nilCheck (T 0), 0, none, []⟩,
 ⟨some 2, .fieldAddr N.zaf (T 1) 0, 0, none, []⟩,
 ⟨none, .store N.za (T 2) (.const (.slice none 0 0)), 0, none, []⟩]) (
 .seq (
 .ops [
 ⟨some (1+100), .assign (.const (.int .u32 0)), 0, none, []⟩]) (
 .ret)))) (
 .skip))) (
 .seq (
 .ops [
 ⟨some 0, .move (V 0), 0, none, []⟩,
 ⟨some 1, .move (V 0), 0, none, []⟩,
 ⟨some 2, .nilCheck (T 1), 0, none, []⟩,
 ⟨some 3, .fieldAddr N.zaf (T 2) 0, 0, none, []⟩,
 ⟨some 4, .load N.za (T 3), 0, none, []⟩,
 ⟨some 5, .move (V 3), 0, none, []⟩,
 ⟨some 6, .slice N.za (T 4) (some (T 5)) none none, 0, none, []⟩,
 ⟨some 7, .nilCheck (T 0), 0, none, []⟩,
 ⟨some 8, .fieldAddr N.zaf (T 7) 0, 0, none, []⟩,
 ⟨none, .store N.za (T 8) (T 6), 0, none, []⟩]) (
 .seq (
 .ops [
 ⟨some 0, .move (V 2), 0, none, []⟩,
 ⟨some (1+100), .assign (T 0), 0, none, []⟩]) (
 .ret)))))
def zrv (N : Nums) : C :=
 .seq (
 .ops [
 ⟨some (2+100), .assign (.const (.slice none 0 0)), 0, none, []⟩]) (
 .seq (
 .seq (
 .ops [
 ⟨some 0, .move (V 0), 0, none, []⟩,
 ⟨some 1, .nilCheck (T 0), 0, none, []⟩,
 ⟨some 2, .fieldAddr N.zaf (T 1) 0, 0, none, []⟩,
 ⟨some 3, .load N.za (T 2), 0, none, []⟩,
 ⟨some 4, .call ⟨.builtin .len, #[T 3], #[N.za]⟩, N.ze, none, []⟩,
 ⟨some 5, .move (V 1), 0, none, []⟩,
 ⟨some 6, .binOp .lss N.ze (T 4) (T 5) N.ze, 0, none, []⟩,
 ⟨some 7, .move (T 6), 0, none, []⟩,
 ⟨some 8, .move (V 1), 0, (some (some 7, false)), []⟩,
 ⟨some 9, .binOp .lss N.ze (T 8) (.const (.int .i64 0)) N.ze, 0, (some (some 7, false)), []⟩,
 ⟨some (3+100), .pick (T 7) (.const (.bool true)) (T 9), 0, none, []⟩]) (
 .cond 3 (
 .seq (
 .ops [
 ⟨some 0, .move (V 0), 0, none, []⟩,
 ⟨some 1, .nilCheck (T 0), 0, none, []⟩,
 ⟨some 2, .fieldAddr N.zaf (T 1) 1, 0, none, []⟩,
 ⟨none, .store N.zaq (T 2) (.const (.bool true)), 0, none, []⟩]) (
 .seq (
 .ops [
 ⟨some 0, .move (V 0), 0, none, []⟩,
 ⟨some 1, .nilCheck (T 0), 0, none, []⟩,
 ⟨some 2, .fieldAddr N.zaf (T 1) 0, 0, none, []⟩,
 ⟨none, .store N.za (T 2) (.const (.slice none 0 0)), 0, none, []⟩]) (
 .seq (
 .ops [
 ⟨some (2+100), .assign (.const (.slice none 0 0)), 0, none, []⟩]) (
 .ret)))) (
 .skip))) (
 .seq (
 .ops [
 ⟨some 0, .move (V 0), 0, none, []⟩,
 ⟨some 1, .nilCheck (T 0), 0, none, []⟩,
 ⟨some 2, .fieldAddr N.zaf (T 1) 0, 0, none, []⟩,
 ⟨some 3, .load N.za (T 2), 0, none, []⟩,
 ⟨some 4, .move (V 1), 0, none, []⟩,
 ⟨some 5, .move (V 1), 0, none, []⟩,
 ⟨some 6, .slice N.za (T 3) none (some (T 4)) (some (T 5)), 0, none, []⟩,
 ⟨some (4+100), .assign (T 6), 0, none, []⟩]) (
 .seq (
 .ops [
 ⟨some 0, .move (V 0), 0, none, []⟩,
 ⟨some 1, .move (V 0), 0, none, []⟩,
 ⟨some 2, .nilCheck (T 1), 0, none, []⟩,
 ⟨some 3, .fieldAddr N.zaf (T 2) 0, 0, none, []⟩,
 ⟨some 4, .load N.za (T 3), 0, none, []⟩,
 ⟨some 5, .move (V 1), 0, none, []⟩,
 ⟨some 6, .slice N.za (T 4) (some (T 5)) none none, 0, none, []⟩,
 ⟨some 7, .nilCheck (T 0), 0, none, []⟩,
 ⟨some 8, .fieldAddr N.zaf (T 7) 0, 0, none, []⟩,
 ⟨none, .store N.za (T 8) (T 6), 0, none, []⟩]) (
 .seq (
 .ops [
 ⟨some 0, .move (V 4), 0, none, []⟩,
 ⟨some (2+100), .assign (T 0), 0, none, []⟩]) (
 .ret)))))
def zpp (N : Nums) : C :=
 .seq (
 .ops [
 ⟨some (1+100), .assign (.const (.string ⟨#[]⟩)), 0, none, []⟩]) (
 .seq (
 .ops [
 ⟨some 0, .move (V 0), 0, none, []⟩,
 ⟨some 1, .call ⟨.value (.func N.zca), #[T 0], #[N.zbc]⟩, N.zbd, none, []⟩,
 ⟨some (2+100), .assign (T 1), 0, none, []⟩]) (
 .seq (
 .ops [
 ⟨some 0, .move (V 0), 0, none, []⟩,
 ⟨some 1, .move (V 2), 0, none, []⟩,
 ⟨some 2, .convert N.zbd N.ze (T 1), 0, none, []⟩,
 ⟨some 3, .call ⟨.value (.func N.zai), #[T 0, T 2], #[N.zbc, N.ze]⟩, N.za, none, []⟩,
 ⟨some 4, .convert N.za N.zal (T 3), 0, none, []⟩,
 ⟨some (1+100), .assign (T 4), 0, none, []⟩]) (
 .ret)))
def zla (N : Nums) : C :=
 .seq (
 .ops [
 ⟨some (1+100), .assign (.const (.string ⟨#[]⟩)), 0, none, []⟩]) (
 .seq (
 .ops [
 ⟨some 0, .move (V 0), 0, none, []⟩,
 ⟨some 1, .call ⟨.value (.func N.zca), #[T 0], #[N.zbc]⟩, N.zbd, none, []⟩,
 ⟨some (2+100), .assign (T 1), 0, none, []⟩]) (
 .seq (
 .ops [
 ⟨some 0, .move (V 0), 0, none, []⟩,
 ⟨some 1, .move (V 2), 0, none, []⟩,
 ⟨some 2, .convert N.zbd N.ze (T 1), 0, none, []⟩,
 ⟨some 3, .call ⟨.value (.func N.zai), #[T 0, T 2], #[N.zbc, N.ze]⟩, N.za, none, []⟩,
 ⟨some 4, .call ⟨.value (.func N.zcv), #[T 3], #[N.za]⟩, N.zal, none, []⟩,
 ⟨some (1+100), .assign (T 4), 0, none, []⟩]) (
 .ret)))
def zkv (N : Nums) : C :=
 .seq (
 .ops [
 ⟨some (1+100), .assign (.const (.string ⟨#[]⟩)), 0, none, []⟩]) (
 .seq (
 .ops [
 ⟨some 0, .move (V 0), 0, none, []⟩,
 ⟨some 1, .call ⟨.value (.func N.zan), #[T 0], #[N.zbc]⟩, N.zc, none, []⟩,
 ⟨some 2, .convert N.zc N.ze (T 1), 0, none, []⟩,
 ⟨some 3, .binOp .sub N.ze (T 2) (.const (.int .i64 1)) N.ze, 0, none, []⟩,
 ⟨some (2+100), .assign (T 3), 0, none, []⟩]) (
 .seq (
 .ops [
 ⟨some 0, .move (V 0), 0, none, []⟩,
 ⟨some 1, .move (V 2), 0, none, []⟩,
 ⟨some 2, .call ⟨.value (.func N.zai), #[T 0, T 1], #[N.zbc, N.ze]⟩, N.za, none, []⟩,
 ⟨some 3, .convert N.za N.zal (T 2), 0, none, []⟩,
 ⟨some (1+100), .assign (T 3), 0, none, []⟩]) (
 .ret)))
def zic (N : Nums) : C :=
 .seq (
 .ops [
 ⟨some (1+100), .assign (.const (.string ⟨#[]⟩)), 0, none, []⟩]) (
 .seq (
 .ops [
 ⟨some 0, .move (V 0), 0, none, []⟩,
 ⟨some 1, .call ⟨.value (.func N.zan), #[T 0], #[N.zbc]⟩, N.zc, none, []⟩,
 ⟨some 2, .convert N.zc N.ze (T 1), 0, none, []⟩,
 ⟨some 3, .binOp .sub N.ze (T 2) (.const (.int .i64 1)) N.ze, 0, none, []⟩,
 ⟨some (2+100), .assign (T 3), 0, none, []⟩]) (
 .seq (
 .ops [
 ⟨some 0, .move (V 0), 0, none, []⟩,
 ⟨some 1, .move (V 2), 0, none, []⟩,
 ⟨some 2, .call ⟨.value (.func N.zai), #[T 0, T 1], #[N.zbc, N.ze]⟩, N.za, none, []⟩,
 ⟨some 3, .call ⟨.value (.func N.zcv), #[T 2], #[N.za]⟩, N.zal, none, []⟩,
 ⟨some (1+100), .assign (T 3), 0, none, []⟩]) (
 .ret)))
def zkg (N : Nums) : C :=
 .seq (
 .ops [
 ⟨some (1+100), .assign (.const (.pointer none)), 0, none, []⟩]) (
 .seq (
 .ops [
 ⟨some 0, .move (V 0), 0, none, []⟩,
 ⟨some 1, .call ⟨.value (.func N.zca), #[T 0], #[N.zbc]⟩, N.zbd, none, []⟩,
 ⟨some (2+100), .assign (T 1), 0, none, []⟩]) (
 .seq (
 .seq (
 .ops [
 ⟨some 0, .move (V 2), 0, none, []⟩,
 ⟨some (3+100), .binOp .lss N.zbd (T 0) (.const (.int .i16 0)) N.zbd, 0, none, []⟩]) (
 .cond 3 (
 .seq (
 .ops [
 ⟨some (1+100), .assign (.const (.pointer none)), 0, none, []⟩]) (
 .ret)) (
 .skip))) (
 .seq (
 .ops [
 ⟨some 0, .move (V 0), 0, none, []⟩,
 ⟨some 1, .move (V 2), 0, none, []⟩,
 ⟨some 2, .convert N.zbd N.ze (T 1), 0, none, []⟩,
 ⟨some 3, .call ⟨.value (.func N.zai), #[T 0, T 2], #[N.zbc, N.ze]⟩, N.za, none, []⟩,
 ⟨some 4, .convert N.za N.zal (T 3), 0, none, []⟩,
 ⟨some (4+100), .alloc N.zal, 0, none, []⟩,
 ⟨none, .store N.zal (V 4) (T 4), 0, none, []⟩]) (
 .seq (
 .ops [
 ⟨some (1+100), .assign (V 4), 0, none, []⟩]) (
 .ret)))))
def zhw (N : Nums) : C :=
 .seq (
 .ops [
 ⟨some (1+100), .assign (.const (.pointer none)), 0, none, []⟩]) (
 .seq (
 .ops [
 ⟨some 0, .move (V 0), 0, none, []⟩,
 ⟨some 1, .call ⟨.value (.func N.zca), #[T 0], #[N.zbc]⟩, N.zbd, none, []⟩,
 ⟨some (2+100), .assign (T 1), 0, none, []⟩]) (
 .seq (
 .seq (
 .ops [
 ⟨some 0, .move (V 2), 0, none, []⟩,
 ⟨some (3+100), .binOp .lss N.zbd (T 0) (.const (.int .i16 0)) N.zbd, 0, none, []⟩]) (
 .cond 3 (
 .seq (
 .ops [
 ⟨some (1+100), .assign (.const (.pointer none)), 0, none, []⟩]) (
 .ret)) (
 .skip))) (
 .seq (
 .ops [
 ⟨some 0, .move (V 0), 0, none, []⟩,
 ⟨some 1, .move (V 2), 0, none, []⟩,
 ⟨some 2, .convert N.zbd N.ze (T 1), 0, none, []⟩,
 ⟨some 3, .call ⟨.value (.func N.zai), #[T 0, T 2], #[N.zbc, N.ze]⟩, N.za, none, []⟩,
 ⟨some 4, .call ⟨.value (.func N.zcv), #[T 3], #[N.za]⟩, N.zal, none, []⟩,
 ⟨some (4+100), .alloc N.zal, 0, none, []⟩,
 ⟨none, .store N.zal (V 4) (T 4), 0, none, []⟩]) (
 .seq (
 .ops [
 ⟨some (1+100), .assign (V 4), 0, none, []⟩]) (
 .ret)))))
def zhe (N : Nums) : C :=
 .seq (
 .ops [
 ⟨some (1+100), .assign (.const (.pointer none)), 0, none, []⟩]) (
 .seq (
 .ops [
 ⟨some 0, .move (V 0), 0, none, []⟩,
 ⟨some 1, .call ⟨.value (.func N.zan), #[T 0], #[N.zbc]⟩, N.zc, none, []⟩,
 ⟨some 2, .convert N.zc N.ze (T 1), 0, none, []⟩,
 ⟨some 3, .binOp .sub N.ze (T 2) (.const (.int .i64 1)) N.ze, 0, none, []⟩,
 ⟨some (2+100), .assign (T 3), 0, none, []⟩]) (
 .seq (
 .seq (
 .ops [
 ⟨some 0, .move (V 2), 0, none, []⟩,
 ⟨some (3+100), .binOp .lss N.ze (T 0) (.const (.int .i64 0)) N.ze, 0, none, []⟩]) (
 .cond 3 (
 .seq (
 .ops [
 ⟨some (1+100), .assign (.const (.pointer none)), 0, none, []⟩]) (
 .ret)) (
 .skip))) (
 .seq (
 .ops [
 ⟨some 0, .move (V 0), 0, none, []⟩,
 ⟨some 1, .move (V 2), 0, none, []⟩,
 ⟨some 2, .call ⟨.value (.func N.zai), #[T 0, T 1], #[N.zbc, N.ze]⟩, N.za, none, []⟩,
 ⟨some 3, .convert N.za N.zal (T 2), 0, none, []⟩,
 ⟨some (4+100), .alloc N.zal, 0, none, []⟩,
 ⟨none, .store N.zal (V 4) (T 3), 0, none, []⟩]) (
 .seq (
 .ops [
 ⟨some (1+100), .assign (V 4), 0, none, []⟩]) (
 .ret)))))
def zfv (N : Nums) : C :=
 .seq (
 .ops [
 ⟨some (1+100), .assign (.const (.pointer none)), 0, none, []⟩]) (
 .seq (
 .ops [
 ⟨some 0, .move (V 0), 0, none, []⟩,
 ⟨some 1, .call ⟨.value (.func N.zan), #[T 0], #[N.zbc]⟩, N.zc, none, []⟩,
 ⟨some 2, .convert N.zc N.ze (T 1), 0, none, []⟩,
 ⟨some 3, .binOp .sub N.ze (T 2) (.const (.int .i64 1)) N.ze, 0, none, []⟩,
 ⟨some (2+100), .assign (T 3), 0, none, []⟩]) (
 .seq (
 .seq (
 .ops [
 ⟨some 0, .move (V 2), 0, none, []⟩,
 ⟨some (3+100), .binOp .lss N.ze (T 0) (.const (.int .i64 0)) N.ze, 0, none, []⟩]) (
 .cond 3 (
 .seq (
 .ops [
 ⟨some (1+100), .assign (.const (.pointer none)), 0, none, []⟩]) (
 .ret)) (
 .skip))) (
 .seq (
 .ops [
 ⟨some 0, .move (V 0), 0, none, []⟩,
 ⟨some 1, .move (V 2), 0, none, []⟩,
 ⟨some 2, .call ⟨.value (.func N.zai), #[T 0, T 1], #[N.zbc, N.ze]⟩, N.za, none, []⟩,
 ⟨some 3, .call ⟨.value (.func N.zcv), #[T 2], #[N.za]⟩, N.zal, none, []⟩,
 ⟨some (4+100), .alloc N.zal, 0, none, []⟩,
 ⟨none, .store N.zal (V 4) (T 3), 0, none, []⟩]) (
 .seq (
 .ops [
 ⟨some (1+100), .assign (V 4), 0, none, []⟩]) (
 .ret)))))
def zre (N : Nums) : C :=
 .seq (
 .ops [
 ⟨some (1+100), .assign (.const (.slice none 0 0)), 0, none, []⟩]) (
 .seq (
 .ops [
 ⟨some 0, .move (V 0), 0, none, []⟩,
 ⟨some 1, .call ⟨.value (.func N.zcx), #[T 0], #[N.zbc]⟩, N.zbp, none, []⟩,
 ⟨some (2+100), .assign (T 1), 0, none, []⟩]) (
 .seq (
 .seq (
 .ops [
 ⟨some 0, .move (V 2), 0, none, []⟩,
 ⟨some (3+100), .binOp .eql N.zbp (T 0) (.const (.int .i32 (-1))) N.zbp, 0, none, []⟩]) (
 .cond 3 (
 .seq (
 .ops [
 ⟨some 0, .buildSlice N.za 0 #[], 0, none, []⟩,
 ⟨some (1+100), .assign (T 0), 0, none, []⟩]) (
 .ret)) (
 .skip))) (
 .seq (
 .ops [
 ⟨some 0, .move (V 0), 0, none, []⟩,
 ⟨some 1, .move (V 2), 0, none, []⟩,
 ⟨some 2, .convert N.zbp N.ze (T 1), 0, none, []⟩,
 ⟨some 3, .call ⟨.value (.func N.zai), #[T 0, T 2], #[N.zbc, N.ze]⟩, N.za, none, []⟩,
 ⟨some (1+100), .assign (T 3), 0, none, []⟩]) (
 .ret))))
def zlb (N : Nums) : C :=
 .seq (
 .ops [
 ⟨some (1+100), .assign (.const (.slice none 0 0)), 0, none, []⟩]) (
 .seq (
 .ops [
 ⟨some 0, .move (V 0), 0, none, []⟩,
 ⟨some 1, .call ⟨.value (.func N.zan), #[T 0], #[N.zbc]⟩, N.zc, none, []⟩,
 ⟨some 2, .convert N.zc N.ze (T 1), 0, none, []⟩,
 ⟨some 3, .binOp .sub N.ze (T 2) (.const (.int .i64 1)) N.ze, 0, none, []⟩,
 ⟨some (2+100), .assign (T 3), 0, none, []⟩]) (
 .seq (
 .seq (
 .ops [
 ⟨some 0, .move (V 2), 0, none, []⟩,
 ⟨some (3+100), .binOp .eql N.ze (T 0) (.const (.int .i64 (-1))) N.ze, 0, none, []⟩]) (
 .cond 3 (
 .seq (
 .ops [
 ⟨some 0, .buildSlice N.za 0 #[], 0, none, []⟩,
 ⟨some (1+100), .assign (T 0), 0, none, []⟩]) (
 .ret)) (
 .skip))) (
 .seq (
 .ops [
 ⟨some 0, .move (V 0), 0, none, []⟩,
 ⟨some 1, .move (V 2), 0, none, []⟩,
 ⟨some 2, .call ⟨.value (.func N.zai), #[T 0, T 1], #[N.zbc, N.ze]⟩, N.za, none, []⟩,
 ⟨some (1+100), .assign (T 2), 0, none, []⟩]) (
 .ret))))
def zku (N : Nums) : C :=
 .seq (
 .ops [
 ⟨some (1+100), .assign (.const (.slice none 0 0)), 0, none, []⟩]) (
 .seq (
 .ops [
 ⟨some 0, .move (V 0), 0, none, []⟩,
 ⟨some 1, .call ⟨.value (.func N.zcx), #[T 0], #[N.zbc]⟩, N.zbp, none, []⟩,
 ⟨some (2+100), .assign (T 1), 0, none, []⟩]) (
 .seq (
 .seq (
 .ops [
 ⟨some 0, .move (V 2), 0, none, []⟩,
 ⟨some (3+100), .binOp .lss N.zbp (T 0) (.const (.int .i32 0)) N.zbp, 0, none, []⟩]) (
 .cond 3 (
 .seq (
 .ops [
 ⟨some (1+100), .assign (.const (.slice none 0 0)), 0, none, []⟩]) (
 .ret)) (
 .skip))) (
 .seq (
 .ops [
 ⟨some 0, .move (V 0), 0, none, []⟩,
 ⟨some 1, .move (V 2), 0, none, []⟩,
 ⟨some 2, .convert N.zbp N.ze (T 1), 0, none, []⟩,
 ⟨some 3, .call ⟨.value (.func N.zai), #[T 0, T 2], #[N.zbc, N.ze]⟩, N.za, none, []⟩,
 ⟨some (4+100), .assign (T 3), 0, none, []⟩]) (
 .seq (
 .ops [
 ⟨some 0, .move (V 4), 0, none, []⟩,
 ⟨some (1+100), .assign (T 0), 0, none, []⟩]) (
 .ret)))))
def zhx (N : Nums) : C :=
 .seq (
 .ops [
 ⟨some (1+100), .assign (.const (.slice none 0 0)), 0, none, []⟩]) (
 .seq (
 .ops [
 ⟨some 0, .move (V 0), 0, none, []⟩,
 ⟨some 1, .call ⟨.value (.func N.zan), #[T 0], #[N.zbc]⟩, N.zc, none, []⟩,
 ⟨some 2, .convert N.zc N.ze (T 1), 0, none, []⟩,
 ⟨some 3, .binOp .sub N.ze (T 2) (.const (.int .i64 1)) N.ze, 0, none, []⟩,
 ⟨some (2+100), .assign (T 3), 0, none, []⟩]) (
 .seq (
 .seq (
 .ops [
 ⟨some 0, .move (V 2), 0, none, []⟩,
 ⟨some (3+100), .binOp .lss N.ze (T 0) (.const (.int .i64 0)) N.ze, 0, none, []⟩]) (
 .cond 3 (
 .seq (
 .ops [
 ⟨some (1+100), .assign (.const (.slice none 0 0)), 0, none, []⟩]) (
 .ret)) (
 .skip))) (
 .seq (
 .ops [
 ⟨some 0, .move (V 0), 0, none, []⟩,
 ⟨some 1, .move (V 2), 0, none, []⟩,
 ⟨some 2, .call ⟨.value (.func N.zai), #[T 0, T 1], #[N.zbc, N.ze]⟩, N.za, none, []⟩,
 ⟨some (4+100), .assign (T 2), 0, none, []⟩]) (
 .seq (
 .ops [
 ⟨some 0, .move (V 4), 0, none, []⟩,
 ⟨some (1+100), .assign (T 0), 0, none, []⟩]) (
 .ret)))))
def znx (N : Nums) : C :=
 .seq (
 .ops [
 ⟨some (1+100), .assign (.const (.int .i32 0)), 0, none, []⟩]) (
 .seq (
 .ops [
 ⟨some 0, .move (V 0), 0, none, []⟩,
 ⟨some 1, .call ⟨.value (.func N.zcx), #[T 0], #[N.zbc]⟩, N.zbp, none, []⟩,
 ⟨some (2+100), .assign (T 1), 0, none, []⟩]) (
 .seq (
 .seq (
 .ops [
 ⟨some 0, .move (V 0), 0, none, []⟩,
 ⟨some 1, .nilCheck (T 0), 0, none, []⟩,
 ⟨some 2, .fieldAddr N.zaf (T 1) 0, 0, none, []⟩,
 ⟨some 3, .load N.za (T 2), 0, none, []⟩,
 ⟨some 4, .call ⟨.builtin .len, #[T 3], #[N.za]⟩, N.ze, none, []⟩,
 ⟨some 5, .move (V 2), 0, none, []⟩,
 ⟨some 6, .convert N.zbp N.ze (T 5), 0, none, []⟩,
 ⟨some (3+100), .binOp .lss N.ze (T 4) (T 6) N.ze, 0, none, []⟩]) (
 .cond 3 (
 .seq (
 .ops [
 ⟨some 0, .move (V 0), 0, none, []⟩,
 ⟨some 1, .nilCheck (T 0), 0, none, []⟩,
 ⟨some 2, .fieldAddr N.zaf (T 1) 1, 0, none, []⟩,
 ⟨none, .store N.zaq (T 2) (.const (.bool true)), 0, none, []⟩]) (
 .seq (
 .ops [
 ⟨some 0, .move (V 0), 0, none, []⟩,
 ⟨some 1, .nilCheck (T 0), 0, none, []⟩,
 ⟨some 2, .fieldAddr N.zaf (T 1) 0, 0, none, []⟩,
 ⟨none, .store N.za (T 2) (.const (.slice none 0 0)), 0, none, []⟩]) (
 .seq (
 .ops [
 ⟨some (1+100), .assign (.const (.int .i32 0)), 0, none, []⟩]) (
 .ret)))) (
 .skip))) (
 .seq (
 .ops [
 ⟨some 0, .move (V 2), 0, none, []⟩,
 ⟨some (1+100), .assign (T 0), 0, none, []⟩]) (
 .ret))))
def zju (N : Nums) : C :=
 .seq (
 .ops [
 ⟨some (1+100), .assign (.const (.int .i32 0)), 0, none, []⟩]) (
 .seq (
 .ops [
 ⟨some 0, .move (V 0), 0, none, []⟩,
 ⟨some 1, .call ⟨.value (.func N.zan), #[T 0], #[N.zbc]⟩, N.zc, none, []⟩,
 ⟨some 2, .convert N.zc N.zbp (T 1), 0, none, []⟩,
 ⟨some 3, .binOp .sub N.zbp (T 2) (.const (.int .i32 1)) N.zbp, 0, none, []⟩,
 ⟨some (2+100), .assign (T 3), 0, none, []⟩]) (
 .seq (
 .seq (
 .ops [
 ⟨some 0, .move (V 0), 0, none, []⟩,
 ⟨some 1, .nilCheck (T 0), 0, none, []⟩,
 ⟨some 2, .fieldAddr N.zaf (T 1) 0, 0, none, []⟩,
 ⟨some 3, .load N.za (T 2), 0, none, []⟩,
 ⟨some 4, .call ⟨.builtin .len, #[T 3], #[N.za]⟩, N.ze, none, []⟩,
 ⟨some 5, .move (V 2), 0, none, []⟩,
 ⟨some 6, .convert N.zbp N.ze (T 5), 0, none, []⟩,
 ⟨some (3+100), .binOp .lss N.ze (T 4) (T 6) N.ze, 0, none, []⟩]) (
 .cond 3 (
 .seq (
 .ops [
 ⟨some 0, .move (V 0), 0, none, []⟩,
 ⟨some 1, .nilCheck (T 0), 0, none, []⟩,
 ⟨some 2, .fieldAddr N.zaf (T 1) 1, 0, none, []⟩,
 ⟨none, .store N.zaq (T 2) (.const (.bool true)), 0, none, []⟩]) (
 .seq (
 .ops [
 ⟨some 0, .move (V 0), 0, none, []⟩,
 ⟨some 1, .nilCheck (T 0), 0, none, []⟩,
 ⟨some 2, .fieldAddr N.zaf (T 1) 0, 0, none, []⟩,
 ⟨none, .store N.za (T 2) (.const (.slice none 0 0)), 0, none, []⟩]) (
 .seq (
 .ops [
 ⟨some (1+100), .assign (.const (.int .i32 0)), 0, none, []⟩]) (
 .ret)))) (
 .skip))) (
 .seq (
 .ops [
 ⟨some 0, .move (V 2), 0, none, []⟩,
 ⟨some (1+100), .assign (T 0), 0, none, []⟩]) (
 .ret))))
def znw (N : Nums) : C :=
 .seq (
 .ops [
 ⟨some (1+100), .assign (.const .nilIface), 0, none, []⟩]) (
 .seq (
 .seq (
 .ops [
 ⟨some 0, .move (V 0), 0, none, []⟩,
 ⟨some 1, .nilCheck (T 0), 0, none, []⟩,
 ⟨some 2, .fieldAddr N.zaf (T 1) 1, 0, none, []⟩,
 ⟨some (2+100), .load N.zaq (T 2), 0, none, []⟩]) (
 .cond 2 (
 .seq (
 .ops [
 ⟨some 0, .load N.zld (.global N.zej), 0, none, []⟩,
 ⟨some (1+100), .assign (T 0), 0, none, []⟩]) (
 .ret)) (
 .skip))) (
 .seq (
 .ops [
 ⟨some (1+100), .assign (.const .nilIface), 0, none, []⟩]) (
 .ret)))
def zwe (N : Nums) : C :=
 .seq (
 .ops [
 ⟨some (1+100), .assign (.const (.bool false)), 0, none, []⟩]) (
 .seq (
 .ops [
 ⟨some 0, .move (V 0), 0, none, []⟩,
 ⟨some 1, .nilCheck (T 0), 0, none, []⟩,
 ⟨some 2, .fieldAddr N.zaf (T 1) 1, 0, none, []⟩,
 ⟨some 3, .load N.zaq (T 2), 0, none, []⟩,
 ⟨some 4, .unOp .not N.zaq (T 3), 0, none, []⟩,
 ⟨some (1+100), .assign (T 4), 0, none, []⟩]) (
 .ret))
def zra (N : Nums) : C :=
 .seq (
 .seq (
 .ops [
 ⟨some 0, .move (V 0), 0, none, []⟩,
 ⟨some 1, .nilCheck (T 0), 0, none, []⟩,
 ⟨some 2, .fieldAddr N.zcq (T 1) 0, 0, none, []⟩,
 ⟨some 3, .load N.zz (T 2), 0, none, []⟩,
 ⟨some (3+100), .binOp .eql N.zz (T 3) (.const (.map none)) N.zz, 0, none, []⟩]) (
 .cond 3 (
 .ops [
 ⟨some 0, .move (V 0), 0, none, []⟩,
 ⟨some 1, .makeMap N.zz none, 0, none, []⟩,
 ⟨some 2, .nilCheck (T 0), 0, none, []⟩,
 ⟨some 3, .fieldAddr N.zcq (T 2) 0, 0, none, []⟩,
 ⟨none, .store N.zz (T 3) (T 1), 0, none, []⟩]) (
 .skip))) (
 .ops [
 ⟨some 0, .move (V 0), 0, none, []⟩,
 ⟨some 1, .nilCheck (T 0), 0, none, []⟩,
 ⟨some 2, .fieldAddr N.zcq (T 1) 0, 0, none, []⟩,
 ⟨some 3, .load N.zz (T 2), 0, none, []⟩,
 ⟨some 4, .move (V 1), 0, none, []⟩,
 ⟨some 5, .move (V 2), 0, none, []⟩,
 ⟨none, .mapUpdate N.zz (T 3) (T 4) (T 5), 0, none, []⟩])
def zns (N : Nums) : C :=
 .seq (
 .ops [
 ⟨some (1+100), .alloc N.zcq, 0, none, []⟩]) (
 .seq (
 .ops [
 ⟨some (2+100), .alloc N.zcq, 0, none, []⟩]) (
 .seq (
 .seq (
 .ops [
 ⟨some 0, .move (V 0), 0, none, []⟩,
 ⟨some 1, .call ⟨.value (.func N.zan), #[T 0], #[N.zbc]⟩, N.zc, none, []⟩,
 ⟨some (3+100), .assign (T 1), 0, none, []⟩]) (
 .block 0 (
 .loop (
 .seq (
 .seq (
 .ops [
 ⟨some 0, .move (V 3), 0, none, []⟩,
 ⟨some (4+100), .binOp .gtr N.zc (T 0) (.const (.int .u32 0)) N.zc, 0, none, []⟩]) (
 .cond 4 (
 .skip) (
 .exit 0))) (
 .seq (
 .block 1 (
 .seq (
 .ops [
 ⟨some 0, .move (V 0), 0, none, []⟩,
 ⟨some 1, .call ⟨.value (.func N.zan), #[T 0], #[N.zbc]⟩, N.zc, none, []⟩,
 ⟨some 2, .move (V 0), 0, none, []⟩,
 ⟨some 3, .call ⟨.value (.func N.zan), #[T 2], #[N.zbc]⟩, N.zc, none, []⟩,
 ⟨some (5+100), .assign (T 1), 0, none, []⟩,
 ⟨some (6+100), .assign (T 3), 0, none, []⟩]) (
 .ops [
 ⟨some 0, .move (V 5), 0, none, []⟩,
 ⟨some 1, .move (V 0), 0, none, []⟩,
 ⟨some 2, .move (V 6), 0, none, []⟩,
 ⟨some 3, .convert N.zc N.ze (T 2), 0, none, []⟩,
 ⟨some 4, .call ⟨.value (.func N.zai), #[T 1, T 3], #[N.zbc, N.ze]⟩, N.za, none, []⟩,
 ⟨some 5, .call ⟨.value (.func N.zdn), #[V 2, T 0, T 4], #[N.zcq, N.zc, N.za]⟩, N.t_, none, []⟩]))) (
 .ops [
 ⟨some 0, .move (V 3), 0, none, []⟩,
 ⟨some 1, .binOp .sub N.zc (T 0) (.const (.int .u32 1)) N.zc, 0, none, []⟩,
 ⟨some (3+100), .assign (T 1), 0, none, []⟩])))))) (
 .seq (
 .ops [
 ⟨some 0, .load N.zcq (V 2), 0, none, []⟩,
 ⟨none, .store N.zcq (V 1) (T 0), 0, none, []⟩]) (
 .ret))))
def zpi (N : Nums) : C :=
 .seq (
 .seq (
 .ops [
 ⟨some 0, .move (V 0), 0, none, []⟩,
 ⟨some 1, .nilCheck (T 0), 0, none, []⟩,
 ⟨some 2, .fieldAddr N.zcq (T 1) 0, 0, none, []⟩,
 ⟨some 3, .load N.zz (T 2), 0, none, []⟩,
 ⟨some 4, .call ⟨.builtin .len, #[T 3], #[N.zz]⟩, N.ze, none, []⟩,
 ⟨some (2+100), .binOp .eql N.ze (T 4) (.const (.int .i64 0)) N.ze, 0, none, []⟩]) (
 .cond 2 (
 .ret) (
 .skip))) (
 .seq (
 .ops [
 ⟨some 0, .move (V 0), 0, none, []⟩,
 ⟨some 1, .nilCheck (T 0), 0, none, []⟩,
 ⟨some 2, .fieldAddr N.zcq (T 1) 0, 0, none, []⟩,
 ⟨some 3, .load N.zz (T 2), 0, none, []⟩,
 ⟨some 4, .call ⟨.builtin .len, #[T 3], #[N.zz]⟩, N.ze, none, []⟩,
 ⟨some 5, .makeSlice N.zav (.const (.int .i64 0)) (T 4), 0, none, []⟩,
 ⟨some (3+100), .alloc N.zav, 0, none, []⟩,
 ⟨none, .store N.zav (V 3) (T 5), 0, none, []⟩]) (
 .seq (
 .seq (
 .ops [
 ⟨some 0, .move (V 0), 0, none, []⟩,
 ⟨some 1, .nilCheck (T 0), 0, none, []⟩,
 ⟨some 2, .fieldAddr N.zcq (T 1) 0, 0, none, []⟩,
 ⟨some 3, .load N.zz (T 2), 0, none, []⟩,
 ⟨some (4+100), .range N.zz (T 3), 0, none, []⟩]) (
 .block 0 (
 .loop (
 .seq (
 .ops [
 ⟨some 0, .next (V 4) false, N.t_, none, []⟩,
 ⟨some (5+100), .extract (T 0) 0, 0, none, []⟩]) (
 .seq (
 .cond 5 (
 .skip) (
 .exit 0)) (
 .block 1 (
 .seq (
 .ops [
 ⟨some 0, .entry (V 4), 0, none, []⟩,
 ⟨some 1, .extract (T 0) 0, 0, none, []⟩,
 ⟨some (6+100), .assign (T 1), 0, none, []⟩]) (
 .ops [
 ⟨some 0, .load N.zav (V 3), 0, none, []⟩,
 ⟨some 1, .move (V 6), 0, none, []⟩,
 ⟨some 2, .buildSlice N.zav 1 #[(0, (T 1))], 0, none, []⟩,
 ⟨some 3, .call ⟨.builtin .append, #[T 0, T 2], #[N.zav, N.zav]⟩, N.zav, none, []⟩,
 ⟨none, .store N.zav (V 3) (T 3), 0, none, []⟩])))))))) (
 .seq (
 .ops [
 ⟨some 0, .load N.zav (V 3), 0, none, []⟩,
 ⟨some 1, .makeInterface N.zav (T 0), 0, none, []⟩,
 ⟨some 2, .makeFunc (.func N.zcm) #[] #[V 3], 0, none, []⟩,
 ⟨some 3, .call ⟨.value (.func N.zgj), #[T 1, T 2], #[N.zmp, N.zgf]⟩, N.t_, none, []⟩]) (
 .seq (
 .ops [
 ⟨some (7+100), .load N.zav (V 3), 0, none, []⟩,
 ⟨some (8+100), .call ⟨.builtin .len, #[V 7], #[N.zav]⟩, N.ze, none, []⟩,
 ⟨some (9+100), .move (.const (.int .i64 0)), 0, none, []⟩]) (
 .block 2 (
 .loop (
 .seq (
 .ops [
 ⟨some (10+100), .binOp .lss N.ze (V 9) (V 8) N.ze, 0, none, []⟩]) (
 .seq (
 .cond 10 (
 .skip) (
 .exit 2)) (
 .seq (
 .block 3 (
 .seq (
 .ops [
 ⟨some 0, .indexAddr N.zav (V 7) (V 9), 0, none, []⟩,
 ⟨some 1, .load N.zc (T 0), 0, none, []⟩,
 ⟨some (11+100), .assign (T 1), 0, none, []⟩]) (
 .ops [
 ⟨some 0, .move (V 1), 0, none, []⟩,
 ⟨some 1, .move (V 11), 0, none, []⟩,
 ⟨some 2, .move (V 0), 0, none, []⟩,
 ⟨some 3, .nilCheck (T 2), 0, none, []⟩,
 ⟨some 4, .fieldAddr N.zcq (T 3) 0, 0, none, []⟩,
 ⟨some 5, .load N.zz (T 4), 0, none, []⟩,
 ⟨some 6, .move (V 11), 0, none, []⟩,
 ⟨some 7, .lookup N.zz (T 5) (T 6) false, 0, none, []⟩,
 ⟨some 8, .call ⟨.value (T 0), #[T 1, T 7], #[N.zc, N.za]⟩, N.t_, none, []⟩]))) (
 .ops [
 ⟨some 0, .binOp .add N.ze (V 9) (.const (.int .i64 1)) N.ze, 0, none, []⟩,
 ⟨some (9+100), .move (T 0), 0, none, []⟩]))))))))))
def zmn (N : Nums) : C :=
 .seq (
 .ops [
 ⟨some (3+100), .assign (.const (.bool false)), 0, none, []⟩]) (
 .seq (
 .draw [
 ⟨some 0, .load N.zav (V 2), 0, none, []⟩,
 ⟨some 1, .move (V 0), 0, none, []⟩,
 ⟨some 2, .indexAddr N.zav (T 0) (T 1), 0, none, [0, 1]⟩,
 ⟨some 3, .load N.zc (T 2), 0, none, [2]⟩,
 ⟨some 4, .load N.zav (V 2), 0, none, []⟩,
 ⟨some 5, .move (V 1), 0, none, []⟩,
 ⟨some 6, .indexAddr N.zav (T 4) (T 5), 0, none, [4, 5]⟩,
 ⟨some 7, .load N.zc (T 6), 0, none, [6]⟩,
 ⟨some 8, .binOp .lss N.zc (T 3) (T 7) N.zc, 0, none, [3, 7]⟩,
 ⟨some (3+100), .assign (T 8), 0, none, [8, 0, 1, 2, 3, 4, 5, 6, 7, 8]⟩]) (
 .ret))
def c_sorted (N : Nums) : C :=
 .seq (
 .ops [
 ⟨some 0, .move (V 0), 0, none, []⟩,
 ⟨some (1+100), .call ⟨.builtin .len, #[T 0], #[N.zbt]⟩, N.ze, none, []⟩,
 ⟨some (2+100), .move (.const (.int .i64 0)), 0, none, []⟩]) (
 .block 0 (
 .loop (
 .seq (
 .ops [
 ⟨some (3+100), .binOp .lss N.ze (V 2) (V 1) N.ze, 0, none, []⟩]) (
 .seq (
 .cond 3 (
 .skip) (
 .exit 0)) (
 .seq (
 .block 1 (
 .seq (
 .ops [
 ⟨some 0, .move (V 2), 0, none, []⟩,
 ⟨some (4+100), .assign (T 0), 0, none, []⟩]) (
 .seq (
 .ops [
 ⟨some 0, .move (V 4), 0, none, []⟩,
 ⟨some (5+100), .assign (T 0), 0, none, []⟩]) (
 .block 2 (
 .loop (
 .seq (
 .seq (
 .draw [
 ⟨some 0, .move (V 5), 0, none, []⟩,
 ⟨some 1, .binOp .gtr N.ze (T 0) (.const (.int .i64 0)) N.ze, 0, none, [0]⟩,
 ⟨some 2, .move (T 1), 0, none, [1]⟩,
 ⟨some 3, .move (V 0), 0, (some (some 2, true)), [2]⟩,
 ⟨some 4, .move (V 5), 0, (some (some 2, true)), [2]⟩,
 ⟨some 5, .indexAddr N.zbt (T 3) (T 4), 0, (some (some 2, true)), [3, 4, 2]⟩,
 ⟨some 6, .fieldAddr N.zcr (T 5) 0, 0, (some (some 2, true)), [5, 2]⟩,
 ⟨some 7, .load N.zc (T 6), 0, (some (some 2, true)), [6, 2]⟩,
 ⟨some 8, .move (V 0), 0, (some (some 2, true)), [2]⟩,
 ⟨some 9, .move (V 5), 0, (some (some 2, true)), [2]⟩,
 ⟨some 10, .binOp .sub N.ze (T 9) (.const (.int .i64 1)) N.ze, 0, (some (some 2, true)), [9, 2]⟩,
 ⟨some 11, .indexAddr N.zbt (T 8) (T 10), 0, (some (some 2, true)), [8, 10, 2]⟩,
 ⟨some 12, .fieldAddr N.zcr (T 11) 0, 0, (some (some 2, true)), [11, 2]⟩,
 ⟨some 13, .load N.zc (T 12), 0, (some (some 2, true)), [12, 2]⟩,
 ⟨some 14, .binOp .lss N.zc (T 7) (T 13) N.zc, 0, (some (some 2, true)), [7, 13, 2]⟩,
 ⟨some (6+100), .pick (T 2) (T 14) (.const (.bool false)), 0, none, [2, 14]⟩]) (
 .cond 6 (
 .skip) (
 .exit 2))) (
 .seq (
 .block 3 (
 .draw [
 ⟨some 0, .move (V 0), 0, none, []⟩,
 ⟨some 1, .move (V 5), 0, none, []⟩,
 ⟨some 2, .move (V 0), 0, none, []⟩,
 ⟨some 3, .move (V 5), 0, none, []⟩,
 ⟨some 4, .binOp .sub N.ze (T 3) (.const (.int .i64 1)) N.ze, 0, none, [3]⟩,
 ⟨some 5, .move (V 0), 0, none, []⟩,
 ⟨some 6, .move (V 5), 0, none, []⟩,
 ⟨some 7, .binOp .sub N.ze (T 6) (.const (.int .i64 1)) N.ze, 0, none, [6]⟩,
 ⟨some 8, .indexAddr N.zbt (T 5) (T 7), 0, none, [5, 7]⟩,
 ⟨some 9, .load N.zcr (T 8), 0, none, [8]⟩,
 ⟨some 10, .move (V 0), 0, none, []⟩,
 ⟨some 11, .move (V 5), 0, none, []⟩,
 ⟨some 12, .indexAddr N.zbt (T 10) (T 11), 0, none, [10, 11]⟩,
 ⟨some 13, .load N.zcr (T 12), 0, none, [12]⟩,
 ⟨some 14, .indexAddr N.zbt (T 0) (T 1), 0, none, [0, 1, 0, 1, 5, 6, 7, 8, 9, 13]⟩,
 ⟨none, .store N.zcr (T 14) (T 9), 0, none, [14, 9, 0, 1, 5, 6, 7, 8, 9, 13]⟩,
 ⟨some 15, .indexAddr N.zbt (T 2) (T 4), 0, none, [2, 4, 0, 1, 2, 3, 4, 5, 6, 7, 8, 9, 10, 11, 12, 13, 14, 15]⟩,
 ⟨none, .store N.zcr (T 15) (T 13), 0, none, [16, 13, 15, 0, 1, 2, 3, 4, 5, 6, 7, 8, 9, 10, 11, 12, 13, 14, 15]⟩])) (
 .ops [
 ⟨some 0, .move (V 5), 0, none, []⟩,
 ⟨some 1, .binOp .sub N.ze (T 0) (.const (.int .i64 1)) N.ze, 0, none, []⟩,
 ⟨some (5+100), .assign (T 1), 0, none, []⟩])))))))) (
 .ops [
 ⟨some 0, .binOp .add N.ze (V 2) (.const (.int .i64 1)) N.ze, 0, none, []⟩,
 ⟨some (2+100), .move (T 0), 0, none, []⟩]))))))
def c_boolTree (N : Nums) : C :=
 .seq (
 .ops [
 ⟨some (1+100), .alloc N.zaa, 0, none, []⟩]) (
 .seq (
 .seq (
 .ops [
 ⟨some (2+100), .move (V 0), 0, none, []⟩]) (
 .cond 2 (
 .seq (
 .ops [
 ⟨some 0, .build N.zaa #[(0, (.const (.int .i64 1)))], 0, none, []⟩,
 ⟨none, .store N.zaa (V 1) (T 0), 0, none, []⟩]) (
 .ret)) (
 .skip))) (
 .seq (
 .ops [
 ⟨some 0, .build N.zaa #[], 0, none, []⟩,
 ⟨none, .store N.zaa (V 1) (T 0), 0, none, []⟩]) (
 .ret)))
def c_textTree (N : Nums) : C :=
 .seq (
 .ops [
 ⟨some (1+100), .alloc N.zaa, 0, none, []⟩]) (
 .seq (
 .seq (
 .ops [
 ⟨some 0, .move (V 0), 0, none, []⟩,
 ⟨some (2+100), .binOp .eql N.zay (T 0) (.const (.pointer none)) N.zay, 0, none, []⟩]) (
 .cond 2 (
 .seq (
 .ops [
 ⟨some 0, .build N.zaa #[(2, (.const (.bool true)))], 0, none, []⟩,
 ⟨none, .store N.zaa (V 1) (T 0), 0, none, []⟩]) (
 .ret)) (
 .skip))) (
 .seq (
 .ops [
 ⟨some 0, .move (V 0), 0, none, []⟩,
 ⟨some 1, .nilCheck (T 0), 0, none, []⟩,
 ⟨some 2, .load N.zal (T 1), 0, none, []⟩,
 ⟨some 3, .convert N.zal N.za (T 2), 0, none, []⟩,
 ⟨some 4, .build N.zaa #[(1, (T 3))], 0, none, []⟩,
 ⟨none, .store N.zaa (V 1) (T 4), 0, none, []⟩]) (
 .ret)))
def zwd (N : Nums) : C :=
 .seq (
 .ops [
 ⟨some (1+100), .alloc N.zaa, 0, none, []⟩]) (
 .seq (
 .ops [
 ⟨some 0, .move (V 0), 0, none, []⟩,
 ⟨some 1, .call ⟨.builtin .append, #[(.const (.slice none 0 0)), (T 0)], #[N.za, N.za]⟩, N.za, none, []⟩,
 ⟨some 2, .move (V 0), 0, none, []⟩,
 ⟨some 3, .binOp .eql N.za (T 2) (.const (.slice none 0 0)) N.za, 0, none, []⟩,
 ⟨some 4, .build N.zaa #[(1, (T 1)), (2, (T 3))], 0, none, []⟩,
 ⟨none, .store N.zaa (V 1) (T 4), 0, none, []⟩]) (
 .ret))
def zqz (N : Nums) : C :=
 .seq (
 .ops [
 ⟨some (2+100), .assign (.const (.bool false)), 0, none, []⟩]) (
 .seq (
 .seq (
 .ops [
 ⟨some 0, .move (V 0), 0, none, []⟩,
 ⟨some 1, .call ⟨.builtin .len, #[T 0], #[N.za]⟩, N.ze, none, []⟩,
 ⟨some 2, .move (V 1), 0, none, []⟩,
 ⟨some 3, .call ⟨.builtin .len, #[T 2], #[N.za]⟩, N.ze, none, []⟩,
 ⟨some (3+100), .binOp .neq N.ze (T 1) (T 3) N.ze, 0, none, []⟩]) (
 .cond 3 (
 .seq (
 .ops [
 ⟨some (2+100), .assign (.const (.bool false)), 0, none, []⟩]) (
 .ret)) (
 .skip))) (
 .seq (
 .seq (
 .ops [
 ⟨some 0, .move (V 0), 0, none, []⟩,
 ⟨some (4+100), .call ⟨.builtin .len, #[T 0], #[N.za]⟩, N.ze, none, []⟩,
 ⟨some (5+100), .move (.const (.int .i64 0)), 0, none, []⟩]) (
 .block 0 (
 .loop (
 .seq (
 .ops [
 ⟨some (6+100), .binOp .lss N.ze (V 5) (V 4) N.ze, 0, none, []⟩]) (
 .seq (
 .cond 6 (
 .skip) (
 .exit 0)) (
 .seq (
 .block 1 (
 .seq (
 .ops [
 ⟨some 0, .move (V 5), 0, none, []⟩,
 ⟨some (7+100), .assign (T 0), 0, none, []⟩]) (
 .seq (
 .draw [
 ⟨some 0, .move (V 0), 0, none, []⟩,
 ⟨some 1, .move (V 7), 0, none, []⟩,
 ⟨some 2, .indexAddr N.za (T 0) (T 1), 0, none, [0, 1]⟩,
 ⟨some 3, .load N.zk (T 2), 0, none, [2]⟩,
 ⟨some 4, .move (V 1), 0, none, []⟩,
 ⟨some 5, .move (V 7), 0, none, []⟩,
 ⟨some 6, .indexAddr N.za (T 4) (T 5), 0, none, [4, 5]⟩,
 ⟨some 7, .load N.zk (T 6), 0, none, [6]⟩,
 ⟨some (8+100), .binOp .neq N.zk (T 3) (T 7) N.zk, 0, none, [3, 7]⟩]) (
 .cond 8 (
 .seq (
 .ops [
 ⟨some (2+100), .assign (.const (.bool false)), 0, none, []⟩]) (
 .ret)) (
 .skip))))) (
 .ops [
 ⟨some 0, .binOp .add N.ze (V 5) (.const (.int .i64 1)) N.ze, 0, none, []⟩,
 ⟨some (5+100), .move (T 0), 0, none, []⟩]))))))) (
 .seq (
 .ops [
 ⟨some (2+100), .assign (.const (.bool true)), 0, none, []⟩]) (
 .ret))))
def zqy (N : Nums) : C :=
 .seq (
 .ops [
 ⟨some (2+100), .box N.zb (V 0), 0, none, []⟩,
 ⟨some (3+100), .box N.zb (V 1), 0, none, []⟩,
 ⟨some (4+100), .assign (.const (.bool false)), 0, none, []⟩]) (
 .seq (
 .seq (
 .ops [
 ⟨some 0, .fieldAddr N.zb (V 2) 0, 0, none, []⟩,
 ⟨some 1, .load N.zbn (T 0), 0, none, []⟩,
 ⟨some 2, .fieldAddr N.zb (V 3) 0, 0, none, []⟩,
 ⟨some 3, .load N.zbn (T 2), 0, none, []⟩,
 ⟨some 4, .binOp .neq N.zbn (T 1) (T 3) N.zbn, 0, none, []⟩,
 ⟨some 5, .move (T 4), 0, none, []⟩,
 ⟨some 6, .fieldAddr N.zb (V 2) 2, 0, (some (some 5, false)), []⟩,
 ⟨some 7, .load N.zaq (T 6), 0, (some (some 5, false)), []⟩,
 ⟨some 8, .fieldAddr N.zb (V 3) 2, 0, (some (some 5, false)), []⟩,
 ⟨some 9, .load N.zaq (T 8), 0, (some (some 5, false)), []⟩,
 ⟨some 10, .binOp .neq N.zaq (T 7) (T 9) N.zaq, 0, (some (some 5, false)), []⟩,
 ⟨some 11, .pick (T 5) (.const (.bool true)) (T 10), 0, none, []⟩,
 ⟨some 12, .move (T 11), 0, none, []⟩,
 ⟨some 13, .fieldAddr N.zb (V 2) 1, 0, (some (some 12, false)), []⟩,
 ⟨some 14, .load N.za (T 13), 0, (some (some 12, false)), []⟩,
 ⟨some 15, .fieldAddr N.zb (V 3) 1, 0, (some (some 12, false)), []⟩,
 ⟨some 16, .load N.za (T 15), 0, (some (some 12, false)), []⟩,
 ⟨some 17, .call ⟨.value (.func N.zec), #[T 14, T 16], #[N.za, N.za]⟩, N.zaq, (some (some 12, false)), []⟩,
 ⟨some 18, .unOp .not N.zaq (T 17), 0, (some (some 12, false)), []⟩,
 ⟨some 19, .pick (T 12) (.const (.bool true)) (T 18), 0, none, []⟩,
 ⟨some 20, .move (T 19), 0, none, []⟩,
 ⟨some 21, .fieldAddr N.zb (V 2) 3, 0, (some (some 20, false)), []⟩,
 ⟨some 22, .load N.zj (T 21), 0, (some (some 20, false)), []⟩,
 ⟨some 23, .call ⟨.builtin .len, #[T 22], #[N.zj]⟩, N.ze, (some (some 20, false)), []⟩,
 ⟨some 24, .fieldAddr N.zb (V 3) 3, 0, (some (some 20, false)), []⟩,
 ⟨some 25, .load N.zj (T 24), 0, (some (some 20, false)), []⟩,
 ⟨some 26, .call ⟨.builtin .len, #[T 25], #[N.zj]⟩, N.ze, (some (some 20, false)), []⟩,
 ⟨some 27, .binOp .neq N.ze (T 23) (T 26) N.ze, 0, (some (some 20, false)), []⟩,
 ⟨some 28, .pick (T 20) (.const (.bool true)) (T 27), 0, none, []⟩,
 ⟨some 29, .move (T 28), 0, none, []⟩,
 ⟨some 30, .fieldAddr N.zb (V 2) 4, 0, (some (some 29, false)), []⟩,
 ⟨some 31, .load N.zi (T 30), 0, (some (some 29, false)), []⟩,
 ⟨some 32, .call ⟨.builtin .len, #[T 31], #[N.zi]⟩, N.ze, (some (some 29, false)), []⟩,
 ⟨some 33, .fieldAddr N.zb (V 3) 4, 0, (some (some 29, false)), []⟩,
 ⟨some 34, .load N.zi (T 33), 0, (some (some 29, false)), []⟩,
 ⟨some 35, .call ⟨.builtin .len, #[T 34], #[N.zi]⟩, N.ze, (some (some 29, false)), []⟩,
 ⟨some 36, .binOp .neq N.ze (T 32) (T 35) N.ze, 0, (some (some 29, false)), []⟩,
 ⟨some (5+100), .pick (T 29) (.const (.bool true)) (T 36), 0, none, []⟩]) (
 .cond 5 (
 .seq (
 .ops [
 ⟨some (4+100), .assign (.const (.bool false)), 0, none, []⟩]) (
 .ret)) (
 .skip))) (
 .seq (
 .seq (
 .ops [
 ⟨some 0, .fieldAddr N.zb (V 2) 3, 0, none, []⟩,
 ⟨some 1, .load N.zj (T 0), 0, none, []⟩,
 ⟨some (6+100), .call ⟨.builtin .len, #[T 1], #[N.zj]⟩, N.ze, none, []⟩,
 ⟨some (7+100), .move (.const (.int .i64 0)), 0, none, []⟩]) (
 .block 0 (
 .loop (
 .seq (
 .ops [
 ⟨some (8+100), .binOp .lss N.ze (V 7) (V 6) N.ze, 0, none, []⟩]) (
 .seq (
 .cond 8 (
 .skip) (
 .exit 0)) (
 .seq (
 .block 1 (
 .seq (
 .ops [
 ⟨some 0, .move (V 7), 0, none, []⟩,
 ⟨some (9+100), .assign (T 0), 0, none, []⟩]) (
 .seq (
 .draw [
 ⟨some 0, .fieldAddr N.zb (V 2) 3, 0, none, []⟩,
 ⟨some 1, .load N.zj (T 0), 0, none, [0]⟩,
 ⟨some 2, .move (V 9), 0, none, []⟩,
 ⟨some 3, .indexAddr N.zj (T 1) (T 2), 0, none, [1, 2]⟩,
 ⟨some 4, .load N.zb (T 3), 0, none, [3]⟩,
 ⟨some 5, .fieldAddr N.zb (V 3) 3, 0, none, []⟩,
 ⟨some 6, .load N.zj (T 5), 0, none, [5]⟩,
 ⟨some 7, .move (V 9), 0, none, []⟩,
 ⟨some 8, .indexAddr N.zj (T 6) (T 7), 0, none, [6, 7]⟩,
 ⟨some 9, .load N.zb (T 8), 0, none, [8]⟩,
 ⟨some 10, .call ⟨.value (.func N.zix), #[T 4, T 9], #[N.zb, N.zb]⟩, N.zaq, none, [4, 9]⟩,
 ⟨some (10+100), .unOp .not N.zaq (T 10), 0, none, [10]⟩]) (
 .cond 10 (
 .seq (
 .ops [
 ⟨some (4+100), .assign (.const (.bool false)), 0, none, []⟩]) (
 .ret)) (
 .skip))))) (
 .ops [
 ⟨some 0, .binOp .add N.ze (V 7) (.const (.int .i64 1)) N.ze, 0, none, []⟩,
 ⟨some (7+100), .move (T 0), 0, none, []⟩]))))))) (
 .seq (
 .seq (
 .ops [
 ⟨some 0, .fieldAddr N.zb (V 2) 4, 0, none, []⟩,
 ⟨some 1, .load N.zi (T 0), 0, none, []⟩,
 ⟨some (11+100), .call ⟨.builtin .len, #[T 1], #[N.zi]⟩, N.ze, none, []⟩,
 ⟨some (12+100), .move (.const (.int .i64 0)), 0, none, []⟩]) (
 .block 2 (
 .loop (
 .seq (
 .ops [
 ⟨some (13+100), .binOp .lss N.ze (V 12) (V 11) N.ze, 0, none, []⟩]) (
 .seq (
 .cond 13 (
 .skip) (
 .exit 2)) (
 .seq (
 .block 3 (
 .seq (
 .ops [
 ⟨some 0, .move (V 12), 0, none, []⟩,
 ⟨some (14+100), .assign (T 0), 0, none, []⟩]) (
 .seq (
 .draw [
 ⟨some 0, .fieldAddr N.zb (V 2) 4, 0, none, []⟩,
 ⟨some 1, .load N.zi (T 0), 0, none, [0]⟩,
 ⟨some 2, .move (V 14), 0, none, []⟩,
 ⟨some 3, .indexAddr N.zi (T 1) (T 2), 0, none, [1, 2]⟩,
 ⟨some 4, .fieldAddr N.zy (T 3) 0, 0, none, [3]⟩,
 ⟨some 5, .load N.zc (T 4), 0, none, [4]⟩,
 ⟨some 6, .fieldAddr N.zb (V 3) 4, 0, none, []⟩,
 ⟨some 7, .load N.zi (T 6), 0, none, [6]⟩,
 ⟨some 8, .move (V 14), 0, none, []⟩,
 ⟨some 9, .indexAddr N.zi (T 7) (T 8), 0, none, [7, 8]⟩,
 ⟨some 10, .fieldAddr N.zy (T 9) 0, 0, none, [9]⟩,
 ⟨some 11, .load N.zc (T 10), 0, none, [10]⟩,
 ⟨some 12, .binOp .neq N.zc (T 5) (T 11) N.zc, 0, none, [5, 11]⟩,
 ⟨some 13, .move (T 12), 0, none, [12]⟩,
 ⟨some 14, .fieldAddr N.zb (V 2) 4, 0, (some (some 13, false)), [13]⟩,
 ⟨some 15, .load N.zi (T 14), 0, (some (some 13, false)), [14, 13]⟩,
 ⟨some 16, .move (V 14), 0, (some (some 13, false)), [13]⟩,
 ⟨some 17, .indexAddr N.zi (T 15) (T 16), 0, (some (some 13, false)), [15, 16, 13]⟩,
 ⟨some 18, .fieldAddr N.zy (T 17) 1, 0, (some (some 13, false)), [17, 13]⟩,
 ⟨some 19, .load N.za (T 18), 0, (some (some 13, false)), [18, 13]⟩,
 ⟨some 20, .fieldAddr N.zb (V 3) 4, 0, (some (some 13, false)), [13]⟩,
 ⟨some 21, .load N.zi (T 20), 0, (some (some 13, false)), [20, 13]⟩,
 ⟨some 22, .move (V 14), 0, (some (some 13, false)), [13]⟩,
 ⟨some 23, .indexAddr N.zi (T 21) (T 22), 0, (some (some 13, false)), [21, 22, 13]⟩,
 ⟨some 24, .fieldAddr N.zy (T 23) 1, 0, (some (some 13, false)), [23, 13]⟩,
 ⟨some 25, .load N.za (T 24), 0, (some (some 13, false)), [24, 13]⟩,
 ⟨some 26, .call ⟨.value (.func N.zec), #[T 19, T 25], #[N.za, N.za]⟩, N.zaq, (some (some 13, false)), [19, 25, 13, 13]⟩,
 ⟨some 27, .unOp .not N.zaq (T 26), 0, (some (some 13, false)), [26, 13]⟩,
 ⟨some (15+100), .pick (T 13) (.const (.bool true)) (T 27), 0, none, [13, 27]⟩]) (
 .cond 15 (
 .seq (
 .ops [
 ⟨some (4+100), .assign (.const (.bool false)), 0, none, []⟩]) (
 .ret)) (
 .skip))))) (
 .ops [
 ⟨some 0, .binOp .add N.ze (V 12) (.const (.int .i64 1)) N.ze, 0, none, []⟩,
 ⟨some (12+100), .move (T 0), 0, none, []⟩]))))))) (
 .seq (
 .ops [
 ⟨some (4+100), .assign (.const (.bool true)), 0, none, []⟩]) (
 .ret)))))
def zwb (N : Nums) : C :=
 .seq (
 .ops [
 ⟨some (2+100), .assign (.const (.int .i64 0)), 0, none, []⟩]) (
 .seq (
 .ops [
 ⟨some 0, .move (V 0), 0, none, []⟩,
 ⟨some 1, .convert N.zk N.ze (T 0), 0, none, []⟩,
 ⟨some 2, .move (V 1), 0, none, []⟩,
 ⟨some 3, .binOp .add N.ze (T 2) (.const (.int .i64 1)) N.ze, 0, none, []⟩,
 ⟨some 4, .binOp .rem N.ze (T 1) (T 3) N.ze, 0, none, []⟩,
 ⟨some (2+100), .assign (T 4), 0, none, []⟩]) (
 .ret))
def c_got (N : Nums) : C :=
 .seq (
 .ops [
 ⟨some (1+100), .box N.zaa (V 0), 0, none, []⟩,
 ⟨some (2+100), .alloc N.zb, 0, none, []⟩]) (
 .seq (
 .ops [
 ⟨some 0, .fieldAddr N.zaa (V 1) 0, 0, none, []⟩,
 ⟨some 1, .load N.zbn (T 0), 0, none, []⟩,
 ⟨some 2, .fieldAddr N.zaa (V 1) 1, 0, none, []⟩,
 ⟨some 3, .load N.za (T 2), 0, none, []⟩,
 ⟨some 4, .fieldAddr N.zaa (V 1) 2, 0, none, []⟩,
 ⟨some 5, .load N.zaq (T 4), 0, none, []⟩,
 ⟨some 6, .build N.zb #[(0, (T 1)), (1, (T 3)), (2, (T 5))], 0, none, []⟩,
 ⟨some (3+100), .alloc N.zb, 0, none, []⟩,
 ⟨none, .store N.zb (V 3) (T 6), 0, none, []⟩]) (
 .seq (
 .seq (
 .ops [
 ⟨some 0, .fieldAddr N.zaa (V 1) 3, 0, none, []⟩,
 ⟨some (4+100), .load N.zbh (T 0), 0, none, []⟩,
 ⟨some (5+100), .call ⟨.builtin .len, #[V 4], #[N.zbh]⟩, N.ze, none, []⟩,
 ⟨some (6+100), .move (.const (.int .i64 0)), 0, none, []⟩]) (
 .block 0 (
 .loop (
 .seq (
 .ops [
 ⟨some (7+100), .binOp .lss N.ze (V 6) (V 5) N.ze, 0, none, []⟩]) (
 .seq (
 .cond 7 (
 .skip) (
 .exit 0)) (
 .seq (
 .block 1 (
 .seq (
 .ops [
 ⟨some 0, .indexAddr N.zbh (V 4) (V 6), 0, none, []⟩,
 ⟨some 1, .load N.zaa (T 0), 0, none, []⟩,
 ⟨some (8+100), .alloc N.zaa, 0, none, []⟩,
 ⟨none, .store N.zaa (V 8) (T 1), 0, none, []⟩]) (
 .draw [
 ⟨some 0, .fieldAddr N.zb (V 3) 3, 0, none, []⟩,
 ⟨some 1, .load N.zj (T 0), 0, none, [0]⟩,
 ⟨some 2, .load N.zaa (V 8), 0, none, []⟩,
 ⟨some 3, .call ⟨.value (.func N.zrr), #[T 2], #[N.zaa]⟩, N.zb, none, [2]⟩,
 ⟨some 4, .buildSlice N.zj 1 #[(0, (T 3))], 0, none, [3]⟩,
 ⟨some 5, .call ⟨.builtin .append, #[T 1, T 4], #[N.zj, N.zj]⟩, N.zj, none, [1, 4, 3]⟩,
 ⟨some 6, .fieldAddr N.zb (V 3) 3, 0, none, [0, 1, 2, 3, 4, 5]⟩,
 ⟨none, .store N.zj (T 6) (T 5), 0, none, [6, 5, 5, 0, 1, 2, 3, 4, 5]⟩]))) (
 .ops [
 ⟨some 0, .binOp .add N.ze (V 6) (.const (.int .i64 1)) N.ze, 0, none, []⟩,
 ⟨some (6+100), .move (T 0), 0, none, []⟩]))))))) (
 .seq (
 .seq (
 .ops [
 ⟨some 0, .fieldAddr N.zaa (V 1) 4, 0, none, []⟩,
 ⟨some (9+100), .load N.zbt (T 0), 0, none, []⟩,
 ⟨some (10+100), .call ⟨.builtin .len, #[V 9], #[N.zbt]⟩, N.ze, none, []⟩,
 ⟨some (11+100), .move (.const (.int .i64 0)), 0, none, []⟩]) (
 .block 2 (
 .loop (
 .seq (
 .ops [
 ⟨some (12+100), .binOp .lss N.ze (V 11) (V 10) N.ze, 0, none, []⟩]) (
 .seq (
 .cond 12 (
 .skip) (
 .exit 2)) (
 .seq (
 .block 3 (
 .seq (
 .ops [
 ⟨some 0, .indexAddr N.zbt (V 9) (V 11), 0, none, []⟩,
 ⟨some 1, .load N.zcr (T 0), 0, none, []⟩,
 ⟨some (13+100), .alloc N.zcr, 0, none, []⟩,
 ⟨none, .store N.zcr (V 13) (T 1), 0, none, []⟩]) (
 .ops [
 ⟨some 0, .fieldAddr N.zb (V 3) 4, 0, none, []⟩,
 ⟨some 1, .load N.zi (T 0), 0, none, []⟩,
 ⟨some 2, .fieldAddr N.zcr (V 13) 0, 0, none, []⟩,
 ⟨some 3, .load N.zc (T 2), 0, none, []⟩,
 ⟨some 4, .fieldAddr N.zcr (V 13) 1, 0, none, []⟩,
 ⟨some 5, .load N.za (T 4), 0, none, []⟩,
 ⟨some 6, .build N.zy #[(0, (T 3)), (1, (T 5))], 0, none, []⟩,
 ⟨some 7, .buildSlice N.zi 1 #[(0, (T 6))], 0, none, []⟩,
 ⟨some 8, .call ⟨.builtin .append, #[T 1, T 7], #[N.zi, N.zi]⟩, N.zi, none, []⟩,
 ⟨some 9, .fieldAddr N.zb (V 3) 4, 0, none, []⟩,
 ⟨none, .store N.zi (T 9) (T 8), 0, none, []⟩]))) (
 .ops [
 ⟨some 0, .binOp .add N.ze (V 11) (.const (.int .i64 1)) N.ze, 0, none, []⟩,
 ⟨some (11+100), .move (T 0), 0, none, []⟩]))))))) (
 .seq (
 .ops [
 ⟨some 0, .load N.zb (V 3), 0, none, []⟩,
 ⟨none, .store N.zb (V 2) (T 0), 0, none, []⟩]) (
 .ret)))))
inductive R where
 | var (i : Nat)
 | cell (i : Nat) (t : TypeId)
def res1B (loc : List Nat) (N : Nat) : ResultVar → R → Bool
 | .tmp t, .var i => decide (zlh loc t = some i) && Nat.blt t N
 | .cell a t, .cell i u => decide (zlh loc a = some i) && Nat.blt a N && Nat.beq t u
 | _, _ => false
def resB (loc : List Nat) (N : Nat) : List ResultVar → List R → Bool
 | [], [] => true
 | x :: xs, r :: rs => res1B loc N x r && resB loc N xs rs
 | _, _ => false
def locB (loc : List Nat) (N np : Nat) : Bool := loc.all (fun t => Nat.blt t N) && (List.range np).all fun i => decide (zlh loc i = some i)
structure zhy (loc : List Nat) (N : Nat) : Prop where
 lt : ∀ i s : Nat, loc[i]? = some s → s < N
structure FOk (P : Program) (f : FuncId) (np : Nat) (c : C) (res : List R) : Prop where
 out : ∃ fn code loc, P.funcs[f]? = some fn ∧ fn.body = some code ∧ (fn.name == "runtime.NumGoroutine") = false ∧ er loc fn.ntmps code = some c ∧ np ≤ fn.ntmps ∧ locB loc fn.ntmps np = true ∧ resB loc fn.ntmps fn.results.toList res = true
theorem FOk.has {P : Program} {f : FuncId} {np : Nat} {c : C} {res : List R} (h : FOk P f np c res) : zdh P f := by
 obtain ⟨fn, code, loc, h1, h2, h3, _⟩ := h.out
 exact ⟨fn, h1, by rw [h2]; rfl, h3⟩
def Give1 (P : Program) : R → Env → World → Value → Prop
 | .var i, σ, _, v => v = σ i
 | .cell i t, σ, w, v => ∃ a, σ i = .pointer (some a) ∧ (loadVar t a).run P w = .ok v w
def Gives (P : Program) : List R → Env → World → Value → Prop
 | [], _, _, v => v = .tuple #[]
 | [r], σ, w, v => Give1 P r σ w v
 | [r, s], σ, w, v => ∃ a b, Give1 P r σ w a ∧ Give1 P s σ w b ∧ v = .tuple #[a, b]
 | _, _, _, _ => False
def Call (P : Program) (f : FuncId) (args : Array Value) (w : World) (Rt : Value → World → Prop) : Prop :=
 Calls P f args w fun e w' => ∃ v, e = .returned v ∧ Rt v w'
theorem Call.mono {P : Program} {f : FuncId} {args : Array Value} {w : World} {Rt Rt' : Value → World → Prop} (h : Call P f args w Rt) (hr : ∀ v w', Rt v w' → Rt' v w') : Call P f args w Rt' :=
 Calls.mono h fun _ w' ⟨v, he, hv⟩ => ⟨v, he, hr v w' hv⟩
def retQ (P : Program) (res : List R) (Rt : Value → World → Prop) : Exit → Env → World → Prop :=
 fun e σ w => (e = .normal ∨ e = .ret) ∧ ∃ v, Gives P res σ w v ∧ Rt v w
def zef (args : Array Value) : Env := fun i => args.getD i undef
section
variable (a b c d : Value)
theorem zkj : zef #[a] 0 = a := rfl
theorem zbm : zef #[a, b] 0 = a := rfl
theorem zcc : zef #[a, b] 1 = b := rfl
theorem zlw : zef #[a, b, c] 0 = a := rfl
theorem zgt : zef #[a, b, c] 1 = b := rfl
theorem zob : zef #[a, b, c] 2 = c := rfl
theorem zrg : zef #[a, b, c, d] 0 = a := rfl
theorem zoa : zef #[a, b, c, d] 1 = b := rfl
theorem znz : zef #[a, b, c, d] 2 = c := rfl
theorem zwh : zef #[a, b, c, d] 3 = d := rfl
end
theorem zms {P : Program} {loc : List Nat} {N : Nat} {a : Act} {σ : Env} {w : World} {v : Value} (hf : Fits loc N a σ) {x : ResultVar} {r : R} (hx : res1B loc N x r = true) (hv : Give1 P r σ w v) :
  ((match x with
  | .tmp t => pure (a.tmps.getD t undef)
  | .cell b t => do loadVar t (← asAddr (a.tmps.getD b undef))) : Sem Value).run P w = .ok v w := by
 cases x with
 | tmp t =>
  cases r with
  | var i =>
   simp only [res1B, Bool.and_eq_true, decide_eq_true_eq] at hx
   have := hf.at_ t i hx.1 (by simpa using hx.2)
   simp only [Give1] at hv
   subst hv
   simp only [Sem.run_pure, this]
  | cell i u => simp [res1B] at hx
 | cell b t =>
  cases r with
  | var i => simp [res1B] at hx
  | cell i u =>
   simp only [res1B, Bool.and_eq_true, decide_eq_true_eq] at hx
   have := hf.at_ b i hx.1.1 (by simpa using hx.1.2)
   have htu : t = u := by simpa using hx.2
   subst htu
   obtain ⟨ad, h1, h2⟩ := hv
   simp only [Sem.run_bind, this, h1, asAddr, Sem.run_pure, Result.andThen_ok, h2]
theorem zhm {α β γ : Type} (r : Result α) (f : α → World → Result β) (g : β → World → Result γ) : (r.andThen f).andThen g = r.andThen fun a w => (f a w).andThen g := by
 cases r <;> rfl
theorem zwy {P : Program} {loc : List Nat} {N : Nat} {a : Act} {σ : Env} {w : World} {v : Value} {fn : Func} (hf : Fits loc N a σ) {xs : List ResultVar} {res : List R} (hxs : fn.results = xs.toArray)
  (hb : resB loc N xs res = true) (hg : Gives P res σ w v) : (results fn a.tmps).run P w = .ok v w := by
 unfold results
 rw [hxs]
 rcases xs with _ | ⟨x, _ | ⟨y, _ | ⟨z, xs⟩⟩⟩
 ·rcases res with _ | ⟨r, res⟩
  ·simp only [Gives] at hg; subst hg; simp
  ·simp [resB] at hb
 ·rcases res with _ | ⟨r, _ | ⟨s, res⟩⟩
  ·simp [resB] at hb
  ·simp only [resB, Bool.and_true] at hb
   have := zms (P := P) hf hb hg
   cases x <;> simp_all
  ·simp [resB] at hb
 ·rcases res with _ | ⟨r, _ | ⟨s, _ | ⟨u, res⟩⟩⟩
  ·simp [resB] at hb
  ·simp [resB] at hb
  ·simp only [resB, Bool.and_true, Bool.and_eq_true] at hb
   obtain ⟨va, vb, ha, hb', rfl⟩ := hg
   have h1 := zms (P := P) hf hb.1 ha
   have h2 := zms (P := P) hf hb.2 hb'
   cases x <;> cases y <;> simp_all
   ·rw [← zhm, h2]; rfl
   ·rw [← zhm, h1]; simp
   ·rw [← zhm, h1]; simp only [Result.andThen_ok]; rw [← zhm, h2]; rfl
  ·simp [resB] at hb
 ·rcases res with _ | ⟨r, _ | ⟨s, _ | ⟨u, res⟩⟩⟩ <;> first | (simp [resB] at hb; done) | (simp [Gives] at hg)
theorem FOk.call {P : Program} {f : FuncId} {np : Nat} {c : C} {res : List R} (h : FOk P f np c res) {args : Array Value} (hsz : args.size = np) {w : World} {Rt : Value → World → Prop}
  (H : ∀ loc N, zhy loc N → W P loc N c (retQ P res Rt) (zef args) w) : Call P f args w Rt := by
 obtain ⟨fn, code, loc, h1, h2, _, h3, h4, h5, h6⟩ := h.out
 unfold locB at h5
 rw [Bool.and_eq_true, List.all_eq_true, List.all_eq_true] at h5
 have hlt : ∀ t ∈ loc, t < fn.ntmps := fun t ht => by simpa using h5.1 t ht
 have hid : ∀ i, i < np → zlh loc i = some i := fun i hi => by simpa using h5.2 i (List.mem_range.2 hi)
 have hlo : zhy loc fn.ntmps := ⟨fun i s hs => hlt s (List.mem_of_getElem? hs)⟩
 refine calls_of_W h1 h2 h3 (by omega) (zef args) (fun t i hl _ => ?_) (zpj (H loc fn.ntmps hlo) ?_)
 ·simp only [zef]
  by_cases ht : t < np
  ·have := hid t ht
   rw [hl] at this
   injection this with e
   rw [e]
  ·by_cases hi : i < np
   ·exact absurd (zvj hl (hid i hi)) (by omega)
   ·simp [Array.getD, show ¬ t < args.size by omega, show ¬ i < args.size by omega]
 ·rintro e σ w' ⟨he, v, hg, hR⟩
  refine ⟨he, v, fun a hf => ?_, v, rfl, hR⟩
  exact zwy hf (by simp) h6 hg
theorem zij {P : Program} {ρ : Env} {w : World} {K : Env → World → Prop} {d : Option Nat} {ty : TypeId} {af : List Nat} {f : FuncId} {xs : Array Operand} {ts : Array TypeId} (hf : zdh P f) :
  zbk P ⟨d, .call ⟨.value (.func f), xs, ts⟩, ty, none, af⟩ ρ w K = Call P f (xs.map (ev ρ)) w fun v w' => K (put ρ d v) w' := step_call hf
section
variable {P : Program} {ρ : Env} {w : World} {K : Env → World → Prop} {d : Option Nat} {ty : TypeId} {af : List Nat} {f : FuncId} {x y z u : Operand} {ts : Array TypeId}
theorem zjy (hf : zdh P f) : zbk P ⟨d, .call ⟨.value (.func f), #[], ts⟩, ty, none, af⟩ ρ w K = Call P f #[] w fun v w' => K (put ρ d v) w' := by rw [zij hf]; simp
theorem zbb (hf : zdh P f) : zbk P ⟨d, .call ⟨.value (.func f), #[x], ts⟩, ty, none, af⟩ ρ w K = Call P f #[ev ρ x] w fun v w' => K (put ρ d v) w' := by rw [zij hf]; simp
theorem zah (hf : zdh P f) : zbk P ⟨d, .call ⟨.value (.func f), #[x, y], ts⟩, ty, none, af⟩ ρ w K = Call P f #[ev ρ x, ev ρ y] w fun v w' => K (put ρ d v) w' := by rw [zij hf]; simp
theorem zdy (hf : zdh P f) : zbk P ⟨d, .call ⟨.value (.func f), #[x, y, z], ts⟩, ty, none, af⟩ ρ w K = Call P f #[ev ρ x, ev ρ y, ev ρ z] w fun v w' => K (put ρ d v) w' := by rw [zij hf]; simp
theorem zik (hf : zdh P f) : zbk P ⟨d, .call ⟨.value (.func f), #[x, y, z, u], ts⟩, ty, none, af⟩ ρ w K = Call P f #[ev ρ x, ev ρ y, ev ρ z, ev ρ u] w fun v w' => K (put ρ d v) w' := by rw [zij hf]; simp
end
@[congr] theorem Call_congr {P : Program} {f : FuncId} {args args' : Array Value} {w : World} {Rt : Value → World → Prop} (h : args = args') : Call P f args w Rt = Call P f args' w Rt := by rw [h]
structure Fns (P : Program) (N : Nums) : Prop where
 bigEndian_Uint16 : N.zdk ≠ 0 → FOk P N.zdk 2 (znv N) [.var 2]
 bigEndian_Uint32 : N.zfg ≠ 0 → FOk P N.zfg 2 (znu N) [.var 2]
 bigEndian_Uint64 : N.zff ≠ 0 → FOk P N.zff 2 (znt N) [.var 2]
 UnsafeString : N.zcv ≠ 0 → FOk P N.zcv 1 (zrt N) [.var 1]
 Uvarint : N.zno ≠ 0 → FOk P N.zno 1 (c_Uvarint N) [.var 1, .var 2]
 PReader_Bool : N.zjs ≠ 0 → FOk P N.zjs 1 (zrx N) [.var 1]
 PReader_Int8 : N.zga ≠ 0 → FOk P N.zga 1 (zrw N) [.var 1]
 PReader_Uint16 : N.zhz ≠ 0 → FOk P N.zhz 1 (zpo N) [.var 1] ∧ N.zdk ≠ 0
 PReader_Int16 : N.zca ≠ 0 → FOk P N.zca 1 (zrd N) [.var 1] ∧ N.zdk ≠ 0
 PReader_Int32 : N.zcx ≠ 0 → FOk P N.zcx 1 (zrc N) [.var 1] ∧ N.zfg ≠ 0
 PReader_readUint64 : N.zeq ≠ 0 → FOk P N.zeq 1 (zmh N) [.var 1] ∧ N.zff ≠ 0
 PReader_Int64 : N.zja ≠ 0 → FOk P N.zja 1 (zrb N) [.var 1] ∧ N.zeq ≠ 0
 PReader_Uuid : N.zhh ≠ 0 → FOk P N.zhh 1 (zru N) [.cell 1 N.zag] ∧ N.zai ≠ 0
 PReader_Uvarint : N.zan ≠ 0 → FOk P N.zan 1 (zot N) [.var 1] ∧ N.zno ≠ 0
 PReader_Span : N.zai ≠ 0 → FOk P N.zai 2 (zrv N) [.var 2]
 PReader_String : N.zeg ≠ 0 → FOk P N.zeg 1 (zpp N) [.var 1] ∧ N.zca ≠ 0 ∧ N.zai ≠ 0
 PReader_UnsafeString : N.zcl ≠ 0 → FOk P N.zcl 1 (zla N) [.var 1] ∧ N.zca ≠ 0 ∧ N.zai ≠ 0 ∧ N.zcv ≠ 0
 PReader_CompactString : N.zdt ≠ 0 → FOk P N.zdt 1 (zkv N) [.var 1] ∧ N.zai ≠ 0 ∧ N.zan ≠ 0
 PReader_UnsafeCompactString : N.zcp ≠ 0 → FOk P N.zcp 1 (zic N) [.var 1] ∧ N.zai ≠ 0 ∧ N.zan ≠ 0 ∧ N.zcv ≠ 0
 PReader_NullableString : N.zdl ≠ 0 → FOk P N.zdl 1 (zkg N) [.var 1] ∧ N.zca ≠ 0 ∧ N.zai ≠ 0
 PReader_UnsafeNullableString : N.zcj ≠ 0 → FOk P N.zcj 1 (zhw N) [.var 1] ∧ N.zca ≠ 0 ∧ N.zai ≠ 0 ∧ N.zcv ≠ 0
 PReader_CompactNullableString : N.zdb ≠ 0 → FOk P N.zdb 1 (zhe N) [.var 1] ∧ N.zai ≠ 0 ∧ N.zan ≠ 0
 PReader_UnsafeCompactNullableString : N.zch ≠ 0 → FOk P N.zch 1 (zfv N) [.var 1] ∧ N.zai ≠ 0 ∧ N.zan ≠ 0 ∧ N.zcv ≠ 0
 PReader_Bytes : N.zgo ≠ 0 → FOk P N.zgo 1 (zre N) [.var 1] ∧ N.zcx ≠ 0 ∧ N.zai ≠ 0
 PReader_CompactBytes : N.zfb ≠ 0 → FOk P N.zfb 1 (zlb N) [.var 1] ∧ N.zai ≠ 0 ∧ N.zan ≠ 0
 PReader_NullableBytes : N.zds ≠ 0 → FOk P N.zds 1 (zku N) [.var 1] ∧ N.zcx ≠ 0 ∧ N.zai ≠ 0
 PReader_CompactNullableBytes : N.zdj ≠ 0 → FOk P N.zdj 1 (zhx N) [.var 1] ∧ N.zai ≠ 0 ∧ N.zan ≠ 0
 PReader_ArrayLen : N.zel ≠ 0 → FOk P N.zel 1 (znx N) [.var 1] ∧ N.zcx ≠ 0
 PReader_CompactArrayLen : N.zeo ≠ 0 → FOk P N.zeo 1 (zju N) [.var 1] ∧ N.zan ≠ 0
 PReader_Complete : N.zfh ≠ 0 → FOk P N.zfh 1 (znw N) [.var 1]
 PReader_Ok : N.zjn ≠ 0 → FOk P N.zjn 1 (zwe N) [.var 1]
 PTags_Set : N.zdn ≠ 0 → FOk P N.zdn 3 (zra N) []
 internalReadTags : N.zgn ≠ 0 → FOk P N.zgn 1 (zns N) [.cell 1 N.zcq] ∧ N.zai ≠ 0 ∧ N.zan ≠ 0 ∧ N.zdn ≠ 0
 PTags_Each : N.zgk ≠ 0 → FOk P N.zgk 2 (zpi N) [] ∧ N.zcm ≠ 0 ∧ N.zgj ≠ 0
 PTags_Each_1 : N.zcm ≠ 0 → FOk P N.zcm 3 (zmn N) [.var 3]
 sorted : N.f_sorted ≠ 0 → FOk P N.f_sorted 1 (c_sorted N) []
 boolTree : N.zsp ≠ 0 → FOk P N.zsp 1 (c_boolTree N) [.cell 1 N.zaa]
 textTree : N.zso ≠ 0 → FOk P N.zso 1 (c_textTree N) [.cell 1 N.zaa]
 octetsTree : N.zpc ≠ 0 → FOk P N.zpc 1 (zwd N) [.cell 1 N.zaa]
 spec_Same : N.zec ≠ 0 → FOk P N.zec 2 (zqz N) [.var 2]
 spec_SameTree : N.zix ≠ 0 → FOk P N.zix 2 (zqy N) [.var 4] ∧ N.zec ≠ 0
 version : N.zke ≠ 0 → FOk P N.zke 2 (zwb N) [.var 2]
 got : N.zrr ≠ 0 → FOk P N.zrr 1 (c_got N) [.cell 2 N.zb]
structure SF (P : Program) (t : TypeId) (places : List (Nat × Nat)) (by' : Nat) (z : List Value) : Prop where
 out : ∃ fs, TI P t (.struct fs) z.length by' (.agg z.toArray) ∧ fs.toList.mapM (fun f => (P.info? f.type).map fun i => (f.offset, i.size)) = some places
theorem SF.run_build {P : Program} {t : TypeId} {places : List (Nat × Nat)} {by' : Nat} {z : List Value} (h : SF P t places by' z) {w : World} {parts : Array (Nat × Value)} {cells : Array Value} (hf : Instr.fill (places.toArray[·]?) z.toArray parts.toList = some cells) :
  (Instr.build t parts).run P w = .ok (.agg cells) w := by
 obtain ⟨fs, ht, hm⟩ := h.out
 obtain ⟨i, hi, _, _, hz⟩ := ht.info
 refine Go.run_build w t parts cells ?_
 unfold Program.built
 simp only [hi, ht.und, hz, hm]
 exact hf
structure Base (P : Program) (N : Nums) : Prop where
 mixed : P.follows .mixedOrders = true
 int8 : N.zjw ≠ 0 → TI P N.zjw (.int .i8) 1 1 (.int .i8 0)
 int16 : TI P N.zbd (.int .i16) 1 2 (.int .i16 0)
 int32 : TI P N.zbp (.int .i32) 1 4 (.int .i32 0)
 int64 : TI P N.zbn (.int .i64) 1 8 (.int .i64 0)
 int : TI P N.ze (.int .i64) 1 8 (.int .i64 0)
 uint8 : TI P N.zk (.int .u8) 1 1 (.int .u8 0)
 uint16 : TI P N.zed (.int .u16) 1 2 (.int .u16 0)
 uint32 : TI P N.zc (.int .u32) 1 4 (.int .u32 0)
 uint64 : TI P N.zad (.int .u64) 1 8 (.int .u64 0)
 bool : TI P N.zaq .bool 1 1 (.bool false)
 string : TI P N.zal .string 1 16 (.string ⟨#[]⟩)
 Lu8 : TI P N.za (.slice N.zk) 1 24 (.slice none 0 0)
 big : N.zbz ≠ 0 → TI P N.zbz (.struct #[]) 0 0 (.agg #[])
 error : N.zld ≠ 0 → ∃ ms, TI P N.zld (.interface ms) 1 16 .nilIface
 reader : N.zaf ≠ 0 → SF P N.zaf [(0, 1), (1, 1)] 32 [.slice none 0 0, .bool false]
 reader0 : N.zaf ≠ 0 → HF P N.zaf 0 0
 reader1 : N.zaf ≠ 0 → HF P N.zaf 1 1
 uuid : N.zag ≠ 0 → TI P N.zag (.array 16 N.zk) 16 16 (.agg (Array.replicate 16 (.int .u8 0)))
 pstring : N.zay ≠ 0 → TI P N.zay (.pointer N.zal) 1 8 (.pointer none)
 tags : N.zcq ≠ 0 → (∃ fs, TI P N.zcq (.struct fs) 1 8 (.agg #[.map none])) ∧ HF P N.zcq 0 0 ∧ TI P N.zz (.map N.zc N.za) 1 8 (.map none)
def zam (x : UInt8) : Value := .int .u8 x.toNat
def zum (w : World) (lo hi : Nat) (v : Value) (nl : Bool) (l : List UInt8) : Prop :=
 (nl = true ∧ v = .slice none 0 0 ∧ l = []) ∨ ∃ b o c, nl = false ∧ v = .slice (some ⟨b, o, none⟩) l.length c ∧ l.length ≤ c ∧ (l ≠ [] → lo ≤ b ∧ b < hi) ∧ w.rangeAt b o (l.map zam)
structure RS where
 l : List UInt8
 bad : Bool
 nl : Bool
structure RdAt (w : World) (lo hi r : Nat) (s : RS) : Prop where
 src : ∃ v, w.rangeAt r 0 [v, .bool s.bad] ∧ zum w lo hi v s.nl s.l
 there : w.there r 0 2
 hi_le : hi ≤ w.heap.size
 apart : r < lo ∨ hi ≤ r
def zxe (n : Nat) (f : List UInt8 → Value) (z : Value) (s : RS) : Value × RS :=
 if s.l.length < n then (z, ⟨[], true, true⟩) else (f (s.l.take n), ⟨s.l.drop n, s.bad, s.nl⟩)
theorem zum.mod {w w' : World} {M : Nat → Nat → Prop} (h : Mod w w' M) {lo hi : Nat} (hhi : hi ≤ w.heap.size) (hM : ∀ k o, lo ≤ k → k < hi → ¬ M k o) {v : Value} {nl : Bool} {l : List UInt8} (hb : zum w lo hi v nl l) : zum w' lo hi v nl l := by
 rcases hb with hb | ⟨b, o, c, h0, h1, h2, h34, h5⟩
 ·exact .inl hb
 ·refine .inr ⟨b, o, c, h0, h1, h2, h34, ?_⟩
  cases l with
  | nil => intro j v hj; simp at hj
  | cons x l =>
   obtain ⟨h3, h4⟩ := h34 (by simp)
   exact h.rangeAt (by omega) (fun i _ _ => hM b i h3 h4) h5
theorem runR_nil {P : Program} {ρ : Env} {w : World} {K : Env → World → Prop} : runR P [] ρ w K = K ρ w := rfl
theorem zvc {P : Program} {o : ROp} {r : List ROp} {ρ : Env} {w : World} {K : Env → World → Prop} : runR P (o :: r) ρ w K = zbk P o ρ w fun ρ w => runR P r ρ w K := rfl
theorem bE : type_of% (@zie) ∧ type_of% (@put_none) ∧ type_of% (@locs_def) ∧ type_of% (@envOf_var) ∧ type_of% (@zqs) ∧ type_of% (@sel_true) ∧ type_of% (@sel_false) := ⟨@zie, @put_none, @locs_def, @envOf_var, @zqs, @sel_true, @sel_false⟩
theorem bK : type_of% (@runR_nil) ∧ type_of% (@zvc) ∧ type_of% (@znc) ∧ type_of% (@zmq) ∧ type_of% (@zog) ∧ type_of% (@step_box) ∧ type_of% (@zjz) ∧ type_of% (@zio) ∧ type_of% (@zuu) ∧ type_of% (@zjx) ∧ type_of% (@zlz) ∧ type_of% (@zur) ∧ type_of% (@zjh) ∧ type_of% (@zsb) ∧ type_of% (@zhf) ∧ type_of% (@zgi) ∧ type_of% (@zmj) ∧ type_of% (@zow) ∧ type_of% (@ztg) ∧ type_of% (@zqf) ∧ type_of% (@run_box) ∧ type_of% (@run_lss) ∧ type_of% (@run_leq) ∧ type_of% (@run_gtr) ∧ type_of% (@run_geq) ∧ type_of% (@ztm) ∧ type_of% (@run_ineq) ∧ type_of% (@run_iadd) ∧ type_of% (@run_isub) ∧ type_of% (@run_not) ∧ type_of% (@run_pick) ∧ type_of% (@run_or) ∧ type_of% (@run_shl) ∧ type_of% (@zto) ∧ type_of% (@zpa) ∧ type_of% (@zoz) ∧ type_of% (@stepV_ok) ∧ type_of% (@stepU_ok) ∧ type_of% (@ev_tmp) ∧ type_of% (@ev_const) ∧ type_of% (@ev_global) ∧ type_of% (@ev_func) ∧ type_of% (@ldc_some) ∧ type_of% (@zkj) ∧ type_of% (@zbm) ∧ type_of% (@zcc) ∧ type_of% (@zlw) ∧ type_of% (@zgt) ∧ type_of% (@zob) ∧ type_of% (@zrg) ∧ type_of% (@zoa) ∧ type_of% (@znz) ∧ type_of% (@zwh) := ⟨@runR_nil, @zvc, @znc, @zmq, @zog, @step_box, @zjz, @zio, @zuu, @zjx, @zlz, @zur, @zjh, @zsb, @zhf, @zgi, @zmj, @zow, @ztg, @zqf, @run_box, @run_lss, @run_leq, @run_gtr, @run_geq, @ztm, @run_ineq, @run_iadd, @run_isub, @run_not, @run_pick, @run_or, @run_shl, @zto, @zpa, @zoz, @stepV_ok, @stepU_ok, @ev_tmp, @ev_const, @ev_global, @ev_func, @ldc_some, @zkj, @zbm, @zcc, @zlw, @zgt, @zob, @zrg, @zoa, @znz, @zwh⟩
def be (l : List UInt8) : Nat := l.foldl (fun a x => a * 256 + x.toNat) 0
theorem wrap_u32 (n : Nat) (h : n < 2 ^ 32) : IntKind.u32.wrap n = n := by
 simp [IntKind.wrap, IntKind.bits, IntKind.signed]; omega
theorem zly (n : Nat) (h : n < 2 ^ 64) : IntKind.u64.wrap n = n := by
 simp [IntKind.wrap, IntKind.bits, IntKind.signed]; omega
section
variable {P : Program} {N : Nums} {loc : List Nat} {N' : Nat} {Q : Exit → Env → World → Prop} {σ : Env} {w : World}
theorem zjj {ρ : Env} {k : Nat} {v : Value} (h : k < 100) : locs (put ρ (some k) v) = locs ρ := zei h
theorem RdAt.lt {lo hi r : Nat} {s : RS} (h : RdAt w lo hi r s) : r < w.heap.size := ztd h.there (by omega)
theorem RdAt.mod {w' : World} {M : Nat → Nat → Prop} {lo hi r : Nat} {s : RS} (h : RdAt w lo hi r s) (hm : Mod w w' M) (h1 : ∀ o, ¬ M r o) (h2 : ∀ k o, lo ≤ k → k < hi → ¬ M k o) : RdAt w' lo hi r s := by
 obtain ⟨v, h3, h4⟩ := h.src
 exact ⟨⟨v, hm.rangeAt h.lt (fun i _ _ => h1 i) h3, h4.mod hm h.hi_le h2⟩, hm.there h.lt h.there, Nat.le_trans h.hi_le hm.size, h.apart⟩
end
section
variable {P : Program} {N : Nums} {loc : List Nat} {N' : Nat} {Q : Exit → Env → World → Prop} {σ : Env} {w : World}
theorem zcy {i : Nat} {v : Value} (h : Q .normal (upd σ i v) w) : W P loc N' (.ops [⟨some (i + 100), .assign (.const v), 0, none, []⟩]) Q σ w := by
 refine zn fun τ => ?_
 simp +decide only [bK, zci, locs_envOf]
 exact h
theorem W_if {i : Nat} {x y : C} {t : Bool} (hlo : zhy loc N') (hi : σ i = .bool t) (h : W P loc N' (if t then x else y) Q σ w) : W P loc N' (.cond i x y) Q σ w :=
 W_cond hi (fun s hs => hlo.lt i s hs) h
end
section
variable {P : Program} {N : Nums}
end
def strV (l : List UInt8) : Value := .string ⟨l.toArray⟩
section
variable {P : Program} {N : Nums}
def spBad (n : Int) (s : RS) : Bool := decide (n < 0) || decide ((s.l.length : Int) < n)
def spanL (n : Int) (s : RS) : List UInt8 := if spBad n s then [] else s.l.take n.toNat
def spanN (n : Int) (s : RS) : Bool := if spBad n s then true else s.nl
def zuw (n : Int) (s : RS) : RS := if spBad n s then ⟨[], true, true⟩ else ⟨s.l.drop n.toNat, s.bad, s.nl⟩
end
def uvD (l : List UInt8) : Nat × Int :=
 match l with
 | [] => (0, 0)
 | a :: l => if a.toNat < 128 then (a.toNat, 1) else match l with
  | [] => (0, 0)
  | b :: l => if b.toNat < 128 then (a.toNat % 128 + b.toNat * 128, 2) else match l with
   | [] => (0, 0)
   | c :: l => if c.toNat < 128 then (a.toNat % 128 + b.toNat % 128 * 128 + c.toNat * 16384, 3) else match l with
    | [] => (0, 0)
    | d :: l => if d.toNat < 128 then (a.toNat % 128 + b.toNat % 128 * 128 + c.toNat % 128 * 16384 + d.toNat * 2097152, 4) else match l with
     | [] => (0, 0)
     | e :: _ => if e.toNat ≤ 15 then (a.toNat % 128 + b.toNat % 128 * 128 + c.toNat % 128 * 16384 + d.toNat % 128 * 2097152 + e.toNat * 268435456, 5) else (0, -5)
section
variable {P : Program} {N : Nums} {loc : List Nat} {N' : Nat} {Q : Exit → Env → World → Prop} {σ : Env} {w : World} {lo hi : Nat} {v : Value} {nl : Bool} {l : List UInt8}
end
def numFix (c : Nat) (g : List UInt8 → Int) (s : RS) : Int × RS := if s.l.length < c then (0, ⟨[], true, true⟩) else (g (s.l.take c), ⟨s.l.drop c, s.bad, s.nl⟩)
def i16N : RS → Int × RS := numFix 2 fun l => IntKind.i16.wrap (be l)
def i32N : RS → Int × RS := numFix 4 fun l => IntKind.i32.wrap (be l)
def uvN (s : RS) : Nat × RS := if (uvD s.l).2 ≤ 0 then (0, ⟨[], true, true⟩) else ((uvD s.l).1, ⟨s.l.drop (uvD s.l).2.toNat, s.bad, s.nl⟩)
def strR (s : RS) : List UInt8 × RS := (spanL (i16N s).1 (i16N s).2, zuw (i16N s).1 (i16N s).2)
def cstrR (s : RS) : List UInt8 × RS := (spanL ((uvN s).1 - 1 : Int) (uvN s).2, zuw ((uvN s).1 - 1 : Int) (uvN s).2)
def nstrR (s : RS) : Option (List UInt8) × RS := if (i16N s).1 < 0 then (none, (i16N s).2) else (some (strR s).1, (strR s).2)
def cnstrR (s : RS) : Option (List UInt8) × RS := if ((uvN s).1 - 1 : Int) < 0 then (none, (uvN s).2) else (some (cstrR s).1, (cstrR s).2)
def spanB (n : Int) (s : RS) : Option (List UInt8) := if spanN n s then none else some (spanL n s)
def bytR (s : RS) : Option (List UInt8) × RS := if (i32N s).1 = -1 then (some [], (i32N s).2) else (spanB (i32N s).1 (i32N s).2, zuw (i32N s).1 (i32N s).2)
def cbytR (s : RS) : Option (List UInt8) × RS := if ((uvN s).1 - 1 : Int) = -1 then (some [], (uvN s).2) else (spanB ((uvN s).1 - 1 : Int) (uvN s).2, zuw ((uvN s).1 - 1 : Int) (uvN s).2)
def nbytR (s : RS) : Option (List UInt8) × RS := if (i32N s).1 < 0 then (none, (i32N s).2) else (spanB (i32N s).1 (i32N s).2, zuw (i32N s).1 (i32N s).2)
def cnbytR (s : RS) : Option (List UInt8) × RS := if ((uvN s).1 - 1 : Int) < 0 then (none, (uvN s).2) else (spanB ((uvN s).1 - 1 : Int) (uvN s).2, zuw ((uvN s).1 - 1 : Int) (uvN s).2)
def arrR (s : RS) : Int × RS := if ((i32N s).2.l.length : Int) < (i32N s).1 then (0, ⟨[], true, true⟩) else i32N s
def carrN (s : RS) : Int := IntKind.i32.wrap (IntKind.i32.wrap (uvN s).1 - 1)
def carrR (s : RS) : Int × RS := if ((uvN s).2.l.length : Int) < carrN s then (0, ⟨[], true, true⟩) else (carrN s, (uvN s).2)
theorem wrap_i64 {n : Int} (h1 : -9223372036854775808 ≤ n) (h2 : n < 9223372036854775808) : IntKind.i64.wrap n = n := by
 simp [IntKind.wrap, IntKind.bits, IntKind.signed]
 split <;> omega
section
variable {P : Program} {N : Nums}
end
section
variable {P : Program} {N : Nums}
theorem zqj {t e : TypeId} {a b a' b' : Nat} {z z' : Value} {de : TypeDesc} {w : World} (ht : TI P t (.slice e) a b z) (he : TI P e de a' b' z') :
  (Instr.buildSlice t 0 #[]).run P w = .ok (.slice (some ⟨w.heap.size, 0, none⟩) 0 0) (w.alloc (.cells #[] e)) := by
 simp only [Instr.buildSlice, Sem.run_bind, ht.run_und, he.run_size, Result.andThen_ok, Nat.zero_mul]
 rw [if_neg (by decide), if_pos trivial]
 have e : Array.range 0 = #[] := by simp
 simp only [Sem.run_bind, Sem.run_pure, Result.andThen_ok, e, Array.map_empty, Instr.fill]
 rfl
end
inductive Val where
 | num (v : Value)
 | nstr (o : Option (List UInt8))
 | oct (o : Option (List UInt8))
 | nilA
 | arr (sz : Nat) (l : List Val)
 | row (l : List Val)
 | nilP
 | ptr (l : List Val)
 | tags (l : List (Nat × List UInt8))
 deriving Inhabited
def OctG (w : World) (G : Nat → Prop) (v : Value) : Option (List UInt8) → Prop
 | none => v = .slice none 0 0
 | some l => ∃ b o c, v = .slice (some ⟨b, o, none⟩) l.length c ∧ l.length ≤ c ∧ (l ≠ [] → G b) ∧ w.rangeAt b o (l.map zam)
def zbj (w : World) (G : Nat → Prop) : List (Nat × List UInt8) → List MapEntry → Prop
 | [], es => es = []
 | (k, l) :: r, es => ∃ v b rest, es = ⟨.int .u32 k, v, b⟩ :: rest ∧ ((l = [] ∧ ∃ ad c, v = .slice ad 0 c) ∨ OctG w G v (some l)) ∧ zbj w G r rest
def zoe (w : World) (G : Nat → Prop) (v : Value) (l : List (Nat × List UInt8)) : Prop :=
 (v = .map none ∧ l = []) ∨ ∃ m es ck, v = .map (some m) ∧ G m ∧ w.heap[m]? = some (.map es ck) ∧ (∀ e ∈ es.toList, e.born < ck) ∧ (es.toList.map MapEntry.born).Nodup ∧ zbj w G l es.toList ∧ (l.map Prod.fst).Nodup ∧ ∀ x ∈ l, x.1 < 4294967296
mutual
def Rep (w : World) (G : Nat → Prop) : Val → List Value → Prop
 | .num v, cs => cs = v.cells.toList
 | .nstr none, cs => cs = [.pointer none]
 | .nstr (some l), cs => ∃ b, cs = [.pointer (some ⟨b, 0, none⟩)] ∧ G b ∧ w.rangeAt b 0 [strV l]
 | .oct o, cs => ∃ v, cs = [v] ∧ OctG w G v o
 | .nilA, cs => cs = [.slice none 0 0]
 | .arr sz l, cs => ∃ b c css, cs = [.slice (some ⟨b, 0, none⟩) l.length c] ∧ l.length ≤ c ∧ (l ≠ [] → G b) ∧ (∀ x ∈ css, x.length = sz) ∧ RepL w G l css ∧ w.rangeAt b 0 css.flatten
 | .row l, cs => ∃ css, cs = css.flatten ∧ RepL w G l css
 | .nilP, cs => cs = [.pointer none]
 | .ptr l, cs => ∃ b css, cs = [.pointer (some ⟨b, 0, none⟩)] ∧ G b ∧ RepL w G l css ∧ w.rangeAt b 0 css.flatten
 | .tags l, cs => ∃ v, cs = [v] ∧ zoe w G v l
def RepL (w : World) (G : Nat → Prop) : List Val → List (List Value) → Prop
 | [], css => css = []
 | v :: l, css => ∃ c r, css = c :: r ∧ Rep w G v c ∧ RepL w G l r
end
theorem OctG.mod {w w' : World} {M : Nat → Nat → Prop} {G G' : Nat → Prop} (h : Mod w w' M) (hG : ∀ k, G k → k < w.heap.size ∧ (∀ o, ¬ M k o) ∧ G' k) {v : Value} {o : Option (List UInt8)} (hb : OctG w G v o) : OctG w' G' v o := by
 cases o with
 | none => exact hb
 | some l =>
  obtain ⟨b, o, c, h1, h2, h3, h4⟩ := hb
  refine ⟨b, o, c, h1, h2, fun hne => (hG b (h3 hne)).2.2, ?_⟩
  cases l with
  | nil => intro j v hj; simp at hj
  | cons x l =>
   obtain ⟨g1, g2, _⟩ := hG b (h3 (by simp))
   exact h.rangeAt g1 (fun i _ _ => g2 i) h4
theorem zbj.mod {w w' : World} {M : Nat → Nat → Prop} {G G' : Nat → Prop} (h : Mod w w' M) (hG : ∀ k, G k → k < w.heap.size ∧ (∀ o, ¬ M k o) ∧ G' k) : ∀ {l : List (Nat × List UInt8)} {es : List MapEntry}, zbj w G l es → zbj w' G' l es
 | [], _, he => he
 | (k, l) :: r, es, ⟨v, b, rest, h1, h2, h3⟩ => ⟨v, b, rest, h1, h2.imp (fun x => ⟨x.1, x.2⟩) (fun x => x.mod h hG), zbj.mod h hG h3⟩
theorem zoe.mod {w w' : World} {M : Nat → Nat → Prop} {G G' : Nat → Prop} (h : Mod w w' M) (hG : ∀ k, G k → k < w.heap.size ∧ (∀ o, ¬ M k o) ∧ G' k) {v : Value} {l : List (Nat × List UInt8)} (ht : zoe w G v l) : zoe w' G' v l := by
 rcases ht with ht | ⟨m, es, ck, h1, h2, h3, h4, h5, h6, h7⟩
 ·exact .inl ht
 ·obtain ⟨g1, g2, g3⟩ := hG m h2
  exact .inr ⟨m, es, ck, h1, g3, by rw [h.block m g1 g2]; exact h3, h4, h5, h6.mod h hG, h7⟩
mutual
theorem Rep.mod {w w' : World} {M : Nat → Nat → Prop} {G G' : Nat → Prop} (h : Mod w w' M) (hG : ∀ k, G k → k < w.heap.size ∧ (∀ o, ¬ M k o) ∧ G' k) : ∀ (v : Val) {cs : List Value}, Rep w G v cs → Rep w' G' v cs
 | .num v, _, hr => hr
 | .nstr none, _, hr => hr
 | .nstr (some l), _, ⟨b, h1, h2, h3⟩ => ⟨b, h1, (hG b h2).2.2, h.rangeAt (hG b h2).1 (fun i _ _ => (hG b h2).2.1 i) h3⟩
 | .oct o, _, ⟨v, h1, h2⟩ => ⟨v, h1, h2.mod h hG⟩
 | .nilA, _, hr => hr
 | .arr sz l, _, ⟨b, c, css, h1, h2, h3, h4, h5, h6⟩ => ⟨b, c, css, h1, h2, fun hne => (hG b (h3 hne)).2.2, h4, RepL.mod h hG l h5, by
   cases l with
   | nil =>
    simp only [RepL] at h5
    subst h5
    intro j v hj; simp at hj
   | cons x l =>
    obtain ⟨g1, g2, _⟩ := hG b (h3 (by simp))
    exact h.rangeAt g1 (fun i _ _ => g2 i) h6⟩
 | .row l, _, ⟨css, h1, h2⟩ => ⟨css, h1, RepL.mod h hG l h2⟩
 | .nilP, _, hr => hr
 | .ptr l, _, ⟨b, css, h1, h2, h3, h4⟩ => ⟨b, css, h1, (hG b h2).2.2, RepL.mod h hG l h3, h.rangeAt (hG b h2).1 (fun i _ _ => (hG b h2).2.1 i) h4⟩
 | .tags l, _, ⟨v, h1, h2⟩ => ⟨v, h1, h2.mod h hG⟩
theorem RepL.mod {w w' : World} {M : Nat → Nat → Prop} {G G' : Nat → Prop} (h : Mod w w' M) (hG : ∀ k, G k → k < w.heap.size ∧ (∀ o, ¬ M k o) ∧ G' k) : ∀ (l : List Val) {css : List (List Value)}, RepL w G l css → RepL w' G' l css
 | [], _, hr => hr
 | v :: l, _, ⟨c, r, h1, h2, h3⟩ => ⟨c, r, h1, Rep.mod h hG v h2, RepL.mod h hG l h3⟩
end
theorem OctG.mono {w : World} {G G' : Nat → Prop} (hG : ∀ k, G k → G' k) {v : Value} {o : Option (List UInt8)} (hb : OctG w G v o) : OctG w G' v o := by
 cases o with
 | none => exact hb
 | some l =>
  obtain ⟨b, o, c, h1, h2, h3, h4⟩ := hb
  exact ⟨b, o, c, h1, h2, fun hne => hG b (h3 hne), h4⟩
theorem zbj.mono {w : World} {G G' : Nat → Prop} (hG : ∀ k, G k → G' k) : ∀ {l : List (Nat × List UInt8)} {es : List MapEntry}, zbj w G l es → zbj w G' l es
 | [], _, he => he
 | (k, l) :: r, es, ⟨v, b, rest, h1, h2, h3⟩ => ⟨v, b, rest, h1, h2.imp (fun x => ⟨x.1, x.2⟩) (fun x => x.mono hG), zbj.mono hG h3⟩
theorem zoe.mono {w : World} {G G' : Nat → Prop} (hG : ∀ k, G k → G' k) {v : Value} {l : List (Nat × List UInt8)} (ht : zoe w G v l) : zoe w G' v l := by
 rcases ht with ht | ⟨m, es, ck, h1, h2, h3, h4, h5, h6, h7⟩
 ·exact .inl ht
 ·exact .inr ⟨m, es, ck, h1, hG m h2, h3, h4, h5, h6.mono hG, h7⟩
mutual
theorem Rep.mono {w : World} {G G' : Nat → Prop} (hG : ∀ k, G k → G' k) : ∀ (v : Val) {cs : List Value}, Rep w G v cs → Rep w G' v cs
 | .num v, _, hr => hr
 | .nstr none, _, hr => hr
 | .nstr (some l), _, ⟨b, h1, h2, h3⟩ => ⟨b, h1, hG b h2, h3⟩
 | .oct o, _, ⟨v, h1, h2⟩ => ⟨v, h1, h2.mono hG⟩
 | .nilA, _, hr => hr
 | .arr sz l, _, ⟨b, c, css, h1, h2, h3, h4, h5, h6⟩ => ⟨b, c, css, h1, h2, fun hne => hG b (h3 hne), h4, RepL.mono hG l h5, h6⟩
 | .row l, _, ⟨css, h1, h2⟩ => ⟨css, h1, RepL.mono hG l h2⟩
 | .nilP, _, hr => hr
 | .ptr l, _, ⟨b, css, h1, h2, h3, h4⟩ => ⟨b, css, h1, hG b h2, RepL.mono hG l h3, h4⟩
 | .tags l, _, ⟨v, h1, h2⟩ => ⟨v, h1, h2.mono hG⟩
theorem RepL.mono {w : World} {G G' : Nat → Prop} (hG : ∀ k, G k → G' k) : ∀ (l : List Val) {css : List (List Value)}, RepL w G l css → RepL w G' l css
 | [], _, hr => hr
 | v :: l, _, ⟨c, r, h1, h2, h3⟩ => ⟨c, r, h1, Rep.mono hG v h2, RepL.mono hG l h3⟩
end
theorem RepL.length {w : World} {G : Nat → Prop} : ∀ {l : List Val} {css : List (List Value)}, RepL w G l css → css.length = l.length
 | [], _, h => by simp only [RepL] at h; subst h; rfl
 | v :: l, _, ⟨c, r, h1, h2, h3⟩ => by subst h1; simp [RepL.length h3]
theorem RepL.append {w : World} {G : Nat → Prop} : ∀ {l : List Val} {css : List (List Value)} {l' : List Val} {css' : List (List Value)}, RepL w G l css → RepL w G l' css' → RepL w G (l ++ l') (css ++ css')
 | [], _, _, _, h, h' => by simp only [RepL] at h; subst h; exact h'
 | v :: l, _, _, _, ⟨c, r, h1, h2, h3⟩, h' => by subst h1; exact ⟨c, r ++ _, rfl, h2, RepL.append h3 h'⟩
inductive PK where
 | bool | i8 | i16 | u16 | i32 | i64 | uuid
 | en (t : TypeId)
 deriving DecidableEq
def PK.isEn : PK → Bool
 | .en _ => true
 | _ => false
def PK.is8 : PK → Bool
 | .i8 => true
 | .en _ => true
 | _ => false
def PK.nt (N : Nums) (k : PK) : Prop := (k = .uuid → N.zag ≠ 0) ∧ (k.is8 = true → N.zjw ≠ 0)
def PK.isSg : PK → Bool
 | .en _ => false
 | .uuid => false
 | _ => true
inductive Txt where
 | str | nstr | byt | nbyt
 deriving DecidableEq
inductive Gd where
 | all | ge (n : Int) | btw (n m : Int)
def Gd.on (ver : Int) : Gd → Bool
 | .all => true
 | .ge n => decide (ver ≥ n)
 | .btw n m => decide (ver ≥ n) && decide (ver ≤ m)
def PK.f (N : Nums) : PK → FuncId
 | .bool => N.zjs | .i8 => N.zga | .i16 => N.zca | .u16 => N.zhz | .i32 => N.zcx | .i64 => N.zja | .uuid => N.zhh | .en _ => N.zga
def PK.t (N : Nums) : PK → TypeId
 | .bool => N.zaq | .i8 => N.zjw | .i16 => N.zbd | .u16 => N.zed | .i32 => N.zbp | .i64 => N.zbn | .uuid => N.zag | .en t => t
def PK.zero : PK → Value
 | .bool => .bool false | .i8 => .int .i8 0 | .i16 => .int .i16 0 | .u16 => .int .u16 0 | .i32 => .int .i32 0 | .i64 => .int .i64 0 | .uuid => .agg (Array.replicate 16 (.int .u8 0)) | .en _ => .int .i8 0
def PK.sz : PK → Nat
 | .uuid => 16 | _ => 1
def uuidV (l : List UInt8) : Value := .agg ((l ++ List.replicate (16 - l.length) 0).take 16 |>.map zam).toArray
def PK.rd : PK → RS → Value × RS
 | .bool => zxe 1 (fun l => .bool (be l != 0)) (.bool false)
 | .i8 => zxe 1 (fun l => .int .i8 (IntKind.i8.wrap (be l))) (.int .i8 0)
 | .i16 => zxe 2 (fun l => .int .i16 (IntKind.i16.wrap (be l))) (.int .i16 0)
 | .u16 => zxe 2 (fun l => .int .u16 (be l)) (.int .u16 0)
 | .i32 => zxe 4 (fun l => .int .i32 (IntKind.i32.wrap (be l))) (.int .i32 0)
 | .i64 => zxe 8 (fun l => .int .i64 (IntKind.i64.wrap (be l))) (.int .i64 0)
 | .uuid => fun s => (uuidV (spanL 16 s), zuw 16 s)
 | .en _ => zxe 1 (fun l => .int .i8 (IntKind.i8.wrap (be l))) (.int .i8 0)
def PK.vn : PK → Nat
 | .en _ => 3
 | _ => 1
def Txt.t (N : Nums) : Txt → TypeId
 | .str => N.zal | .nstr => N.zay | _ => N.za
def Txt.zero : Txt → Value
 | .str => .string ⟨#[]⟩ | .nstr => .pointer none | _ => .slice none 0 0
def Txt.iniV : Txt → Val
 | .str => .num (strV []) | .nstr => .nstr none | _ => .oct none
def Txt.rd (fl : Bool) : Txt → RS → Val × RS
 | .str, s => let x := if fl then cstrR s else strR s; (.num (strV x.1), x.2)
 | .nstr, s => let x := if fl then cnstrR s else nstrR s; (.nstr x.1, x.2)
 | .byt, s => let x := if fl then cbytR s else bytR s; (.oct x.1, x.2)
 | .nbyt, s => let x := if fl then cnbytR s else nbytR s; (.oct x.1, x.2)
mutual
inductive Ty where
 | pr (k : PK) (d : Option Value)
 | txt (k : Txt)
 | arr (st : TypeId) (nul : Option Int) (e : El)
 | row (T pT : TypeId) (dflt : FuncId) (fs : Fds)
 | tv (k : Int)
inductive El where
 | pr (k : PK)
 | txt (k : Txt)
 | row (T pT : TypeId) (dflt : FuncId) (fs : Fds)
inductive Fds where
 | nil
 | tags
 | cons (g : Gd) (ty : Ty) (rest : Fds)
end
mutual
def Ty.sz : Ty → Nat
 | .pr k _ => k.sz
 | .txt _ => 1
 | .arr .. => 1
 | .row _ _ _ fs => fs.sz
 | .tv _ => 1
def Fds.sz : Fds → Nat
 | .nil => 0
 | .tags => 1
 | .cons _ ty r => ty.sz + r.sz
end
def El.sz : El → Nat
 | .pr k => k.sz
 | .txt _ => 1
 | .row _ _ _ fs => fs.sz
mutual
def Ty.zero : Ty → List Value
 | .pr k _ => k.zero.cells.toList
 | .txt k => [k.zero]
 | .arr .. => [.slice none 0 0]
 | .row _ _ _ fs => fs.zero
 | .tv _ => [.pointer none]
def Fds.zero : Fds → List Value
 | .nil => []
 | .tags => [.map none]
 | .cons _ ty r => ty.zero ++ r.zero
end
mutual
def Ty.ini : Ty → List Value
 | .pr k d => (d.getD k.zero).cells.toList
 | .txt k => [k.zero]
 | .arr .. => [.slice none 0 0]
 | .row _ _ _ fs => fs.ini
 | .tv _ => [.pointer none]
def Fds.ini : Fds → List Value
 | .nil => []
 | .tags => [.map none]
 | .cons _ ty r => ty.ini ++ r.ini
end
mutual
def Ty.iniV : Ty → Val
 | .pr k d => .num (d.getD k.zero)
 | .txt k => k.iniV
 | .arr .. => .nilA
 | .row _ _ _ fs => .row fs.iniV
 | .tv _ => .nstr none
def Fds.iniV : Fds → List Val
 | .nil => []
 | .tags => [.tags []]
 | .cons _ ty r => ty.iniV :: r.iniV
end
def rdN {α : Type} (f : RS → Option (α × RS)) : Nat → RS → Option (List α × RS)
 | 0, s => some ([], s)
 | n + 1, s => match f s with
  | none => none
  | some (v, s) => match rdN f n s with
   | none => none
   | some (l, s) => some (v :: l, s)
def tput (l : List (Nat × List UInt8)) (k : Nat) (v : List UInt8) : List (Nat × List UInt8) :=
 if (l.map Prod.fst).contains k then l.map fun x => if x.1 = k then (k, v) else x else l ++ [(k, v)]
def tagsN : Nat → List (Nat × List UInt8) → RS → List (Nat × List UInt8) × RS
 | 0, l, s => (l, s)
 | n + 1, l, s =>
  let k := uvN s
  let z := uvN k.2
  tagsN n (tput l k.1 (spanL z.1 z.2)) (zuw z.1 z.2)
def tagsR (s : RS) : List (Nat × List UInt8) × RS := tagsN (uvN s).1 [] (uvN s).2
section
variable (ver : Int) (fl : Bool)
mutual
def Ty.rd : Ty → RS → Option (Val × RS)
 | .pr k _, s => some (.num (k.rd s).1, (k.rd s).2)
 | .txt k, s => some (k.rd fl s)
 | .arr _ nul e, s =>
  let x := if fl then carrR s else arrR s
  if x.2.bad then none
  else if 0 < x.1 then
   match rdN e.rd x.1.toNat x.2 with
   | none => none
   | some (l, s) => some (.arr e.sz l, s)
  else some (match nul with
   | none => .nilA
   | some n => if ver < n ∨ x.1 = 0 then .arr e.sz [] else .nilA, x.2)
 | .row _ _ _ fs, s => match fs.rd s with
  | none => none
  | some (l, s) => some (.row l, s)
 | .tv k, s => some (if ver < k then let x := if fl then cstrR s else strR s; (.nstr (some x.1), x.2) else Txt.rd fl .nstr s)
def El.rd : El → RS → Option (Val × RS)
 | .pr k, s => some (.num (k.rd s).1, (k.rd s).2)
 | .txt k, s => some (k.rd fl s)
 | .row _ _ _ fs, s => match fs.rd s with
  | none => none
  | some (l, s) => some (.row l, s)
def Fds.rd : Fds → RS → Option (List Val × RS)
 | .nil, s => some ([], s)
 | .tags, s => if fl then some ([.tags (tagsR s).1], (tagsR s).2) else some ([.tags []], s)
 | .cons g ty r, s => match (if g.on ver then ty.rd s else some (ty.iniV, s)) with
  | none => none
  | some (v, s) => match r.rd s with
   | none => none
   | some (l, s) => some (v :: l, s)
end
end
def seqs : List C → C
 | [] => .skip
 | [x] => x
 | x :: l => .seq x (seqs l)
def zgr (n : Nat) (v : Value) : C := .ops [⟨some (n + 100), .assign (.const v), 0, none, []⟩]
def cCopy (n m : Nat) : C := .ops [⟨some 0, .move (V m), 0, none, []⟩, ⟨some (n + 100), .assign (T 0), 0, none, []⟩]
def cIf (n i : Nat) (a b : C) : C := .seq (.ops [⟨some (n + 100), .move (V i), 0, none, []⟩]) (.cond n a b)
section
variable (N : Nums)
def zii (n : Nat) (f : FuncId) (t : TypeId) : C := .ops [⟨some 0, .call ⟨.value (.func f), #[V 4], #[N.zaf]⟩, t, none, []⟩, ⟨some (n + 100), .assign (T 0), 0, none, []⟩]
def cBox (n : Nat) (f : FuncId) (t : TypeId) : C := .ops [⟨some 0, .call ⟨.value (.func f), #[V 4], #[N.zaf]⟩, t, none, []⟩, ⟨some (n + 100), .alloc t, 0, none, []⟩, ⟨none, .store t (V n) (T 0), 0, none, []⟩]
def PK.get (k : PK) (n : Nat) : C := match k with
 | .uuid => cBox N n N.zhh N.zag
 | k => zii N n (k.f N) (k.t N)
def PK.src (k : PK) (n : Nat) : Op := match k with
 | .uuid => .load N.zag (V n)
 | _ => .move (V n)
def cEnum (n : Nat) (st : C) : C :=
 .seq (zgr n (.int .i8 0)) (.seq (.seq (zii N (n + 1) N.zga N.zjw) (cCopy n (n + 1))) (.seq (cCopy (n + 2) n) st))
def PK.gen (k : PK) (n : Nat) (st : Op → C) : C := match k with
 | .en t => cEnum N n (st (.move (V (n + 2))))
 | k => .seq (k.get N n) (st (k.src N n))
def zud (is : Nat) (Tt : TypeId) (idx : Nat) (t : TypeId) (src : Op) : C :=
 .ops [⟨some 0, .move (V is), 0, none, []⟩, ⟨some 1, src, 0, none, []⟩, ⟨some 2, .nilCheck (T 0), 0, none, []⟩, ⟨some 3, .fieldAddr Tt (T 2) idx, 0, none, []⟩, ⟨none, .store t (T 3) (T 1), 0, none, []⟩]
def cStoreE (ia ii : Nat) (st t : TypeId) (src : Op) : C :=
 .ops [⟨some 0, .move (V ia), 0, none, []⟩, ⟨some 1, .move (V ii), 0, none, []⟩, ⟨some 2, src, 0, none, []⟩, ⟨some 3, .indexAddr st (T 0) (T 1), 0, none, []⟩, ⟨none, .store t (T 3) (T 2), 0, none, []⟩]
def cTxt (fx : Bool) (k : Txt) (n m : Nat) : C :=
 match k, fx with
 | .str, true => cIf m 2 (cIf (m + 1) 6 (zii N n N.zcp N.zal) (zii N n N.zcl N.zal)) (cIf (m + 2) 6 (zii N n N.zdt N.zal) (zii N n N.zeg N.zal))
 | .str, false => cIf m 2 (zii N n N.zcl N.zal) (zii N n N.zeg N.zal)
 | .nstr, true => cIf m 6 (cIf (m + 1) 2 (zii N n N.zch N.zay) (zii N n N.zdb N.zay)) (cIf (m + 2) 2 (zii N n N.zcj N.zay) (zii N n N.zdl N.zay))
 | .nstr, false => cIf m 2 (zii N n N.zcj N.zay) (zii N n N.zdl N.zay)
 | .byt, true => cIf m 6 (zii N n N.zfb N.za) (zii N n N.zgo N.za)
 | .byt, false => zii N n N.zgo N.za
 | .nbyt, true => cIf m 6 (zii N n N.zdj N.za) (zii N n N.zds N.za)
 | .nbyt, false => zii N n N.zds N.za
def Txt.vn (fx : Bool) : Txt → Nat
 | .str => if fx then 3 else 1
 | .nstr => if fx then 3 else 1
 | _ => if fx then 1 else 0
def cGd (g : Gd) (n : Nat) (c : Nat → C) : C :=
 match g with
 | .all => c n
 | .ge m => .seq (.ops [⟨some 0, .move (V 5), 0, none, []⟩, ⟨some (n + 100), .binOp .geq N.zbd (T 0) (.const (.int .i16 m)) N.zbd, 0, none, []⟩]) (.cond n (c (n + 1)) .skip)
 | .btw a b => .seq (.ops [⟨some 0, .move (V 5), 0, none, []⟩, ⟨some 1, .binOp .geq N.zbd (T 0) (.const (.int .i16 a)) N.zbd, 0, none, []⟩, ⟨some 2, .move (T 1), 0, none, []⟩, ⟨some 3, .move (V 5), 0, some (some 2, true), []⟩,
   ⟨some 4, .binOp .leq N.zbd (T 3) (.const (.int .i16 b)) N.zbd, 0, some (some 2, true), []⟩, ⟨some (n + 100), .pick (T 2) (T 4) (.const (.bool false)), 0, none, []⟩]) (.cond n (c (n + 1)) .skip)
def Gd.vn : Gd → Nat
 | .all => 0
 | _ => 1
def cLen (fx : Bool) (n : Nat) : C :=
 if fx then cIf (n + 3) 6 (zii N (n + 2) N.zeo N.zbp) (zii N (n + 2) N.zel N.zbp) else zii N (n + 2) N.zel N.zbp
def cOk (m : Nat) : C :=
 .seq (.ops [⟨some 0, .call ⟨.value (.func N.zjn), #[V 4], #[N.zaf]⟩, N.zaq, none, []⟩, ⟨some (m + 100), .unOp .not N.zaq (T 0), 0, none, []⟩])
  (.cond m (.seq (zii N 3 N.zfh N.zld) .ret) .skip)
def cNul (st : TypeId) (k : Int) (n m : Nat) : C :=
 .seq (.ops [⟨some 0, .move (V 5), 0, none, []⟩, ⟨some 1, .binOp .lss N.zbd (T 0) (.const (.int .i16 k)) N.zbd, 0, none, []⟩, ⟨some 2, .move (T 1), 0, none, []⟩, ⟨some 3, .move (V (n + 2)), 0, some (some 2, false), []⟩,
   ⟨some 4, .binOp .eql N.zbp (T 3) (.const (.int .i32 0)) N.zbp, 0, some (some 2, false), []⟩, ⟨some (m + 100), .pick (T 2) (.const (.bool true)) (T 4), 0, none, []⟩])
  (.cond m (.ops [⟨some 0, .buildSlice st 0 #[], 0, none, []⟩, ⟨some (n + 1 + 100), .assign (T 0), 0, none, []⟩]) .skip)
def cNulQ (st : TypeId) (nul : Option Int) (n m : Nat) (rest : C) : C := match nul with
 | none => rest
 | some k => .seq (cNul N st k n m) rest
def cCut (st : TypeId) (a : Nat) : C := .ops [⟨some 0, .move (V a), 0, none, []⟩, ⟨some 1, .slice st (T 0) none (some (.const (.int .i64 0))) none, 0, none, []⟩, ⟨some (a + 100), .assign (T 1), 0, none, []⟩]
def cGrow (st : TypeId) (a l m : Nat) : C :=
 .seq (.ops [⟨some 0, .move (V l), 0, none, []⟩, ⟨some (m + 100), .binOp .gtr N.zbp (T 0) (.const (.int .i32 0)) N.zbp, 0, none, []⟩])
  (.cond m (.ops [⟨some 0, .move (V a), 0, none, []⟩, ⟨some 1, .move (V l), 0, none, []⟩, ⟨some 2, .call ⟨.builtin .append, #[T 0, T 1], #[st, N.zbp]⟩, st, none, []⟩, ⟨some (a + 100), .assign (T 2), 0, none, []⟩]) .skip)
def cLoop (i l c k : Nat) (body : C) : C :=
 .seq (zgr i (.int .i32 0)) (.block k (.loop (.seq
  (.seq (.ops [⟨some 0, .move (V i), 0, none, []⟩, ⟨some 1, .move (V l), 0, none, []⟩, ⟨some (c + 100), .binOp .lss N.zbp (T 0) (T 1) N.zbp, 0, none, []⟩]) (.cond c .skip (.exit k)))
  (.seq (.block (k + 1) body)
   (.ops [⟨some 0, .move (V i), 0, none, []⟩, ⟨some 1, .binOp .add N.zbp (T 0) (.const (.int .i32 1)) N.zbp, 0, none, []⟩, ⟨some (i + 100), .assign (T 1), 0, none, []⟩])))))
def cTags (is : Nat) (Tt : TypeId) (idx n : Nat) : C :=
 .seq (.ops [⟨some (n + 100), .move (V 6), 0, none, []⟩])
  (.cond n (.ops [⟨some 0, .move (V is), 0, none, []⟩, ⟨some 1, .call ⟨.value (.func N.zgn), #[V 4], #[N.zbc]⟩, N.zcq, none, []⟩, ⟨some 2, .nilCheck (T 0), 0, none, []⟩,
   ⟨some 3, .fieldAddr Tt (T 2) idx, 0, none, []⟩, ⟨none, .store N.zcq (T 3) (T 1), 0, none, []⟩]) .skip)
def cDflt (f : FuncId) (pT : TypeId) (x : Nat) : C := .ops [⟨some 0, .move (V x), 0, none, []⟩, ⟨some 1, .call ⟨.value (.func f), #[T 0], #[pT]⟩, N.t_, none, []⟩]
def cBoxS (n : Nat) (f : FuncId) : C := .ops [⟨some 0, .call ⟨.value (.func f), #[V 4], #[N.zaf]⟩, N.zal, none, []⟩, ⟨none, .store N.zal (V n) (T 0), 0, none, []⟩]
def cTv (fx : Bool) (k : Int) (n : Nat) : C :=
 .seq (.ops [⟨some 0, .move (V 5), 0, none, []⟩, ⟨some (n + 1 + 100), .binOp .lss N.zbd (T 0) (.const (.int .i16 k)) N.zbd, 0, none, []⟩])
  (.cond (n + 1)
   (.seq (.ops [⟨some (n + 2 + 100), .alloc N.zal, 0, none, []⟩]) (.seq
    (if fx then cIf (n + 3) 6 (cIf (n + 4) 2 (cBoxS N (n + 2) N.zcp) (cBoxS N (n + 2) N.zdt)) (cIf (n + 5) 2 (cBoxS N (n + 2) N.zcl) (cBoxS N (n + 2) N.zeg))
     else cIf (n + 3) 2 (cBoxS N (n + 2) N.zcl) (cBoxS N (n + 2) N.zeg))
    (.ops [⟨some (n + 100), .assign (V (n + 2)), 0, none, []⟩])))
   (cTxt N fx .nstr n (if fx then n + 6 else n + 4)))
section
variable (fx : Bool)
mutual
def Ty.vn : Ty → Nat
 | .pr k _ => k.vn
 | .txt k => k.vn fx + 1
 | .arr _ nul e => 3 + (if fx then 1 else 0) + (if nul.isSome then 1 else 0) + 4 + e.vn
 | .row _ _ _ fs => 2 + fs.vn
 | .tv _ => if fx then 9 else 5
def El.vn : El → Nat
 | .pr _ => 1
 | .txt k => k.vn fx + 1
 | .row _ _ _ fs => 2 + fs.vn
def Fds.vn : Fds → Nat
 | .nil => 0
 | .tags => 1
 | .cons g ty r => g.vn + ty.vn + r.vn
end
end
mutual
def Ty.bn : Ty → Nat
 | .arr _ _ e => 2 + e.bn
 | .row _ _ _ fs => fs.bn
 | _ => 0
def El.bn : El → Nat
 | .row _ _ _ fs => fs.bn
 | _ => 0
def Fds.bn : Fds → Nat
 | .cons _ ty r => ty.bn + r.bn
 | _ => 0
end
section
variable (fx : Bool)
mutual
def Ty.gen (is : Nat) (Tt : TypeId) (idx : Nat) : Ty → Nat → Nat → C
 | .pr k _, n, _ => k.gen N n (zud is Tt idx (k.t N))
 | .txt k, n, _ => .seq (zgr n k.zero) (.seq (cTxt N fx k n (n + 1)) (zud is Tt idx (k.t N) (.move (V n))))
 | .arr st nul e, n, k =>
  let m := n + 3 + (if fx then 1 else 0)
  let p := m + (if nul.isSome then 1 else 0)
  .seq (.ops [⟨some 0, .move (V is), 0, none, []⟩, ⟨some 1, .nilCheck (T 0), 0, none, []⟩, ⟨some 2, .fieldAddr Tt (T 1) idx, 0, none, []⟩, ⟨some 3, .load st (T 2), 0, none, []⟩, ⟨some (n + 100), .assign (T 3), 0, none, []⟩]) (
  .seq (cCopy (n + 1) n) (
  .seq (zgr (n + 2) (.int .i32 0)) (
  .seq (cLen N fx n) (
  cNulQ N st nul n m (
  .seq (cOk N p) (
  .seq (cCut st (n + 1)) (
  .seq (cGrow N st (n + 1) (n + 2) (p + 1)) (
  .seq (cLoop N (p + 2) (n + 2) (p + 3) k (seqs (e.gen (n + 1) (p + 2) st (p + 4) (k + 2)))) (
  .seq (cCopy n (n + 1)) (
  zud is Tt idx st (.move (V n))))))))))))
 | .row T' pT d fs, n, k =>
  seqs (.ops [⟨some 0, .move (V is), 0, none, []⟩, ⟨some 1, .nilCheck (T 0), 0, none, []⟩, ⟨some 2, .fieldAddr Tt (T 1) idx, 0, none, []⟩, ⟨some (n + 100), .assign (T 2), 0, none, []⟩] ::
   cDflt N d pT n :: cCopy (n + 1) n :: fs.gen (n + 1) T' 0 (n + 2) k)
 | .tv k, n, _ => .seq (zgr n (.pointer none)) (.seq (cTv N fx k n) (zud is Tt idx N.zay (.move (V n))))
def El.gen (ia ii : Nat) (st : TypeId) : El → Nat → Nat → List C
 | .pr k, n, _ => [k.get N n, cStoreE ia ii st (k.t N) (k.src N n)]
 | .txt k, n, _ => [zgr n k.zero, cTxt N fx k n (n + 1), cStoreE ia ii st (k.t N) (.move (V n))]
 | .row T' pT d fs, n, k =>
  .ops [⟨some 0, .move (V ia), 0, none, []⟩, ⟨some 1, .move (V ii), 0, none, []⟩, ⟨some 2, .indexAddr st (T 0) (T 1), 0, none, []⟩, ⟨some (n + 100), .assign (T 2), 0, none, []⟩] ::
   cDflt N d pT n :: cCopy (n + 1) n :: fs.gen (n + 1) T' 0 (n + 2) k
def Fds.gen (is : Nat) (Tt : TypeId) (idx : Nat) : Fds → Nat → Nat → List C
 | .nil, _, _ => []
 | .tags, n, _ => [cTags N is Tt idx n]
 | .cons g ty r, n, k => cGd N g n (fun n => ty.gen is Tt idx n k) :: r.gen is Tt (idx + 1) (n + g.vn + ty.vn fx) (k + ty.bn)
end
structure Msg where
 tT : TypeId
 pT : TypeId
 dflt : FuncId
 fl : Int
 vin : Bool
 fs : Fds
end
end
section
variable {P : Program} {N : Nums}
theorem zoy {t e : TypeId} {n a b a' b' : Nat} {z z' : Value} {de : TypeDesc} (ht : TI P t (.array n e) a b z) (he : TI P e de a' b' z') {ad : Addr} {w : World} :
  (Instr.sliceAt t (.pointer (some ad)) none none none).run P w = .ok (.slice (some ad) n n) w := by
 by_cases hn : n = 0
 ·subst hn
  simp [Instr.sliceAt, Instr.sliceBounds, Instr.sureAddr, Sem.run_bind, ht.run_und, he.run_size]
 ·simp [Instr.sliceAt, Instr.sliceBounds, Instr.sureAddr, Sem.run_bind, ht.run_und, he.run_size, Addr.add]
theorem zar {b : Nat} : ∀ (cs : List Value) (o : Nat) (w : World) (old : List Value), w.rangeAt b o old → cs.length ≤ old.length → (w.setCells b o cs).rangeAt b o (cs ++ old.drop cs.length)
 | [], o, w, old, h, _ => by simpa [World.setCells] using h
 | c :: cs, o, w, [], _, hl => by simp at hl
 | c :: cs, o, w, x :: old, h, hl => by
  have hx : w.cell? ⟨b, o, none⟩ = some x := h 0 x rfl
  have hrest : (w.setCell ⟨b, o, none⟩ c).rangeAt b (o + 1) old := by
   intro j v hj
   rw [World.cell?_setCell_other _ _ _ _ (by intro e; injection e with e1 e2; omega)]
   have := h (j + 1) v (by simpa using hj)
   rwa [show o + (j + 1) = o + 1 + j by omega] at this
  have ih := zar cs (o + 1) _ old hrest (by simpa using hl)
  have m : Mod (w.setCell ⟨b, o, none⟩ c) (((w.setCell ⟨b, o, none⟩ c)).setCells b (o + 1) cs) (rng b (o + 1) cs.length) := Mod.setCells cs (o + 1) _ fun _ i h1 h2 => ⟨rfl, h1, h2⟩
  show ((w.setCell ⟨b, o, none⟩ c).setCells b (o + 1) cs).rangeAt b o _
  intro j v hj
  cases j with
  | zero =>
   simp only [List.cons_append, List.getElem?_cons_zero, Option.some.injEq] at hj
   subst hj
   have hc : (w.setCell ⟨b, o, none⟩ c).cell? ⟨b, o, none⟩ = some c := World.cell?_setCell_same _ _ _ hx
   show ((w.setCell ⟨b, o, none⟩ c).setCells b (o + 1) cs).cell? ⟨b, o, none⟩ = some c
   rw [m.cell b o (by rw [show (w.setCell ⟨b, o, none⟩ c).heap.size = w.heap.size by simp [World.setCell]]; exact zfc (by rw [hx]; rfl)) (fun hm => by have := hm.2.1; omega)]
   exact hc
  | succ j =>
   have := ih j v (by simpa using hj)
   rwa [show o + 1 + j = o + (j + 1) by omega] at this
end
structure Cx (σ : Env) (fx u fl : Bool) (ver : Int) (r : Nat) : Prop where
 un : σ 2 = .bool u
 rd : σ 4 = .pointer (some ⟨r, 0, none⟩)
 vr : σ 5 = .int .i16 ver
 fle : fx = true → σ 6 = .bool fl
 nofl : fx = false → fl = false
def Ag (n : Nat) (σ σ' : Env) : Prop := ∀ i, i < n → σ' i = σ i
theorem Ag.refl (n : Nat) (σ : Env) : Ag n σ σ := fun _ _ => rfl
theorem Ag.trans {n m : Nat} {σ σ' σ'' : Env} (h : Ag n σ σ') (h' : Ag m σ' σ'') (hm : n ≤ m) : Ag n σ σ'' := fun i hi => (h' i (by omega)).trans (h i hi)
theorem Ag.upd {n i : Nat} {σ σ' : Env} {v : Value} (h : Ag n σ σ') (hi : n ≤ i) : Ag n σ (upd σ' i v) := fun j hj => by rw [zq (by omega)]; exact h j hj
theorem Ag.mono {n m : Nat} {σ σ' : Env} (h : Ag m σ σ') (hm : n ≤ m) : Ag n σ σ' := fun i hi => h i (by omega)
theorem Cx.ag {σ σ' : Env} {fx u fl : Bool} {ver : Int} {r n : Nat} (h : Cx σ fx u fl ver r) (ha : Ag n σ σ') (hn : 7 ≤ n) : Cx σ' fx u fl ver r :=
 ⟨by rw [ha 2 (by omega)]; exact h.un, by rw [ha 4 (by omega)]; exact h.rd, by rw [ha 5 (by omega)]; exact h.vr, fun e => by rw [ha 6 (by omega)]; exact h.fle e, h.nofl⟩
def GG (lo hi a b : Nat) : Nat → Prop := fun k => (lo ≤ k ∧ k < hi) ∨ (a ≤ k ∧ k < b)
section
variable {P : Program} {N : Nums} {loc : List Nat} {N' : Nat} {Q : Exit → Env → World → Prop} {σ : Env} {w : World}
end
section
variable {P : Program} {N : Nums}
theorem pk_ti (B : Base P N) (k : PK) (hu : k.nt N) (he : ∀ t, k = .en t → TI P t (.int .i8) 1 1 (.int .i8 0)) : ∃ d by', TI P (k.t N) d k.sz by' k.zero := by
 cases k with
 | bool => exact ⟨_, _, B.bool⟩
 | i8 => exact ⟨_, _, B.int8 (hu.2 rfl)⟩
 | i16 => exact ⟨_, _, B.int16⟩
 | u16 => exact ⟨_, _, B.uint16⟩
 | i32 => exact ⟨_, _, B.int32⟩
 | i64 => exact ⟨_, _, B.int64⟩
 | uuid => exact ⟨_, _, B.uuid (hu.1 rfl)⟩
 | en t => exact ⟨_, _, he t rfl⟩
section
variable {loc : List Nat} {N' : Nat} {Q : Exit → Env → World → Prop} {σ : Env} {w : World}
structure Inv (N : Nums) (w : World) (lo hi r : Nat) (s : RS) (e : Value) : Prop where
 rd : RdAt w lo hi r s
 er : w.cell? ⟨N.zej, 0, none⟩ = some e
 gr : N.zej ≠ r
structure Pl (N : Nums) (w : World) (lo hi r b o n : Nat) : Prop where
 there : w.there b o n
 lt : b < w.heap.size
 br : b ≠ r
 bs : b < lo ∨ hi ≤ b
 bg : b ≠ N.zej
theorem Inv.mod {w w' : World} {lo hi r b o n : Nat} {s s' : RS} {e : Value} (h : Inv N w lo hi r s e) (hb : b ≠ N.zej) (hm : Mod w w' (orM (blk r) (rng b o n))) (hr : RdAt w' lo hi r s') : Inv N w' lo hi r s' e :=
 ⟨hr, by rw [hm.cell _ _ (zfc (by rw [h.er]; rfl)) (fun hh => hh.elim (fun e => h.gr e) fun e => hb e.1.symm)]; exact h.er, h.gr⟩
theorem Pl.mod {w w' : World} {M : Nat → Nat → Prop} {lo hi r b o n : Nat} (h : Pl N w lo hi r b o n) (hm : Mod w w' M) : Pl N w' lo hi r b o n :=
 ⟨hm.there h.lt h.there, Nat.lt_of_lt_of_le h.lt hm.size, h.br, h.bs, h.bg⟩
theorem Pl.sub {w : World} {lo hi r b o n o' n' : Nat} (h : Pl N w lo hi r b o n) (h1 : o ≤ o') (h2 : o' + n' ≤ o + n) : Pl N w lo hi r b o' n' :=
 ⟨fun j hj => by have := h.there (o' - o + j) (by omega); rwa [show o + (o' - o + j) = o' + j by omega] at this, h.lt, h.br, h.bs, h.bg⟩
def FQ (N : Nums) (lo hi r n b o sz : Nat) (e : Value) (σ : Env) (w : World) (x : Option (Val × RS)) (Q : Exit → Env → World → Prop) : Prop :=
 match x with
 | none => ∀ σ' w', σ' 3 = e → Mod w w' (orM (blk r) (rng b o sz)) → Q .ret σ' w'
 | some (v, s') => ∀ σ' w' cs, Ag n σ σ' → RdAt w' lo hi r s' → Mod w w' (orM (blk r) (rng b o sz)) → w'.rangeAt b o cs → cs.length = sz → Rep w' (GG lo hi w.heap.size w'.heap.size) v cs → Q .normal σ' w'
end
end
def WL (P : Program) (loc : List Nat) (N' : Nat) : List C → (Exit → Env → World → Prop) → Env → World → Prop
 | [], Q => Q .normal
 | x :: l, Q => W P loc N' x (zgw (WL P loc N' l Q) Q)
section
variable {P : Program} {N : Nums} {loc : List Nat} {N' : Nat} {Q : Exit → Env → World → Prop} {σ : Env} {w : World}
theorem thenQ_self {Q : Exit → Env → World → Prop} {e : Exit} {σ : Env} {w : World} (h : zgw (Q .normal) Q e σ w) : Q e σ w := by
 cases e <;> exact h
theorem zif : ∀ {l : List C} {Q : Exit → Env → World → Prop} {σ : Env} {w : World}, l ≠ [] → WL P loc N' l Q σ w → W P loc N' (seqs l) Q σ w
 | [], _, _, _, h, _ => absurd rfl h
 | [x], _, _, _, _, h => zpj h fun _ _ _ => thenQ_self
 | x :: y :: l, _, _, _, _, h => W_seq (zpj h fun e σ w hq => by
   cases e with
   | normal => exact zif (l := y :: l) (by simp) hq
   | _ => exact hq)
theorem zau {x : C} {l : List C} (h : ∀ K : Env → World → Prop, (∀ σ w, WL P loc N' l Q σ w → K σ w) → W P loc N' x (zgw K Q) σ w) : WL P loc N' (x :: l) Q σ w := h _ fun _ _ h => h
theorem zcn {v : Value} (h : v.oneCell' = true) : v.cells = #[v] := by cases v <;> first | rfl | simp [Value.oneCell'] at h
end
section
variable {P : Program} {N : Nums}
def Fds.hf (P : Program) (Tt : TypeId) : Fds → Nat → Nat → Prop
 | .nil, _, _ => True
 | .tags, idx, off => HF P Tt idx off
 | .cons _ t r, idx, off => HF P Tt idx off ∧ r.hf P Tt (idx + 1) (off + t.sz)
end
section
variable {P : Program} {N : Nums}
def zs (z : List Value) (n : Nat) : List Value := (List.replicate n z).flatten
theorem zs_succ (z : List Value) (n : Nat) : zs z (n + 1) = z ++ zs z n := by simp [zs, List.replicate_succ]
end
end Go.Kf
