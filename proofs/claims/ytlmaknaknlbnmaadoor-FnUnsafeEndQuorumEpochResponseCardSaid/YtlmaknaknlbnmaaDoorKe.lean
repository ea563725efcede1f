/- A part of the calculus by which the claim's proof goes: over any program and any numbering of its functions; no condition beyond those that each theorem names. -/
import Derived.ProofKit
import Derived.OpenShut
import Derived.ChangeSlices
import Derived.WideShapes
import Derived.Carry
import Derived.Test.YtlmaknaknlbnmaaDoorKd
set_option linter.unusedSimpArgs false
set_option linter.unusedVariables false
namespace Go.Kf
open Go Go.RowKit
section
variable {P : Program} {N : Nums}
theorem TL.cellStore (hI : zdx P N) {w0 w w8 : World} {src v v' : Value} {bT bL bR n i lo : Nat} {nl : Bool} {trs ts : List Tr} {σ : Env} (h : TL w0 src bT bL bR n i trs lo nl v ts σ w) (m : Mod w w8 fun k _ => ¬ zao v k) (hone : v'.oneCell' = true) :
  ∃ w9, (Instr.storeAt N.zi (.pointer (some ⟨bL, i * 5 + 3, none⟩)) v').run P w8 = .ok () w9 ∧ Mod w8 w9 (fun k o => k = bL ∧ o = i * 5 + 3) ∧ w9.cell? ⟨bL, i * 5 + 3, none⟩ = some v' ∧ w9.heap.size = w8.heap.size := by
 have lt := h.lt
 have hi := h.le
 have nb : ¬ ¬ zao v bL := fun hk => by have := (h.blk hk).1; omega
 have t8 : w8.there bL (i * 5 + 3) 1 := fun j hj => by
  have := (m.there (by omega) h.tl : w8.there bL 0 (n * 5)) (i * 5 + 3 + j) (by have : (i + 1) * 5 ≤ n * 5 := Nat.mul_le_mul_right _ hi; omega)
  rwa [Nat.zero_add] at this
 have c8 : w8.cell? ⟨bL, i * 5 + 3, none⟩ = some v := by rw [m.cell _ _ (by omega) nb]; exact h.cellL
 exact ⟨_, hI.lt.run_store1 (w := w8) (b := bL) (o := i * 5 + 3) (v := v') hone t8, Mod.setCell fun _ => ⟨rfl, rfl⟩, World.cell?_setCell_same _ _ _ c8, by simp [World.setCell]⟩
theorem TL.push {w0 w w6 w7 w8 w9 : World} {src v v' : Value} {bT bL bR n i lo a : Nat} {nl : Bool} {trs ts : List Tr} {σ : Env} {t : Tr} {cs : List Value} (h : TL w0 src bT bL bR n i trs lo nl v ts σ w)
  (m6 : Mod w w6 zu) (ha : w.heap.size ≤ a) (hrep : RepT w6 (NB a w6.heap.size) t cs) (m7 : Mod w6 w7 zu) (m8 : Mod w7 w8 fun k _ => ¬ zao v k) (hnb : ∀ k, k < w7.heap.size → zao v k → zao v' k) (m9 : Mod w8 w9 fun k o => k = bL ∧ o = i * 5 + 3)
  (hc : w9.cell? ⟨bL, i * 5 + 3, none⟩ = some v') {csl : List (List Value)} (hts : zcb w (GX (fun _ => False) lo w v) ts csl) (ho : Own w9 lo 5 v' (ts ++ [t]).length (csl ++ [cs]).flatten) :
  TL w0 src bT bL bR n i trs lo nl v' (ts ++ [t]) σ w9 := by
 have lt := h.lt
 have m9' : Mod w8 w9 fun k _ => k = bL := m9.mono fun _ _ _ h => h.1
 obtain ⟨q1, q2, q3, q4⟩ := zlg (w := w) (w6 := w6) (w7 := w7) (w8 := w8) (w9 := w9) (G := fun _ => False) (lo := lo) (v := v) (v' := v') (b3 := bL) (a := a) (fun _ h => h.elim) (by omega) (by omega) m6 ha m7 m8 m9' (fun k hk => h.blk hk) hnb
 refine h.move ?_ hc ?_
 ·exact (((m6.mono fun _ _ _ h => h.elim).trans' (m7.mono fun _ _ _ h => h.elim)).trans' (m8.mono fun k o _ hk => .inl (h.blk hk).1)).trans' (m9.mono fun _ _ _ h => .inr h)
 ·exact ⟨csl ++ [cs], ho, (zcb.mod q1 q2 ts hts).append ⟨cs, [], rfl, RepT.mod q3 (fun k hk => q4 k (.inr hk)) t hrep, rfl⟩⟩
theorem zkx (hI : zdx P N) {w0 w w6 : World} {src v : Value} {bT bL bR n i lo a : Nat} {nl : Bool} {trs ts : List Tr} {σ : Env} {t : Tr} {cs : List Value} (h : TL w0 src bT bL bR n i trs lo nl v ts σ w) (hlen : ts.length + 1 < 1099511627776)
  (m6 : Mod w w6 zu) (ha : w.heap.size ≤ a) (hrep : RepT w6 (NB a w6.heap.size) t cs) :
  ∃ w7 v' w8 w9, (Instr.buildSlice N.zi 1 #[(0, .agg cs.toArray)]).run P w6 = .ok (.slice (some ⟨w6.heap.size, 0, none⟩) 1 1) w7 ∧
   (Builtin.append_ #[N.zi, N.zi] N.zi #[v, .slice (some ⟨w6.heap.size, 0, none⟩) 1 1]).run P w7 = .ok v' w8 ∧ (Instr.storeAt N.zi (.pointer (some ⟨bL, i * 5 + 3, none⟩)) v').run P w8 = .ok () w9 ∧
   Mod w w7 (fun k _ => ¬ zao v k) ∧ Mod w w8 (fun k _ => ¬ zao v k) ∧ TL w0 src bT bL bR n i trs lo nl v' (ts ++ [t]) σ w9 := by
 obtain ⟨fs, hI1⟩ := hI.ti
 have hcl := hrep.len
 have lt := h.lt
 have s6 := m6.size
 have hbs := zfn (w := w6) (v := .agg cs.toArray) (cs := cs) hI.lt hI1 rfl hcl (by decide) (by decide)
 obtain ⟨w7, hw7⟩ : ∃ w7, w7 = w6.alloc (.cells cs.toArray N.zp) := ⟨_, rfl⟩
 have m7 : Mod w6 w7 zu := by rw [hw7]; exact Mod.alloc _ _ _
 have s7 : w7.heap.size = w6.heap.size + 1 := by rw [hw7]; exact zal _ _
 have r7 : w7.rangeAt w6.heap.size 0 cs := by rw [hw7]; exact zz w6 _ _ _
 rw [← hw7] at hbs
 clear hw7
 have m07 : Mod w w7 zu := m6.trans' m7
 obtain ⟨css, csl, _, _, hown, hts⟩ := h.ex
 have ho7 : Own w7 lo 5 v ts.length csl.flatten := hown.stay m07 fun _ _ _ h => h
 obtain ⟨v', w8, happ, ho8, m8, hone', hnb⟩ := zgb (P := P) (ty := N.zi) (m := 1) (cb := 1) hI.lt hI1 ho7 r7 (by rw [hcl]) hrep.one (by omega) rfl (zcb.ones hts) (by omega) (by decide) (by decide)
 have m08 : Mod w w8 (fun k _ => ¬ zao v k) := (m07.mono fun _ _ _ h => h.elim).trans' m8
 obtain ⟨w9, hst, m9, c9, s9⟩ := h.cellStore hI m08 hone'
 refine ⟨w7, v', w8, w9, hbs, happ, hst, m07.mono fun _ _ _ h => h.elim, m08, h.push m6 ha hrep m7 m8 hnb m9 c9 hts ?_⟩
 rw [List.flatten_append, List.length_append]
 have := ho8.stay m9 fun k o hk e => by have := (ho8.blk hk).1; have := e.1; omega
 simpa using this
theorem zjl (hI : zdx P N) {w0 w w6 : World} {src v : Value} {bT bL bR n i lo a bz : Nat} {nl : Bool} {trs ts : List Tr} {σ : Env} {t : Tr} {cs : List Value} (h : TL w0 src bT bL bR n i trs lo nl v ts σ w) (hlen : ts.length + 1 < 1099511627776)
  (m6 : Mod w w6 zu) (ha : w.heap.size ≤ a) (hrep : RepT w6 (NB a w6.heap.size) t cs) (hz : w6.rangeAt bz 0 zT) :
  ∃ bv c w8 w9 w10, (Builtin.append_ #[N.zi, N.zi] N.zi #[v, .slice (some ⟨bz, 0, none⟩) 1 1]).run P w6 = .ok (.slice (some ⟨bv, 0, none⟩) (ts.length + 1) c) w8 ∧ (Instr.storeAt N.zi (.pointer (some ⟨bL, i * 5 + 3, none⟩)) (.slice (some ⟨bv, 0, none⟩) (ts.length + 1) c)).run P w8 = .ok () w9 ∧
   Mod w w8 (fun k _ => ¬ zao v k) ∧ (Instr.storeAt N.zp (.pointer (some ⟨bv, ts.length * 5, none⟩)) (.agg cs.toArray)).run P w9 = .ok () w10 ∧ TL w0 src bT bL bR n i trs lo nl (.slice (some ⟨bv, 0, none⟩) (ts.length + 1) c) (ts ++ [t]) σ w10 := by
 obtain ⟨fs, hI1⟩ := hI.ti
 have hcl := hrep.len
 have lt := h.lt
 have s6 := m6.size
 obtain ⟨css, csl, _, _, hown, hts⟩ := h.ex
 have ho7 : Own w6 lo 5 v ts.length csl.flatten := hown.stay m6 fun _ _ _ h => h
 obtain ⟨v', w8, happ, ho8, m8, hone', hnb⟩ := zgb (P := P) (ty := N.zi) (m := 1) (cb := 1) hI.lt hI1 ho7 hz rfl (fun c hc => by
  simp [zT] at hc; rcases hc with rfl | rfl | rfl | rfl <;> rfl) (by omega) rfl (zcb.ones hts) (by omega) (by decide) (by decide)
 have m08 : Mod w w8 (fun k _ => ¬ zao v k) := (m6.mono fun _ _ _ h => h.elim).trans' m8
 obtain ⟨w9, hst, m9, c9, s9⟩ := h.cellStore hI m08 hone'
 have ho9 : Own w9 lo 5 v' (ts.length + 1) (csl.flatten ++ zT) := ho8.stay m9 fun k o hk e => by have := (ho8.blk hk).1; have := e.1; omega
 obtain ⟨bv, c, rfl, g1, g2, g3, g4, g5, g6⟩ : ∃ bv c, v' = .slice (some ⟨bv, 0, none⟩) (ts.length + 1) c ∧ lo ≤ bv ∧ bv < w9.heap.size ∧ ts.length + 1 ≤ c ∧ w9.there bv 0 (c * 5) ∧ w9.rangeAt bv 0 (csl.flatten ++ zT) ∧ (csl.flatten ++ zT).length = (ts.length + 1) * 5 := by
  rcases ho9 with ⟨_, e, _⟩ | h
  ·omega
  ·exact h
 have hfl : csl.flatten.length = ts.length * 5 := by rw [zgd hts.len5, hts.length]
 have t5 : w9.there bv (ts.length * 5) 5 := fun j hj => by
  have := g4 (ts.length * 5 + j) (by have : (ts.length + 1) * 5 ≤ c * 5 := Nat.mul_le_mul_right _ g3; omega)
  rwa [Nat.zero_add] at this
 have m10 : Mod w9 (w9.setCells bv (ts.length * 5) cs) (rng bv (ts.length * 5) 5) := Mod.setCells cs _ w9 fun _ k h1 h2 => ⟨rfl, h1, by omega⟩
 have s10 : (w9.setCells bv (ts.length * 5) cs).heap.size = w9.heap.size := zep _ _ _
 have hst10 := hI1.run_store (w := w9) (b := bv) (o := ts.length * 5) (v := .agg cs.toArray) (cs := cs) rfl hcl t5 hrep.one
 have q := zj.1 g5
 rw [hfl, Nat.zero_add] at q
 have q2 := zah cs (ts.length * 5) w9 _ q.2 (by rw [hcl]; exact Nat.le_refl _)
 rw [List.drop_of_length_le (by rw [hcl]; exact Nat.le_refl _), List.append_nil] at q2
 obtain ⟨w10, hw10⟩ : ∃ w10, w10 = w9.setCells bv (ts.length * 5) cs := ⟨_, rfl⟩
 rw [← hw10] at m10 s10 hst10 q2
 clear hw10
 refine ⟨bv, c, w8, w9, w10, happ, hst, m08, hst10, ?_⟩
 have s8 := m8.size
 have hbv : ∀ k, k = bv → ¬ zao (.slice (some ⟨bv, 0, none⟩) (ts.length + 1) c) k := fun k e hn => hn bv 0 none _ _ rfl e
 have m9' : Mod w8 w9 fun k _ => k = bL := m9.mono fun _ _ _ h => h.1
 obtain ⟨r1, r2, r3, r4⟩ := zlg (w := w) (w6 := w6) (w7 := w6) (w8 := w8) (w9 := w9) (G := fun _ => False) (lo := lo) (v := v) (v' := .slice (some ⟨bv, 0, none⟩) (ts.length + 1) c) (b3 := bL) (a := a) (fun _ h => h.elim) (by omega) (by omega) m6 ha (.refl _ _) m8 m9' (fun k hk => h.blk hk) hnb
 have fin : ∀ k, GX (fun _ => False) lo w9 (.slice (some ⟨bv, 0, none⟩) (ts.length + 1) c) k → k < w9.heap.size ∧ (∀ o, ¬ rng bv (ts.length * 5) 5 k o) ∧ GX (fun _ => False) lo w10 (.slice (some ⟨bv, 0, none⟩) (ts.length + 1) c) k := fun k hk => by
  rcases hk with hk | hk
  ·exact hk.elim
  ·exact ⟨hk.2.1, fun o e => hbv k e.1 hk.2.2, .inr ⟨hk.1, by have := hk.2.1; omega, hk.2.2⟩⟩
 refine h.move ?_ ?_ ⟨csl ++ [cs], ?_, (zcb.mod m10 fin ts (zcb.mod r1 r2 ts hts)).append ⟨cs, [], rfl, RepT.mod m10 fin t (RepT.mod r3 (fun k hk => r4 k (.inr hk)) t hrep), rfl⟩⟩
 ·exact (((m6.mono fun _ _ _ h => h.elim).trans' (m8.mono fun k o _ hk => .inl (h.blk hk).1)).trans' (m9.mono fun _ _ _ h => .inr h)).trans' (m10.mono fun k o _ e => .inl (by have := e.1; omega))
 ·rw [m10.cell _ _ (by omega) (fun e => by have := e.1; omega)]; exact c9
 ·refine .inr ⟨bv, c, by simp, g1, by omega, by simpa using g3, m10.there g2 g4, ?_, by simp [hfl, hcl]; omega⟩
  rw [List.flatten_append, zj, hfl, Nat.zero_add]
  exact ⟨m10.rangeAt g2 (fun j h1 h2 e => by have := e.2.1; omega) q.1, by simpa using q2⟩
end
structure Rw where
 dst : Option Nat
 tmps : List Nat
 after : List Nat
 sel : Bool
 deriving Inhabited
def rowOf (o : ROp) : Rw := ⟨o.dst, zev o, o.after, zsu o.op⟩
def Rw.ren (f : Nat → Nat) (r : Rw) : Rw := ⟨r.dst.map f, r.tmps.map f, r.after, r.sel⟩
def pairT (l : List Rw) (rd : Nat → Bool) (i j : Nat) : Bool :=
 match (l.getD i ⟨none, [], [], false⟩).dst with
 | none => true
 | some d =>
  if i == j then !(l.getD j ⟨none, [], [], false⟩).tmps.contains d
  else (match (l.getD j ⟨none, [], [], false⟩).dst with | some d' => !(Nat.beq d' d) | none => true) &&
   (!(l.getD j ⟨none, [], [], false⟩).tmps.contains d || ((l.getD j ⟨none, [], [], false⟩).after.contains i && (!rd j || rd i)))
def planT (l : List Rw) (rd : Nat → Bool) : Bool :=
 (l.zipIdx.all fun (r, i) => r.after.all fun e => Nat.blt e i) && l.all (fun r => !r.sel) && (List.range l.length).all fun i => (List.range l.length).all fun j => pairT l rd i j
theorem getD_row (l : List ROp) {i : Nat} (hi : i < l.length) : rowOf (l.getD i default) = (l.map rowOf).getD i ⟨none, [], [], false⟩ := by
 simp [List.getD, hi]
theorem plan2_of_T {l : List ROp} {rd : Nat → Bool} (h : planT (l.map rowOf) rd = true) : zkp l rd = true := by
 unfold planT at h
 unfold zkp
 rw [Bool.and_eq_true, Bool.and_eq_true] at h ⊢
 obtain ⟨⟨h1, h2⟩, h3⟩ := h
 refine ⟨⟨?_, ?_⟩, ?_⟩
 ·unfold zny
  rw [List.zipIdx_map, List.all_map] at h1
  exact h1
 ·rw [List.all_map] at h2; exact h2
 ·rw [List.all_eq_true] at h3 ⊢
  intro i hi
  have h4 := h3 i (by simpa using hi)
  rw [List.all_eq_true] at h4 ⊢
  intro j hj
  have h5 := h4 j (by simpa using hj)
  unfold pairT at h5
  rw [← getD_row l (by simpa using hi), ← getD_row l (by simpa using hj)] at h5
  exact h5
theorem zmi {f : Nat → Nat} (hf : ∀ a b, f a = f b → a = b) (d : Nat) : ∀ (l : List Nat), (l.map f).contains (f d) = l.contains d
 | [] => rfl
 | x :: l => by
  rw [List.map_cons, List.contains_cons, List.contains_cons, zmi hf d l]
  congr 1
  rw [Bool.eq_iff_iff, beq_iff_eq, beq_iff_eq]
  exact ⟨hf _ _, fun e => by rw [e]⟩
theorem planT_ren {f : Nat → Nat} (hf : ∀ a b, f a = f b → a = b) (t : List Rw) (rd : Nat → Bool) : planT (t.map (Rw.ren f)) rd = planT t rd := by
 have hg : ∀ i, (t.map (Rw.ren f)).getD i ⟨none, [], [], false⟩ = (t.getD i ⟨none, [], [], false⟩).ren f := fun i => by
  simp only [List.getD, List.getElem?_map]
  cases t[i]? <;> rfl
 have e3 : ∀ i j, pairT (t.map (Rw.ren f)) rd i j = pairT t rd i j := fun i j => by
  unfold pairT
  rw [hg, hg]
  cases hd : (t.getD i ⟨none, [], [], false⟩).dst with
  | none => simp only [Rw.ren, hd, Option.map_none]
  | some d =>
   simp only [Rw.ren, hd, Option.map_some, zmi hf]
   cases hd' : (t.getD j ⟨none, [], [], false⟩).dst with
   | none => rfl
   | some d' =>
    simp only [Option.map_some]
    have : Nat.beq (f d') (f d) = Nat.beq d' d := by
     rw [Bool.eq_iff_iff]
     simp only [Nat.beq_eq]
     exact ⟨hf _ _, fun e => by rw [e]⟩
    rw [this]
 unfold planT
 rw [List.zipIdx_map, List.all_map, List.all_map, List.length_map]
 simp only [e3]
 rfl
def sh (q t : Nat) : Nat := if t < 106 then t else q + t
theorem sh_inj (q : Nat) : ∀ a b, sh q a = sh q b → a = b := fun a b h => by
 unfold sh at h
 split at h <;> split at h <;> omega
theorem zgq {l0 l : List ROp} {rd : Nat → Bool} (q : Nat) (h0 : planT (l0.map rowOf) rd = true) (he : l.map rowOf = (l0.map rowOf).map (Rw.ren (sh q))) : zkp l rd = true :=
 plan2_of_T (by rw [he, planT_ren (sh_inj q)]; exact h0)
section
variable {P : Program} {N : Nums}
theorem zez {Cw : World → Prop} {l : List ROp} {rd : Nat → Bool} {K : Env → World → Prop} {f : Nat} {C : List Nat} {ρ : Env} {w : World} (R : List Nat) (hR : C.filter (fun i => (l.getD i default).after.all fun e => !C.contains e) = R)
  (h : ∀ i ∈ R, zbe P (l.getD i default) ρ w fun ρ w => (zkr l rd i = true ∨ Cw w) ∧ anyC P Cw l rd K f (C.erase i) ρ w) : anyC P Cw l rd K (f + 1) C ρ w := by
 intro i hi
 refine h i ?_
 rw [← hR, List.mem_filter]
 refine ⟨hi.1, ?_⟩
 rw [List.all_eq_true]
 intro e he
 have := hi.2 e he
 simpa using this
def lApp (N : Nums) (Tt idx ft f pT i p : Nat) : List ROp := [
 ⟨some 0, .fieldAddr N.zp (V 2) 3, 0, none, []⟩, ⟨some 1, .load N.zi (T 0), 0, none, [0]⟩, ⟨some 2, .fieldAddr N.zp (V 2) 3, 0, none, []⟩, ⟨some 3, .load N.zi (T 2), 0, none, [2]⟩,
 ⟨some 4, .indexAddr N.zi (T 3) (.const (.int .i64 i)), 0, none, [3]⟩, ⟨some 5, .fieldAddr N.zp (T 4) 3, 0, none, [4]⟩, ⟨some 6, .load N.zi (T 5), 0, none, [5]⟩,
 ⟨some 7, .move (V 0), 0, none, []⟩, ⟨some 8, .nilCheck (T 7), 0, none, [7]⟩, ⟨some 9, .fieldAddr Tt (T 8) idx, 0, none, [8]⟩, ⟨some 10, .load ft (T 9), 0, none, [9]⟩, ⟨some 11, .move (V p), 0, none, []⟩, ⟨some 12, .indexAddr ft (T 10) (T 11), 0, none, [10, 11]⟩,
 ⟨some 13, .call ⟨.value (.func f), #[T 12], #[pT]⟩, N.zp, none, [12]⟩, ⟨some 14, .buildSlice N.zi 1 #[(0, T 13)], 0, none, [13]⟩, ⟨some 15, .call ⟨.builtin .append, #[T 6, T 14], #[N.zi, N.zi]⟩, N.zi, none, [6, 14, 13]⟩,
 ⟨some 16, .indexAddr N.zi (T 1) (.const (.int .i64 i)), 0, none, [1, 0, 1, 2, 3, 4, 5, 6, 7, 8, 9, 10, 11, 12, 13, 14, 15]⟩, ⟨some 17, .fieldAddr N.zp (T 16) 3, 0, none, [16, 0, 1, 2, 3, 4, 5, 6, 7, 8, 9, 10, 11, 12, 13, 14, 15]⟩,
 ⟨none, .store N.zi (T 17) (T 15), 0, none, [17, 15, 15, 0, 1, 2, 3, 4, 5, 6, 7, 8, 9, 10, 11, 12, 13, 14, 15]⟩]
structure LSrc (P : Program) (w0 : World) (b oo off Tt idx ft be L c sz et : Nat) : Prop where
 hT : HF P Tt idx off
 cell : w0.cell? ⟨b, oo + off, none⟩ = some (.slice (some ⟨be, 0, none⟩) L c)
 lt : TI P ft (.slice et) 1 24 (.slice none 0 0)
 et : ∃ d by' z, TI P et d sz by' z
theorem W_appRow (B : Base P N) (hI : zdx P N) {loc : List Nat} {N' : Nat} {Q : Exit → Env → World → Prop} {w0 w : World} {b oo off Tt idx ft be L c sz et bT bL bR n i lo f pT q j : Nat} {nl : Bool} {v : Value} {trs ts : List Tr} {t : Tr} {σ : Env}
  (h : TL w0 (.pointer (some ⟨b, oo, none⟩)) bT bL bR n i trs lo nl v ts σ w) (hs : LSrc P w0 b oo off Tt idx ft be L c sz et) (hlen : ts.length + 1 < 1099511627776) (hp : σ (q + 6) = .int .i64 j) (hj : j < L)
  (hf : zcr P f) (hcall : ∀ w1, Mod w0 w1 zu → Call P f #[.pointer (some ⟨be, j * sz, none⟩)] w1 (Told w1 t))
  (hQ : ∀ v' w', TL w0 (.pointer (some ⟨b, oo, none⟩)) bT bL bR n i trs lo nl v' (ts ++ [t]) σ w' → Q .normal σ w') : W P loc N' (.draw (lApp N Tt idx ft f pT i (q + 6))) Q σ w := by
 obtain ⟨fs, hI1⟩ := hI.ti
 obtain ⟨hT, hc0, hlt, _, _, _, het⟩ := hs
 have f0 := h.f0
 have f1 := h.f1
 have f2 := h.f2
 have lt := h.lt
 have hi := h.le
 have hms := h.mod.size
 have keep : ∀ {w' : World} {k o : Nat} {u : Value}, Mod w w' (fun k _ => ¬ zao v k) → k < lo → w.cell? ⟨k, o, none⟩ = some u → w'.cell? ⟨k, o, none⟩ = some u := fun m hk hc => by
  rw [m.cell _ _ (zag (by rw [hc]; rfl)) (fun hn => by have := (h.blk hn).1; omega)]; exact hc
 have hb0 : b < w0.heap.size := zag (by rw [hc0]; rfl)
 have cF : w.cell? ⟨b, oo + off, none⟩ = some (.slice (some ⟨be, 0, none⟩) L c) := by rw [h.mod.cell _ _ hb0 (fun h => h)]; exact hc0
 have cT := h.cellT
 have cL := h.cellL
 have md : Mod w w.drew zu := Mod.drew _ _
 have md' : Mod w w.drew (fun k _ => ¬ zao v k) := Mod.drew _ _
 refine zgz B.mixed [true, true, true, true, true, true, true, true, true, true, true, true, true, false, false, false, false, false, false] rfl (zgq (l0 := lApp N Tt idx ft f pT i 6) q (by kernel_rfl) rfl) (fun w' => Mod w w' (fun k _ => ¬ zao v k)) md' fun τ => ?_
 have e2 : zcp σ τ 102 = .pointer (some ⟨bT, 0, none⟩) := by rw [← f2]; exact envOf_var σ τ 2
 have e0 : zcp σ τ 100 = .pointer (some ⟨b, oo, none⟩) := by rw [← f0]; exact envOf_var σ τ 0
 have ep : zcp σ τ (q + 6 + 100) = .int .i64 j := by rw [← hp]; exact envOf_var σ τ (q + 6)
 refine za (.pointer (some ⟨bT, 3, none⟩)) (fun w' _ => zh (by simp +decide only [ev_tmp, e2, hI.h3.run])) rfl ?_
 refine za (.slice (some ⟨bL, 0, none⟩) n n) (fun w' hw => zh (by simp +decide only [bE, BEq.rfl, ev_tmp, hI.lt.run_load1 rfl, keep hw (show bT < lo by omega) cT, ldc_some])) rfl ?_
 refine za (.pointer (some ⟨bT, 3, none⟩)) (fun w' _ => zh (by simp +decide only [bE, Nat.reduceBeqDiff, Nat.reduceAdd, Nat.zero_add, ev_tmp, f2, hI.h3.run])) rfl ?_
 refine za (.slice (some ⟨bL, 0, none⟩) n n) (fun w' hw => zh (by simp +decide only [bE, BEq.rfl, ev_tmp, hI.lt.run_load1 rfl, keep hw (show bT < lo by omega) cT, ldc_some])) rfl ?_
 refine za (.pointer (some ⟨bL, i * 5, none⟩)) (fun w' _ => zh (by simp +decide only [bE, BEq.rfl, Nat.zero_add, ev_tmp, ev_const, zx hI.lt hI1 hi])) rfl ?_
 refine za (.pointer (some ⟨bL, i * 5 + 3, none⟩)) (fun w' _ => zh (by simp +decide only [bE, BEq.rfl, ev_tmp, hI.h3.run])) rfl ?_
 refine za v (fun w' hw => zh (by simp +decide only [bE, BEq.rfl, ev_tmp, hI.lt.run_load1 rfl, keep hw (show bL < lo by omega) cL, ldc_some])) rfl ?_
 refine za (.pointer (some ⟨b, oo, none⟩)) (fun w' _ => by rw [zax, ev_tmp]; simp +decide only [bE, Nat.reduceBeqDiff, Nat.zero_add, f0]) rfl ?_
 refine za (.pointer (some ⟨b, oo, none⟩)) (fun w' hw => rfl) rfl ?_
 refine za (.pointer (some ⟨b, oo + off, none⟩)) (fun w' _ => zh (by simp +decide only [bE, BEq.rfl, ev_tmp, hT.run])) rfl ?_
 refine za (.slice (some ⟨be, 0, none⟩) L c) (fun w' hw => zh (by simp +decide only [bE, BEq.rfl, ev_tmp, hlt.run_load1 rfl, keep hw (show b < lo by omega) cF, ldc_some])) rfl ?_
 refine za (.int .i64 j) (fun w' _ => by rw [zax, ev_tmp]; simp +decide (disch := omega) only [zfa, ep]) rfl ?_
 refine za (.pointer (some ⟨be, j * sz, none⟩)) (fun w' _ => zh (by simp +decide only [bE, Nat.reduceBeqDiff, BEq.rfl, Nat.zero_add, ev_tmp, zx hlt het hj])) rfl ?_
 simp only []
 show anyC P _ _ _ _ [13, 14, 15, 16, 17, 18].length [13, 14, 15, 16, 17, 18] _ _
 refine zbw _ _ _ (by kernel_rfl) (by decide) (fun k hk => by simp at hk; subst hk; kernel_rfl) ?_
 simp only [lApp, List.map, List.getD_cons_zero, List.getD_cons_succ, zdc]
 rw [zak hf]
 simp +decide only [bK, bE, Nat.reduceBeqDiff, BEq.rfl]
 refine Call.mono (Rt' := _) (hcall w.drew (h.mod.trans' md)) ?_
 rintro _ w6 ⟨cs, rfl, hrep, m6d⟩
 have m6 : Mod w w6 zu := md.trans' m6d
 obtain ⟨w7, v', w8, w9, hbs, happ, hst, m7, m8, hTL⟩ := zkx hI h hlen m6 (Nat.le_refl _) hrep
 refine ⟨m6.mono fun _ _ _ h => h.elim, ?_⟩
 have e9 : ∀ ρ : Env, (#[(0, T 13)] : Array (Nat × Operand)).map (fun p => (p.1, ev ρ p.2)) = #[(0, ρ 13)] := fun ρ => by simp
 simp +decide only [bK, bE, BEq.rfl, e9, hbs]
 refine ⟨m7, ?_⟩
 simp +decide only [bK, happ]
 refine ⟨m8, ?_⟩
 simp +decide only [bK, Nat.zero_add, zx hI.lt hI1 hi]
 refine ⟨m8, ?_⟩
 simp +decide only [bK, hI.h3.run]
 refine ⟨m8, ?_⟩
 simp +decide only [bK, hst]
 refine zg (K := fun σ' w' => Q .normal σ' w') fun σ9 hσ => ?_
 have e : σ9 = σ := by
  funext k
  rw [hσ k]
  simp +decide (disch := omega) only [zfa, envOf_var]
 rw [e]
 exact hQ _ _ hTL
end
section
variable {P : Program} {N : Nums}
def zTop : Operand := .const (.agg #[(.int .i64 0), (.slice none 0 0), (.bool false), (.slice none 0 0), (.slice none 0 0)])
def lApp0 (N : Nums) (Tt idx ft f pT i p : Nat) : List ROp := [
 ⟨some 0, .fieldAddr N.zp (V 2) 3, 0, none, []⟩, ⟨some 1, .load N.zi (T 0), 0, none, [0]⟩, ⟨some 2, .indexAddr N.zi (T 1) (.const (.int .i64 i)), 0, none, [1]⟩, ⟨some 3, .fieldAddr N.zp (T 2) 3, 0, none, [2]⟩, ⟨some 4, .load N.zi (T 3), 0, none, [3]⟩,
 ⟨some 5, .move (V 0), 0, none, []⟩, ⟨some 6, .nilCheck (T 5), 0, none, [5]⟩, ⟨some 7, .fieldAddr Tt (T 6) idx, 0, none, [6]⟩, ⟨some 8, .load ft (T 7), 0, none, [7]⟩, ⟨some 9, .move (V p), 0, none, []⟩, ⟨some 10, .indexAddr ft (T 8) (T 9), 0, none, [8, 9]⟩,
 ⟨some (p + 2 + 100), .call ⟨.value (.func f), #[T 10], #[pT]⟩, N.zp, none, [10]⟩, ⟨some (p + 3 + 100), .call ⟨.builtin .len, #[T 4], #[N.zi]⟩, N.zt, none, [4]⟩, ⟨some 13, .buildSlice N.zi 1 #[(0, zTop)], 0, none, []⟩,
 ⟨some (p + 4 + 100), .call ⟨.builtin .append, #[T 4, T 13], #[N.zi, N.zi]⟩, N.zi, none, [4, 13, 11, 0, 1, 2, 3, 4, 5, 6, 7, 8, 9, 10, 11, 12, 13]⟩,
 ⟨some 15, .indexAddr N.zi (T 1) (.const (.int .i64 i)), 0, none, [1, 0, 1, 2, 3, 4, 5, 6, 7, 8, 9, 10, 11, 12, 13, 14]⟩, ⟨some 16, .fieldAddr N.zp (T 15) 3, 0, none, [15, 0, 1, 2, 3, 4, 5, 6, 7, 8, 9, 10, 11, 12, 13, 14]⟩,
 ⟨none, .store N.zi (T 16) (V (p + 4)), 0, none, [16, 14, 14, 0, 1, 2, 3, 4, 5, 6, 7, 8, 9, 10, 11, 12, 13, 14]⟩]
def cPut (N : Nums) (p : Nat) : C := .ops [⟨some 0, .indexAddr N.zi (V (p + 4)) (V (p + 3)), 0, none, []⟩, ⟨none, .store N.zp (T 0) (V (p + 2)), 0, none, []⟩]
theorem zae {ρ : Env} {k t : Nat} {v : Value} (h : t ≠ k) : put ρ (some k) v t = ρ t := by
 show (if t = k then v else ρ t) = ρ t
 rw [if_neg h]
theorem zan {ρ : Env} {k : Nat} {v : Value} : put ρ (some k) v k = v := by
 show (if k = k then v else ρ k) = v
 rw [if_pos rfl]
theorem TL.lenV (hI : zdx P N) {w0 w : World} {src v : Value} {bT bL bR n i lo : Nat} {nl : Bool} {trs ts : List Tr} {σ : Env} (h : TL w0 src bT bL bR n i trs lo nl v ts σ w) {ty : TypeId} {w' : World} : (Builtin.len_ #[N.zi] ty #[v]).run P w' = .ok (.int .i64 ts.length) w' := by
 obtain ⟨css, csl, _, _, ho, _⟩ := h.ex
 refine zke hI.lt ?_
 rcases ho with ⟨e, e2, _⟩ | ⟨b, c, e, _⟩
 ·exact .inl ⟨e, e2⟩
 ·exact .inr ⟨b, c, e⟩
theorem W_put (hI : zdx P N) {loc : List Nat} {N' : Nat} {Q : Exit → Env → World → Prop} {w9 w10 : World} {bv L c p : Nat} {cs : List Value} {σ : Env} (h2 : σ (p + 2) = .agg cs.toArray) (h3 : σ (p + 3) = .int .i64 L) (h4 : σ (p + 4) = .slice (some ⟨bv, 0, none⟩) (L + 1) c)
  (hst : (Instr.storeAt N.zp (.pointer (some ⟨bv, L * 5, none⟩)) (.agg cs.toArray)).run P w9 = .ok () w10) (hQ : Q .normal σ w10) : W P loc N' (cPut N p) Q σ w9 := by
 obtain ⟨fs, hI1⟩ := hI.ti
 unfold cPut
 refine zad fun τ => ?_
 have e2 : ∀ v, put (zcp σ τ) (some 0) v (p + 2 + 100) = .agg cs.toArray := fun v => by rw [zfa (by omega) (by omega), envOf_var, h2]
 simp +decide only [runR, zdm, zdr, ev_tmp, envOf_var, h3, h4, zx hI.lt hI1 (show L < L + 1 by omega), Nat.zero_add, stepV_ok, zan, e2, hst, stepU_ok]
 have e : locs (put (zcp σ τ) (some 0) (.pointer (some ⟨bv, L * 5, none⟩))) = σ := by rw [zmh (by decide), locs_envOf]
 rw [e]; exact hQ
theorem W_app0Row (B : Base P N) (hI : zdx P N) {loc : List Nat} {N' : Nat} {Q : Exit → Env → World → Prop} {w0 w : World} {b oo off Tt idx ft be L c sz et bT bL bR n i lo f pT q j : Nat} {nl : Bool} {v : Value} {trs ts : List Tr} {t : Tr} {σ : Env}
  (h : TL w0 (.pointer (some ⟨b, oo, none⟩)) bT bL bR n i trs lo nl v ts σ w) (hs : LSrc P w0 b oo off Tt idx ft be L c sz et) (hlen : ts.length + 1 < 1099511627776) (hp : σ (q + 6) = .int .i64 j) (hj : j < L)
  (hf : zcr P f) (hcall : ∀ w1, Mod w0 w1 zu → Call P f #[.pointer (some ⟨be, j * sz, none⟩)] w1 (Told w1 t))
  (hQ : ∀ σ' v' w', (∀ k, k < q + 8 → σ' k = σ k) → TL w0 (.pointer (some ⟨b, oo, none⟩)) bT bL bR n i trs lo nl v' (ts ++ [t]) σ' w' → Q .normal σ' w') : W P loc N' (.seq (.draw (lApp0 N Tt idx ft f pT i (q + 6))) (cPut N (q + 6))) Q σ w := by
 obtain ⟨fs, hI1⟩ := hI.ti
 obtain ⟨hT, hc0, hlt, _, _, _, het⟩ := hs
 have f0 := h.f0
 have f1 := h.f1
 have f2 := h.f2
 have lt := h.lt
 have hi := h.le
 have hms := h.mod.size
 have keep : ∀ {w' : World} {k o : Nat} {u : Value}, Mod w w' (fun k _ => ¬ zao v k) → k < lo → w.cell? ⟨k, o, none⟩ = some u → w'.cell? ⟨k, o, none⟩ = some u := fun m hk hc => by
  rw [m.cell _ _ (zag (by rw [hc]; rfl)) (fun hn => by have := (h.blk hn).1; omega)]; exact hc
 have hb0 : b < w0.heap.size := zag (by rw [hc0]; rfl)
 have cF : w.cell? ⟨b, oo + off, none⟩ = some (.slice (some ⟨be, 0, none⟩) L c) := by rw [h.mod.cell _ _ hb0 (fun h => h)]; exact hc0
 have cT := h.cellT
 have cL := h.cellL
 have md : Mod w w.drew zu := Mod.drew _ _
 have md' : Mod w w.drew (fun k _ => ¬ zao v k) := Mod.drew _ _
 refine zc fun K hK => zgz B.mixed [true, true, true, true, true, true, true, true, true, true, true, false, true, false, false, false, false, false] rfl (zgq (l0 := lApp0 N Tt idx ft f pT i 6) q (by kernel_rfl) rfl) (fun w' => Mod w w' (fun k _ => ¬ zao v k)) md' fun τ => ?_
 have e2 : zcp σ τ 102 = .pointer (some ⟨bT, 0, none⟩) := by rw [← f2]; exact envOf_var σ τ 2
 have ep : zcp σ τ (q + 6 + 100) = .int .i64 j := by rw [← hp]; exact envOf_var σ τ (q + 6)
 refine za (.pointer (some ⟨bT, 3, none⟩)) (fun w' _ => zh (by simp +decide only [ev_tmp, e2, hI.h3.run])) rfl ?_
 refine za (.slice (some ⟨bL, 0, none⟩) n n) (fun w' hw => zh (by simp +decide only [bE, BEq.rfl, ev_tmp, hI.lt.run_load1 rfl, keep hw (show bT < lo by omega) cT, ldc_some])) rfl ?_
 refine za (.pointer (some ⟨bL, i * 5, none⟩)) (fun w' _ => zh (by simp +decide only [bE, BEq.rfl, Nat.zero_add, ev_tmp, ev_const, zx hI.lt hI1 hi])) rfl ?_
 refine za (.pointer (some ⟨bL, i * 5 + 3, none⟩)) (fun w' _ => zh (by simp +decide only [bE, BEq.rfl, ev_tmp, hI.h3.run])) rfl ?_
 refine za v (fun w' hw => zh (by simp +decide only [bE, BEq.rfl, ev_tmp, hI.lt.run_load1 rfl, keep hw (show bL < lo by omega) cL, ldc_some])) rfl ?_
 refine za (.pointer (some ⟨b, oo, none⟩)) (fun w' _ => by rw [zax, ev_tmp]; simp +decide only [bE, Nat.reduceBeqDiff, Nat.zero_add, f0]) rfl ?_
 refine za (.pointer (some ⟨b, oo, none⟩)) (fun w' hw => rfl) rfl ?_
 refine za (.pointer (some ⟨b, oo + off, none⟩)) (fun w' _ => zh (by simp +decide only [bE, BEq.rfl, ev_tmp, hT.run])) rfl ?_
 refine za (.slice (some ⟨be, 0, none⟩) L c) (fun w' hw => zh (by simp +decide only [bE, BEq.rfl, ev_tmp, hlt.run_load1 rfl, keep hw (show b < lo by omega) cF, ldc_some])) rfl ?_
 refine za (.int .i64 j) (fun w' _ => by rw [zax, ev_tmp]; simp +decide (disch := omega) only [zfa, ep]) rfl ?_
 refine za (.pointer (some ⟨be, j * sz, none⟩)) (fun w' _ => zh (by simp +decide only [bE, Nat.reduceBeqDiff, BEq.rfl, Nat.zero_add, ev_tmp, zx hlt het hj])) rfl ?_
 simp only []
 refine ⟨.int .i64 ts.length, fun w' _ => .inl ⟨rfl, ?_⟩, ?_⟩
 ·have hl := h.lenV (P := P) (N := N) hI (ty := N.zt) (w' := w')
  simp +decide only [exec, execOp, resolve, invoke, builtin, List.map_toArray, List.map, bE, Nat.reduceBeqDiff, BEq.rfl, ev_tmp]
  simp [hl]
 show anyC P _ _ _ _ ([11, 13, 14, 15, 16, 17].length - 1 + 1) [11, 13, 14, 15, 16, 17] _ _
 have fin : ∀ {ρ : Env} {w6 : World} {bz : Nat} {cs : List Value}, RepT w6 (NB w.heap.size w6.heap.size) t cs → Mod w w6 zu → w6.rangeAt bz 0 zT → ρ 1 = .slice (some ⟨bL, 0, none⟩) n n → ρ 4 = v → ρ 13 = .slice (some ⟨bz, 0, none⟩) 1 1 →
   ρ (q + 6 + 2 + 100) = .agg cs.toArray → ρ (q + 6 + 3 + 100) = .int .i64 ts.length → (∀ k, k < q + 8 → ρ (k + 100) = σ k) →
   zdc P (fun w' => Mod w w' (fun k _ => ¬ zao v k)) (fun ρ w => zee K Q .normal (locs ρ) w) [⟨some (q + 6 + 4 + 100), .call ⟨.builtin .append, #[T 4, T 13], #[N.zi, N.zi]⟩, N.zi, none, [4, 13, 11, 0, 1, 2, 3, 4, 5, 6, 7, 8, 9, 10, 11, 12, 13]⟩,
    ⟨some 15, .indexAddr N.zi (T 1) (.const (.int .i64 i)), 0, none, [1, 0, 1, 2, 3, 4, 5, 6, 7, 8, 9, 10, 11, 12, 13, 14]⟩, ⟨some 16, .fieldAddr N.zp (T 15) 3, 0, none, [15, 0, 1, 2, 3, 4, 5, 6, 7, 8, 9, 10, 11, 12, 13, 14]⟩,
    ⟨none, .store N.zi (T 16) (V (q + 6 + 4)), 0, none, [16, 14, 14, 0, 1, 2, 3, 4, 5, 6, 7, 8, 9, 10, 11, 12, 13, 14]⟩] ρ w6 := by
  intro ρ w6 bz cs hrep m6 hz h1 h4 h13 hv8 hv9 hσ
  obtain ⟨bv, c', w8, w9, w10, happ, hst, m8, hst10, hTL⟩ := zjl hI h hlen m6 (Nat.le_refl _) hrep hz
  simp only [zdc]
  simp +decide only [zel, ev_tmp, h4, h13, happ, stepV_ok]
  refine ⟨m8, ?_⟩
  simp +decide (disch := omega) only [zdm, ev_tmp, ev_const, zae, h1, zx hI.lt hI1 hi, stepV_ok, Nat.zero_add]
  refine ⟨m8, ?_⟩
  simp +decide (disch := omega) only [zed, ev_tmp, zan, hI.h3.run, stepV_ok]
  refine ⟨m8, ?_⟩
  simp +decide (disch := omega) only [zdr, ev_tmp, zae, zan, hst, stepU_ok]
  refine zg (K := fun σ' w' => zee K Q .normal σ' w') fun σ9 hσ9 => hK _ _ ?_
  have g : ∀ k, k < q + 8 → σ9 k = σ k := fun k hk => by
   rw [hσ9 k]
   simp +decide (disch := omega) only [zae]
   exact hσ k hk
  refine W_put hI (L := ts.length) (bv := bv) (c := c') (cs := cs) (w10 := w10) ?_ ?_ ?_ hst10 (hQ _ _ _ g (hTL.env (g 0 (by omega)) (g 1 (by omega)) (g 2 (by omega))))
  ·rw [hσ9]; simp +decide (disch := omega) only [zae]; exact hv8
  ·rw [hσ9]; simp +decide (disch := omega) only [zae]; exact hv9
  ·rw [hσ9]; simp +decide (disch := omega) only [zae, zan]
 have ezz : ∀ ρ : Env, (#[(0, zTop)] : Array (Nat × Operand)).map (fun p => (p.1, ev ρ p.2)) = #[(0, .agg zT.toArray)] := fun ρ => by simp [zTop, zT]
 have hz1 : ∀ c ∈ zT, c.oneCell' = true := fun c hc => by simp [zT] at hc; rcases hc with rfl | rfl | rfl | rfl <;> rfl
 refine zez [11, 13] (by kernel_rfl) fun k hk => ?_
 simp only [List.mem_cons, List.not_mem_nil, or_false] at hk
 rcases hk with rfl | rfl
 ·
  show zbe P ⟨some (q + 6 + 2 + 100), .call ⟨.value (.func f), #[T 10], #[pT]⟩, N.zp, none, [10]⟩ _ _ _
  rw [zak hf]
  have e10 : ∀ (ρ : Env) (u u' : Value), ev (put (put ρ (some 10) u) (some (q + 6 + 3 + 100)) u') (T 10) = u := fun ρ u u' => by rw [ev_tmp, zae (by omega), zan]
  rw [e10]
  refine Call.mono (Rt' := _) (hcall w.drew (h.mod.trans' md)) ?_
  rintro _ w6 ⟨cs, rfl, hrep, m6d⟩
  have m6 : Mod w w6 zu := md.trans' m6d
  refine ⟨.inr (m6.mono fun _ _ _ h => h.elim), ?_⟩
  show anyC P _ _ _ _ [13, 14, 15, 16, 17].length [13, 14, 15, 16, 17] _ _
  refine zbw _ _ _ (by kernel_rfl) (by decide) (fun k hk => by simp at hk; subst hk; kernel_rfl) ?_
  show zbe P ⟨some 13, .buildSlice N.zi 1 #[(0, zTop)], 0, none, []⟩ _ _ _
  have hbs := zfn (w := w6) (v := .agg zT.toArray) (cs := zT) hI.lt hI1 rfl rfl (by decide) (by decide)
  simp +decide only [zcd, ezz, hbs, stepV_ok]
  have m7 : Mod w6 (w6.alloc (.cells zT.toArray N.zp)) zu := Mod.alloc _ _ _
  have s7 : (w6.alloc (.cells zT.toArray N.zp)).heap.size = w6.heap.size + 1 := zal _ _
  refine ⟨(m6.trans' m7).mono fun _ _ _ h => h.elim, fin (cs := cs) (RepT.mod m7 (fun k hk => ⟨hk.2, fun _ h => h, ⟨hk.1, by have := hk.2; omega⟩⟩) t hrep) (m6.trans' m7) (zz w6 zT.toArray N.zp (0, 0)) ?_ ?_ ?_ ?_ ?_ ?_⟩
  ·simp +decide (disch := omega) only [zae, zan]
  ·simp +decide (disch := omega) only [zae, zan]
  ·exact zan
  ·simp +decide (disch := omega) only [zae, zan]
  ·simp +decide (disch := omega) only [zae, zan]
  ·intro k hk
   simp +decide (disch := omega) only [zae, envOf_var]
 ·
  show zbe P ⟨some 13, .buildSlice N.zi 1 #[(0, zTop)], 0, none, []⟩ _ _ _
  have hbs := zfn (w := w.drew) (v := .agg zT.toArray) (cs := zT) hI.lt hI1 rfl rfl (by decide) (by decide)
  simp +decide only [zcd, ezz, hbs, stepV_ok]
  obtain ⟨w1, hw1⟩ : ∃ w1, w1 = w.drew.alloc (.cells zT.toArray N.zp) := ⟨_, rfl⟩
  have m1 : Mod w.drew w1 zu := by rw [hw1]; exact Mod.alloc _ _ _
  have s1 : w1.heap.size = w.heap.size + 1 := by rw [hw1]; exact zal w.drew _
  have r1 : w1.rangeAt w.heap.size 0 zT := by rw [hw1]; exact zz w.drew zT.toArray N.zp (0, 0)
  rw [← hw1]
  clear hw1 hbs
  have m01 : Mod w w1 zu := md.trans' m1
  refine ⟨.inr (m01.mono fun _ _ _ h => h.elim), ?_⟩
  show anyC P _ _ _ _ [11, 14, 15, 16, 17].length [11, 14, 15, 16, 17] _ _
  refine zbw _ _ _ (by kernel_rfl) (by decide) (fun k hk => by simp at hk; subst hk; kernel_rfl) ?_
  show zbe P ⟨some (q + 6 + 2 + 100), .call ⟨.value (.func f), #[T 10], #[pT]⟩, N.zp, none, [10]⟩ _ _ _
  rw [zak hf]
  have e10 : ∀ (ρ : Env) (u u' u'' : Value), ev (put (put (put ρ (some 10) u) (some (q + 6 + 3 + 100)) u') (some 13) u'') (T 10) = u := fun ρ u u' u'' => by rw [ev_tmp, zae (by omega), zae (by omega), zan]
  rw [e10]
  refine Call.mono (Rt' := _) (hcall w1 (h.mod.trans' m01)) ?_
  rintro _ w6 ⟨cs, rfl, hrep, m6d⟩
  have m6 : Mod w w6 zu := m01.trans' m6d
  refine ⟨m6.mono fun _ _ _ h => h.elim, fin (bz := w.heap.size) (cs := cs) (RepT.mono (fun k hk => ⟨by have := hk.1; omega, hk.2⟩) t hrep) m6 (zaf m6d r1) ?_ ?_ ?_ ?_ ?_ ?_⟩
  ·simp +decide (disch := omega) only [zae, zan]
  ·simp +decide (disch := omega) only [zae, zan]
  ·simp +decide (disch := omega) only [zae, zan]; rfl
  ·simp +decide (disch := omega) only [zan]
  ·simp +decide (disch := omega) only [zae, zan]
  ·intro k hk
   simp +decide (disch := omega) only [zae, envOf_var]
end
section
variable {P : Program} {N : Nums}
def lBool (N : Nums) (p : Nat) : List ROp := [⟨some 0, .alloc N.zbg, 0, none, []⟩, ⟨none, .store N.zbg (T 0) (.const (.bool true)), 0, none, [0]⟩, ⟨none, .store N.zbg (T 0) (.const (.bool false)), 0, none, [0]⟩, ⟨some (p + 1 + 100), .load N.zbg (T 0), 0, none, [0, 0, 1, 2]⟩]
theorem W_bool (B : Base P N) {loc : List Nat} {N' : Nat} {Q : Exit → Env → World → Prop} {w : World} {σ : Env} {q : Nat} (hQ : ∀ x w', Mod w w' zu → Q .normal (upd σ (q + 7) (.bool x)) w') : W P loc N' (.draw (lBool N (q + 6))) Q σ w := by
 have md : Mod w w.drew zu := Mod.drew _ _
 refine zgz B.mixed [false, false, false, false] rfl (zgq (l0 := lBool N 6) q (by kernel_rfl) rfl) (fun _ => True) trivial fun τ => ?_
 simp only [zcs, lBool, List.zip_cons_cons, List.zip_nil_right]
 show anyC P _ _ _ _ (3 + 1) [0, 1, 2, 3] _ _
 refine zez [0] (by kernel_rfl) fun k hk => ?_
 simp only [List.mem_cons, List.not_mem_nil, or_false] at hk
 subst hk
 show zbe P ⟨some 0, .alloc N.zbg, 0, none, []⟩ _ _ _
 obtain ⟨w1, hw1⟩ : ∃ w1, w1 = w.drew.alloc (.cells (Value.cells (.bool false)) N.zbg) := ⟨_, rfl⟩
 have m1 : Mod w.drew w1 zu := by rw [hw1]; exact Mod.alloc _ _ _
 have s1 : w1.heap.size = w.heap.size + 1 := by rw [hw1]; exact zal w.drew _
 have r1 : w1.rangeAt w.heap.size 0 [.bool false] := by rw [hw1]; exact zz w.drew _ N.zbg (0, 0)
 have t1 : w1.there w.heap.size 0 1 := by rw [hw1]; exact zbq w.drew _ N.zbg
 have hal := B.bool.run_alloc (w := w.drew) (.tuple #[])
 rw [← hw1] at hal
 simp +decide only [zlo, hal, stepV_ok]
 refine ⟨.inr trivial, ?_⟩
 have m01 : Mod w w1 zu := md.trans' m1
 have st : ∀ {w2 : World} {x : Bool}, Mod w1 w2 (blk w.heap.size) → w2.heap.size = w1.heap.size → ∃ w3, (Instr.storeAt N.zbg (.pointer (some ⟨w.heap.size, 0, none⟩)) (.bool x)).run P w2 = .ok () w3 ∧ Mod w1 w3 (blk w.heap.size) ∧ w3.heap.size = w1.heap.size ∧ w3.cell? ⟨w.heap.size, 0, none⟩ = some (.bool x) := by
  intro w2 x m s
  have t2 : w2.there w.heap.size 0 1 := m.there (by omega) t1
  have h2 : ∃ u, w2.cell? ⟨w.heap.size, 0, none⟩ = some u := by
   have := (t2 0 (by decide)).1
   exact Option.isSome_iff_exists.1 (by simpa using this)
  obtain ⟨u, hu⟩ := h2
  exact ⟨_, B.bool.run_store1 (w := w2) (b := w.heap.size) (o := 0) (v := .bool x) rfl t2, m.trans' (Mod.setCell fun _ => rfl), by simpa [World.setCell] using s, World.cell?_setCell_same _ _ _ hu⟩
 have fin : ∀ {ρ : Env} {w3 : World} {x : Bool}, ρ 0 = .pointer (some ⟨w.heap.size, 0, none⟩) → (∀ k, ρ (k + 100) = σ k) → Mod w1 w3 (blk w.heap.size) → w3.cell? ⟨w.heap.size, 0, none⟩ = some (.bool x) →
   anyC P (fun _ => True) (lBool N (q + 6)) (rdOf [false, false, false, false]) (fun ρ w => Q .normal (locs ρ) w) (0 + 1) [3] ρ w3 := by
  intro ρ w3 x h0 hσ m hc
  refine zez [3] (by kernel_rfl) fun k hk => ?_
  simp only [List.mem_cons, List.not_mem_nil, or_false] at hk
  subst hk
  show zbe P ⟨some (q + 6 + 1 + 100), .load N.zbg (T 0), 0, none, [0, 0, 1, 2]⟩ _ _ _
  simp +decide only [zja, ev_tmp, h0, B.bool.run_load1 rfl, hc, ldc_some, stepV_ok]
  refine ⟨.inr trivial, ?_⟩
  show Q .normal _ _
  have e : locs (put ρ (some (q + 6 + 1 + 100)) (.bool x)) = upd σ (q + 7) (.bool x) := by
   rw [zf]
   funext k
   simp only [upd]
   by_cases hk : k = q + 6 + 1
   ·rw [if_pos hk, if_pos (by omega)]
   ·rw [if_neg hk, if_neg (by omega)]; exact hσ k
  rw [e]
  exact hQ x w3 (m01.fresh m fun k o e => by have : k = w.heap.size := e; omega)
 refine zez [1, 2] (by kernel_rfl) fun k hk => ?_
 simp only [List.mem_cons, List.not_mem_nil, or_false] at hk
 have h0 : ∀ ρ : Env, put ρ (some 0) (.pointer (some ⟨w.heap.size, 0, none⟩)) 0 = .pointer (some ⟨w.heap.size, 0, none⟩) := fun ρ => zan
 have hσ : ∀ k, put (zcp σ τ) (some 0) (.pointer (some ⟨w.heap.size, 0, none⟩)) (k + 100) = σ k := fun k => by rw [zfa (by decide) (by omega), envOf_var]
 rcases hk with rfl | rfl
 ·show zbe P ⟨none, .store N.zbg (T 0) (.const (.bool true)), 0, none, [0]⟩ _ _ _
  obtain ⟨w3, h3, m3, s3, c3⟩ := st (x := true) (.refl w1 _) rfl
  have h3' : ∀ w' : World, w' = w1 → (Instr.storeAt N.zbg (.pointer (some ⟨w.heap.size, 0, none⟩)) (.bool true)).run P w' = .ok () w3 := fun w' e => by rw [e]; exact h3
  have hs : (w.drew).heap.size = w.heap.size := rfl
  simp +decide only [zdr, ev_tmp, ev_const, hs, h0, h3, stepU_ok]
  refine ⟨.inr trivial, ?_⟩
  show anyC P _ _ _ _ (1 + 1) [2, 3] _ _
  refine zez [2] (by kernel_rfl) fun k hk => ?_
  simp only [List.mem_cons, List.not_mem_nil, or_false] at hk
  subst hk
  show zbe P ⟨none, .store N.zbg (T 0) (.const (.bool false)), 0, none, [0]⟩ _ _ _
  obtain ⟨w4, h4, m4, s4, c4⟩ := st (x := false) m3 s3
  simp +decide only [zdr, ev_tmp, ev_const, h0, h4, stepU_ok]
  exact ⟨.inr trivial, fin (h0 _) hσ m4 c4⟩
 ·show zbe P ⟨none, .store N.zbg (T 0) (.const (.bool false)), 0, none, [0]⟩ _ _ _
  obtain ⟨w3, h3, m3, s3, c3⟩ := st (x := false) (.refl w1 _) rfl
  have hs : (w.drew).heap.size = w.heap.size := rfl
  simp +decide only [zdr, ev_tmp, ev_const, hs, h0, h3, stepU_ok]
  refine ⟨.inr trivial, ?_⟩
  show anyC P _ _ _ _ (1 + 1) [1, 3] _ _
  refine zez [1] (by kernel_rfl) fun k hk => ?_
  simp only [List.mem_cons, List.not_mem_nil, or_false] at hk
  subst hk
  show zbe P ⟨none, .store N.zbg (T 0) (.const (.bool true)), 0, none, [0]⟩ _ _ _
  obtain ⟨w4, h4, m4, s4, c4⟩ := st (x := true) m3 s3
  simp +decide only [zdr, ev_tmp, ev_const, h0, h4, stepU_ok]
  exact ⟨.inr trivial, fin (h0 _) hσ m4 c4⟩
theorem TL.stay {w0 w w' : World} {src v : Value} {bT bL bR n i lo : Nat} {nl : Bool} {trs ts : List Tr} {σ : Env} (h : TL w0 src bT bL bR n i trs lo nl v ts σ w) (m : Mod w w' zu) : TL w0 src bT bL bR n i trs lo nl v ts σ w' := by
 have lt := h.lt
 have hs := m.size
 refine h.move (m.mono fun _ _ _ h => h.elim) ?_ ?_
 ·have := h.cellL; rw [m.cell _ _ (by omega) (fun h => h)]; exact this
 ·obtain ⟨css, csl, _, _, ho, hts⟩ := h.ex
  exact ⟨csl, ho.stay m fun _ _ _ h => h, zcb.mod m (fun k hk => hk.elim False.elim fun hk => ⟨hk.2.1, fun _ h => h, .inr ⟨hk.1, by have := hk.2.1; omega, hk.2.2⟩⟩) ts hts⟩
def cTList (N : Nums) (Tt idx ft q k : Nat) (app0 app : C) : C :=
 .seq (.ops [⟨some 0, .move (V 0), 0, none, []⟩, ⟨some 1, .nilCheck (T 0), 0, none, []⟩, ⟨some 2, .fieldAddr Tt (T 1) idx, 0, none, []⟩, ⟨some 3, .load ft (T 2), 0, none, []⟩, ⟨some (q + 3 + 100), .call ⟨.builtin .len, #[T 3], #[ft]⟩, N.zt, none, []⟩, ⟨some (q + 4 + 100), .move (.const (.int .i64 0)), 0, none, []⟩])
  (cRange N (q + 4) (q + 3) (q + 5) k (.seq (.ops [⟨some 0, .move (V (q + 4)), 0, none, []⟩, ⟨some (q + 6 + 100), .assign (T 0), 0, none, []⟩])
   (.seq (.draw (lBool N (q + 6))) (.cond (q + 7) app0 app))))
theorem W_tList (B : Base P N) {loc : List Nat} {N' : Nat} (hlo : zec loc N') {Q : Exit → Env → World → Prop} {w0 w : World} {b oo off Tt idx ft c et bT bL bR n i lo q k : Nat} {a : Option Addr} {nl : Bool} {trs ts : List Tr} {σ : Env} {app0 app : C}
  (hT : HF P Tt idx off) (hcell : w0.cell? ⟨b, oo + off, none⟩ = some (.slice a ts.length c)) (hlt : TI P ft (.slice et) 1 24 (.slice none 0 0)) (hlen : ts.length < 1099511627776)
  (hbody : ∀ (x : Bool) (j : Nat) (σ : Env) (w : World) (v : Value) (Q : Exit → Env → World → Prop), j < ts.length → σ (q + 6) = .int .i64 j → TL w0 (.pointer (some ⟨b, oo, none⟩)) bT bL bR n i trs lo nl v (ts.take j) σ w →
   (∀ σ' v' w', (∀ k, k < q + 8 → σ' k = σ k) → TL w0 (.pointer (some ⟨b, oo, none⟩)) bT bL bR n i trs lo nl v' (ts.take (j + 1)) σ' w' → Q .normal σ' w') → W P loc N' (if x then app0 else app) Q σ w)
  (h : TL w0 (.pointer (some ⟨b, oo, none⟩)) bT bL bR n i trs lo nl (.slice none 0 0) [] σ w)
  (hQ : ∀ σ' w', TF w0 (.pointer (some ⟨b, oo, none⟩)) bT bL bR n (i + 1) (trs ++ [.mk 0 [] nl ts []]) σ' w' → Q .normal σ' w') : W P loc N' (cTList N Tt idx ft q k app0 app) Q σ w := by
 have f0 := h.f0
 have hb0 : b < w0.heap.size := zag (by rw [hcell]; rfl)
 have cF : w.cell? ⟨b, oo + off, none⟩ = some (.slice a ts.length c) := by rw [h.mod.cell _ _ hb0 (fun h => h)]; exact hcell
 unfold cTList
 refine zc fun K hK => zad fun τ => ?_
 simp +decide only [bK, bE, BEq.rfl, Nat.zero_add, f0]
 rw [zaa rfl]
 simp +decide only [bK, bE, BEq.rfl, hT.run, hlt.run_load1 rfl, cF, hlt.run_len]
 refine hK _ _ (zg fun σ1 hσ => ?_)
 have g : ∀ k, k < 3 → σ1 k = σ k := fun k hk => by
  rw [hσ]
  simp +decide (disch := omega) only [zae, envOf_var]
 have g3 : σ1 (q + 3) = .int .i64 ts.length := by
  rw [hσ]; simp +decide (disch := omega) only [zae, zan]
 have g4 : σ1 (q + 4) = .int .i64 0 := by
  rw [hσ]; simp +decide (disch := omega) only [zan]
 clear hσ hK K
 have h1 := h.env (σ' := σ1) (g 0 (by decide)) (g 1 (by decide)) (g 2 (by decide))
 refine zhp (i := q + 4) (l := q + 3) (c := q + 5) (k := k) hlo (L := ts.length) (by omega) (fun j σ w => σ (q + 4) = .int .i64 j ∧ σ (q + 3) = .int .i64 ts.length ∧ j ≤ ts.length ∧ ∃ v, TL w0 (.pointer (some ⟨b, oo, none⟩)) bT bL bR n i trs lo nl v (ts.take j) σ w) (fun j σ w h => ⟨h.1, h.2.1, h.2.2.1⟩) (fun j σ w b h => ?_) ⟨g4, g3, Nat.zero_le _, _, h1⟩ (fun σ' w' h => ?_) (fun j σ' w' hj h => ?_)
 ·obtain ⟨a1, a2, a3, v, a4⟩ := h
  exact ⟨by rw [ze (by omega)]; exact a1, by rw [ze (by omega)]; exact a2, a3, v, a4.env (ze (by omega)) (ze (by omega)) (ze (by omega))⟩
 ·obtain ⟨_, _, _, v, a4⟩ := h
  rw [List.take_length] at a4
  exact hQ _ _ a4.done
 ·obtain ⟨a1, a2, a3, v, a4⟩ := h
  refine zc fun K hK => zad fun τ => ?_
  simp +decide (disch := omega) only [runR, ziz, zkk, ev_tmp, zan, envOf_var, a1, zf, zac, locs_envOf]
  refine hK _ _ (zc fun K2 hK2 => W_bool B fun x w5 m5 => hK2 _ _ ?_)
  clear hK2 K2 hK K
  refine W_cond (t := x) (upd_same _ _ _) (hlo.lt _) ?_
  have up : ∀ k, k < q + 6 → upd (upd σ' (q + 6) (.int .i64 j)) (q + 7) (.bool x) k = σ' k := fun k hk => by rw [ze (by omega), ze (by omega)]
  refine hbody x j _ w5 v _ hj (by rw [ze (by omega)]; exact upd_same _ _ _) ((a4.stay m5).env (up 0 (by omega)) (up 1 (by omega)) (up 2 (by omega))) fun σ6 v6 w6 hag h6 => ?_
  refine ⟨by rw [hag _ (by omega), up _ (by omega)]; exact a1, upd_same _ _ _, by rw [ze (by omega), hag _ (by omega), up _ (by omega)]; exact a2, by omega, v6, h6.env (ze (by omega)) (ze (by omega)) (ze (by omega))⟩
end
section
variable {P : Program} {N : Nums}
def cTNull (N : Nums) (Tt idx ft i : Nat) : C := .draw [
 ⟨some 0, .fieldAddr N.zp (V 2) 3, 0, none, []⟩, ⟨some 1, .load N.zi (T 0), 0, none, [0]⟩, ⟨some 2, .move (V 0), 0, none, []⟩, ⟨some 3, .nilCheck (T 2), 0, none, [2]⟩, ⟨some 4, .fieldAddr Tt (T 3) idx, 0, none, [3]⟩, ⟨some 5, .load ft (T 4), 0, none, [4]⟩,
 ⟨some 6, .binOp .eql ft (T 5) (.const (.slice none 0 0)) ft, 0, none, [5]⟩, ⟨some 7, .indexAddr N.zi (T 1) (.const (.int .i64 i)), 0, none, [1, 0, 1, 2, 3, 4, 5, 6]⟩, ⟨some 8, .fieldAddr N.zp (T 7) 2, 0, none, [7, 0, 1, 2, 3, 4, 5, 6]⟩, ⟨none, .store N.zbg (T 8) (T 6), 0, none, [8, 6, 0, 1, 2, 3, 4, 5, 6]⟩]
theorem W_tNull (B : Base P N) (F : Fns P N) (hI : zdx P N) {loc : List Nat} {N' : Nat} {Q : Exit → Env → World → Prop} {w0 w : World} {b oo off Tt idx bT bL bR n i : Nat} {trs : List Tr} {σ : Env} {ft et L c : Nat} {a : Option Addr} (hft : TI P ft (.slice et) 1 24 (.slice none 0 0))
  (h : TF w0 (.pointer (some ⟨b, oo, none⟩)) bT bL bR n i trs σ w) (hi : i < n) (hT : HF P Tt idx off) (hc : w0.cell? ⟨b, oo + off, none⟩ = some (.slice a L c))
  (hQ : ∀ σ' w' lo, TL w0 (.pointer (some ⟨b, oo, none⟩)) bT bL bR n i trs lo a.isNone (.slice none 0 0) [] σ' w' → Q .normal σ' w') : W P loc N' (cTNull N Tt idx ft i) Q σ w := by
 obtain ⟨fs, hI1⟩ := hI.ti
 have f0 := h.f0
 have f1 := h.f1
 have f2 := h.f2
 have cT : w.cell? ⟨bT, 3, none⟩ = some (.slice (some ⟨bL, 0, none⟩) n n) := h.tc 3 _ rfl
 have cF : w.cell? ⟨b, oo + off, none⟩ = some (.slice a L c) := by rw [h.mod.cell _ _ (zag (by rw [hc]; rfl)) (fun h => h)]; exact hc
 have st : ∀ {w' : World} {k o : Nat} {v : Value}, Mod w w' zu → w.cell? ⟨k, o, none⟩ = some v → w'.cell? ⟨k, o, none⟩ = some v := fun m hc => by rw [m.cell _ _ (zag (by rw [hc]; rfl)) (fun h => h)]; exact hc
 have md : Mod w w.drew zu := Mod.drew _ _
 refine zfv B.mixed [true, true, true, true, true, true, false, false, false, false] (by kernel_rfl) (fun w' => Mod w w' zu) md fun τ => ?_
 have e2 : zcp σ τ 102 = .pointer (some ⟨bT, 0, none⟩) := by rw [← f2]; exact envOf_var σ τ 2
 refine za (.pointer (some ⟨bT, 3, none⟩)) (fun w' _ => zh (by
  simp +decide only [ev_tmp, e2, hI.h3.run])) rfl ?_
 refine za (.slice (some ⟨bL, 0, none⟩) n n) (fun w' hw => zh (by
  simp +decide only [bE, BEq.rfl, ev_tmp, hI.lt.run_load1 rfl, st hw cT, ldc_some])) rfl ?_
 refine za (.pointer (some ⟨b, oo, none⟩)) (fun w' hw => by
  rw [zax, ev_tmp]
  simp +decide only [bE, Nat.reduceBeqDiff, Nat.zero_add, f0]) rfl ?_
 refine za (.pointer (some ⟨b, oo, none⟩)) (fun w' hw => rfl) rfl ?_
 refine za (.pointer (some ⟨b, oo + off, none⟩)) (fun w' hw => zh (by
  simp +decide only [bE, BEq.rfl, ev_tmp, hT.run])) rfl ?_
 refine za (.slice a L c) (fun w' hw => zh (by
  simp +decide only [bE, BEq.rfl, ev_tmp, hft.run_load1 rfl, st hw cF, ldc_some])) rfl ?_
 simp only [zcs, zcu, List.zip_cons_cons, List.zip_nil_right, List.zipWith_cons_cons, List.zipWith_nil_right, List.filter, Bool.not_true, Bool.not_false, List.map, zdc]
 obtain ⟨htl, hTL⟩ := h.list hi a.isNone
 simp +decide only [bK, bE, Nat.reduceBeqDiff, BEq.rfl, run_eqlS hft.und]
 refine ⟨md, ?_⟩
 simp +decide only [bK, Nat.zero_add, zx hI.lt hI1 hi]
 refine ⟨md, ?_⟩
 simp +decide only [bK, hI.h2.run]
 refine ⟨md, ?_⟩
 have hst := B.bool.run_store1 (w := w.drew) (b := bL) (o := i * 5 + 2) (v := .bool a.isNone) rfl htl
 simp +decide only [bK, hst]
 obtain ⟨_, hTL⟩ := (h.stay md).list hi a.isNone
 refine zg (K := fun σ' w' => Q .normal σ' w') fun σ9 hσ => hQ _ _ _ (hTL.env ?_ ?_ ?_)
 ·rw [hσ 0]; simp +decide only [bE, Nat.reduceBeqDiff, Nat.zero_add]
 ·rw [hσ 1]; simp +decide only [bE, Nat.reduceBeqDiff, Nat.reduceAdd]
 ·rw [hσ 2]; simp +decide only [bE, Nat.reduceBeqDiff, Nat.reduceAdd]
def lAppN (N : Nums) (Tt idx ft et i p : Nat) : List ROp := [
 ⟨some 0, .fieldAddr N.zp (V 2) 3, 0, none, []⟩, ⟨some 1, .load N.zi (T 0), 0, none, [0]⟩, ⟨some 2, .fieldAddr N.zp (V 2) 3, 0, none, []⟩, ⟨some 3, .load N.zi (T 2), 0, none, [2]⟩,
 ⟨some 4, .indexAddr N.zi (T 3) (.const (.int .i64 i)), 0, none, [3]⟩, ⟨some 5, .fieldAddr N.zp (T 4) 3, 0, none, [4]⟩, ⟨some 6, .load N.zi (T 5), 0, none, [5]⟩,
 ⟨some 7, .move (V 0), 0, none, []⟩, ⟨some 8, .nilCheck (T 7), 0, none, [7]⟩, ⟨some 9, .fieldAddr Tt (T 8) idx, 0, none, [8]⟩, ⟨some 10, .load ft (T 9), 0, none, [9]⟩, ⟨some 11, .move (V p), 0, none, []⟩, ⟨some 12, .indexAddr ft (T 10) (T 11), 0, none, [10, 11]⟩,
 ⟨some 13, .load et (T 12), 0, none, [12]⟩, ⟨some 14, .convert et N.zef (T 13), 0, none, [13]⟩, ⟨some 15, .build N.zp #[(0, T 14)], 0, none, [14]⟩, ⟨some 16, .buildSlice N.zi 1 #[(0, T 15)], 0, none, [15]⟩, ⟨some 17, .call ⟨.builtin .append, #[T 6, T 16], #[N.zi, N.zi]⟩, N.zi, none, [6, 16]⟩,
 ⟨some 18, .indexAddr N.zi (T 1) (.const (.int .i64 i)), 0, none, [1, 0, 1, 2, 3, 4, 5, 6, 7, 8, 9, 10, 11, 12, 13, 14, 15, 16, 17]⟩, ⟨some 19, .fieldAddr N.zp (T 18) 3, 0, none, [18, 0, 1, 2, 3, 4, 5, 6, 7, 8, 9, 10, 11, 12, 13, 14, 15, 16, 17]⟩,
 ⟨none, .store N.zi (T 19) (T 17), 0, none, [19, 17, 17, 0, 1, 2, 3, 4, 5, 6, 7, 8, 9, 10, 11, 12, 13, 14, 15, 16, 17]⟩]
theorem W_appNum (B : Base P N) (hI : zdx P N) {loc : List Nat} {N' : Nat} {Q : Exit → Env → World → Prop} {w0 w : World} {b oo off Tt idx ft be L c sz et bT bL bR n i lo q j : Nat} {k : IntKind} {by' : Nat} {z : Value} {x : Int} {nl : Bool} {v : Value} {trs ts : List Tr} {σ : Env}
  (h : TL w0 (.pointer (some ⟨b, oo, none⟩)) bT bL bR n i trs lo nl v ts σ w) (hs : LSrc P w0 b oo off Tt idx ft be L c sz et) (hlen : ts.length + 1 < 1099511627776) (hp : σ (q + 6) = .int .i64 j) (hj : j < L)
  (hk : TI P et (.int k) 1 by' z) (hx : IntKind.i64.wrap x = x) (hE : w0.cell? ⟨be, j * sz, none⟩ = some (.int k x))
  (hQ : ∀ v' w', TL w0 (.pointer (some ⟨b, oo, none⟩)) bT bL bR n i trs lo nl v' (ts ++ [zda x [] false]) σ w' → Q .normal σ w') : W P loc N' (.draw (lAppN N Tt idx ft et i (q + 6))) Q σ w := by
 obtain ⟨fs, hI1⟩ := hI.ti
 obtain ⟨hT, hc0, hlt, _, _, _, het⟩ := hs
 have f0 := h.f0
 have f1 := h.f1
 have f2 := h.f2
 have lt := h.lt
 have hi := h.le
 have hms := h.mod.size
 have keep : ∀ {w' : World} {k o : Nat} {u : Value}, Mod w w' (fun k _ => ¬ zao v k) → k < lo → w.cell? ⟨k, o, none⟩ = some u → w'.cell? ⟨k, o, none⟩ = some u := fun m hk hc => by
  rw [m.cell _ _ (zag (by rw [hc]; rfl)) (fun hn => by have := (h.blk hn).1; omega)]; exact hc
 have hb0 : b < w0.heap.size := zag (by rw [hc0]; rfl)
 have cF : w.cell? ⟨b, oo + off, none⟩ = some (.slice (some ⟨be, 0, none⟩) L c) := by rw [h.mod.cell _ _ hb0 (fun h => h)]; exact hc0
 have cT := h.cellT
 have cL := h.cellL
 have md : Mod w w.drew zu := Mod.drew _ _
 have md' : Mod w w.drew (fun k _ => ¬ zao v k) := Mod.drew _ _
 refine zgz B.mixed [true, true, true, true, true, true, true, true, true, true, true, true, true, true, true, true, false, false, false, false, false] rfl (zgq (l0 := lAppN N Tt idx ft et i 6) q (by kernel_rfl) rfl) (fun w' => Mod w w' (fun k _ => ¬ zao v k)) md' fun τ => ?_
 have cE : w.cell? ⟨be, j * sz, none⟩ = some (.int k x) := by rw [h.mod.cell _ _ (zag (by rw [hE]; rfl)) (fun h => h)]; exact hE
 have hbe : be < w0.heap.size := zag (by rw [hE]; rfl)
 have e2 : zcp σ τ 102 = .pointer (some ⟨bT, 0, none⟩) := by rw [← f2]; exact envOf_var σ τ 2
 have e0 : zcp σ τ 100 = .pointer (some ⟨b, oo, none⟩) := by rw [← f0]; exact envOf_var σ τ 0
 have ep : zcp σ τ (q + 6 + 100) = .int .i64 j := by rw [← hp]; exact envOf_var σ τ (q + 6)
 refine za (.pointer (some ⟨bT, 3, none⟩)) (fun w' _ => zh (by simp +decide only [ev_tmp, e2, hI.h3.run])) rfl ?_
 refine za (.slice (some ⟨bL, 0, none⟩) n n) (fun w' hw => zh (by simp +decide only [bE, BEq.rfl, ev_tmp, hI.lt.run_load1 rfl, keep hw (show bT < lo by omega) cT, ldc_some])) rfl ?_
 refine za (.pointer (some ⟨bT, 3, none⟩)) (fun w' _ => zh (by simp +decide only [bE, Nat.reduceBeqDiff, Nat.reduceAdd, Nat.zero_add, ev_tmp, f2, hI.h3.run])) rfl ?_
 refine za (.slice (some ⟨bL, 0, none⟩) n n) (fun w' hw => zh (by simp +decide only [bE, BEq.rfl, ev_tmp, hI.lt.run_load1 rfl, keep hw (show bT < lo by omega) cT, ldc_some])) rfl ?_
 refine za (.pointer (some ⟨bL, i * 5, none⟩)) (fun w' _ => zh (by simp +decide only [bE, BEq.rfl, Nat.zero_add, ev_tmp, ev_const, zx hI.lt hI1 hi])) rfl ?_
 refine za (.pointer (some ⟨bL, i * 5 + 3, none⟩)) (fun w' _ => zh (by simp +decide only [bE, BEq.rfl, ev_tmp, hI.h3.run])) rfl ?_
 refine za v (fun w' hw => zh (by simp +decide only [bE, BEq.rfl, ev_tmp, hI.lt.run_load1 rfl, keep hw (show bL < lo by omega) cL, ldc_some])) rfl ?_
 refine za (.pointer (some ⟨b, oo, none⟩)) (fun w' _ => by rw [zax, ev_tmp]; simp +decide only [bE, Nat.reduceBeqDiff, Nat.zero_add, f0]) rfl ?_
 refine za (.pointer (some ⟨b, oo, none⟩)) (fun w' hw => rfl) rfl ?_
 refine za (.pointer (some ⟨b, oo + off, none⟩)) (fun w' _ => zh (by simp +decide only [bE, BEq.rfl, ev_tmp, hT.run])) rfl ?_
 refine za (.slice (some ⟨be, 0, none⟩) L c) (fun w' hw => zh (by simp +decide only [bE, BEq.rfl, ev_tmp, hlt.run_load1 rfl, keep hw (show b < lo by omega) cF, ldc_some])) rfl ?_
 refine za (.int .i64 j) (fun w' _ => by rw [zax, ev_tmp]; simp +decide (disch := omega) only [zfa, ep]) rfl ?_
 refine za (.pointer (some ⟨be, j * sz, none⟩)) (fun w' _ => zh (by simp +decide only [bE, Nat.reduceBeqDiff, BEq.rfl, Nat.zero_add, ev_tmp, zx hlt het hj])) rfl ?_
 refine za (.int k x) (fun w' hw => zh (by simp +decide only [bE, BEq.rfl, ev_tmp, hk.run_load1 rfl, keep hw (show be < lo by omega) cE, ldc_some])) rfl ?_
 refine za (.int .i64 x) (fun w' hw => zh (by simp +decide only [bE, BEq.rfl, ev_tmp, zck hk B.int64 ⟨_, rfl⟩, hx])) rfl ?_
 have e14 : ∀ ρ : Env, (#[(0, T 14)] : Array (Nat × Operand)).map (fun p => (p.1, ev ρ p.2)) = #[(0, ρ 14)] := fun ρ => by simp
 refine za (.agg [.int .i64 x, .slice none 0 0, .bool false, .slice none 0 0, .slice none 0 0].toArray) (fun w' hw => zh (by rw [e14]; simp +decide only [bE, BEq.rfl, zrq hI])) rfl ?_
 simp only []
 show anyC P _ _ _ _ [16, 17, 18, 19, 20].length [16, 17, 18, 19, 20] _ _
 refine zbw _ _ _ (by kernel_rfl) (by decide) (fun k hk => by simp at hk; subst hk; kernel_rfl) ?_
 simp only [lAppN, List.map, List.getD_cons_zero, List.getD_cons_succ, zdc]
 have m6 : Mod w w.drew zu := md
 have hrep : RepT w.drew (NB w.heap.size w.drew.heap.size) (zda x [] false) [.int .i64 x, .slice none 0 0, .bool false, .slice none 0 0, .slice none 0 0] := zer zgp
 have e9 : ∀ ρ : Env, (#[(0, T 15)] : Array (Nat × Operand)).map (fun p => (p.1, ev ρ p.2)) = #[(0, ρ 15)] := fun ρ => by simp
 obtain ⟨w7, v', w8, w9, hbs, happ, hst, m7, m8, hTL⟩ := zkx hI h hlen m6 (Nat.le_refl _) hrep
 simp +decide only [bK, bE, Nat.reduceBeqDiff, BEq.rfl, e9, hbs]
 refine ⟨m7, ?_⟩
 simp +decide only [bK, happ]
 refine ⟨m8, ?_⟩
 simp +decide only [bK, Nat.zero_add, zx hI.lt hI1 hi]
 refine ⟨m8, ?_⟩
 simp +decide only [bK, hI.h3.run]
 refine ⟨m8, ?_⟩
 simp +decide only [bK, hst]
 refine zg (K := fun σ' w' => Q .normal σ' w') fun σ9 hσ => ?_
 have e : σ9 = σ := by
  funext k
  rw [hσ k]
  simp +decide (disch := omega) only [zfa, envOf_var]
 rw [e]
 exact hQ _ _ hTL
def lAppS (N : Nums) (Tt idx ft i p : Nat) : List ROp := [
 ⟨some 0, .fieldAddr N.zp (V 2) 3, 0, none, []⟩, ⟨some 1, .load N.zi (T 0), 0, none, [0]⟩, ⟨some 2, .fieldAddr N.zp (V 2) 3, 0, none, []⟩, ⟨some 3, .load N.zi (T 2), 0, none, [2]⟩,
 ⟨some 4, .indexAddr N.zi (T 3) (.const (.int .i64 i)), 0, none, [3]⟩, ⟨some 5, .fieldAddr N.zp (T 4) 3, 0, none, [4]⟩, ⟨some 6, .load N.zi (T 5), 0, none, [5]⟩,
 ⟨some 7, .move (V 0), 0, none, []⟩, ⟨some 8, .nilCheck (T 7), 0, none, [7]⟩, ⟨some 9, .fieldAddr Tt (T 8) idx, 0, none, [8]⟩, ⟨some 10, .load ft (T 9), 0, none, [9]⟩, ⟨some 11, .move (V p), 0, none, []⟩, ⟨some 12, .indexAddr ft (T 10) (T 11), 0, none, [10, 11]⟩,
 ⟨some 13, .load N.zaj (T 12), 0, none, [12]⟩, ⟨some 14, .convert N.zaj N.zb (T 13), 0, none, [13]⟩, ⟨some 15, .build N.zp #[(1, T 14)], 0, none, [14]⟩, ⟨some 16, .buildSlice N.zi 1 #[(0, T 15)], 0, none, [15]⟩, ⟨some 17, .call ⟨.builtin .append, #[T 6, T 16], #[N.zi, N.zi]⟩, N.zi, none, [6, 16]⟩,
 ⟨some 18, .indexAddr N.zi (T 1) (.const (.int .i64 i)), 0, none, [1, 0, 1, 2, 3, 4, 5, 6, 7, 8, 9, 10, 11, 12, 13, 14, 15, 16, 17]⟩, ⟨some 19, .fieldAddr N.zp (T 18) 3, 0, none, [18, 0, 1, 2, 3, 4, 5, 6, 7, 8, 9, 10, 11, 12, 13, 14, 15, 16, 17]⟩,
 ⟨none, .store N.zi (T 19) (T 17), 0, none, [19, 17, 17, 0, 1, 2, 3, 4, 5, 6, 7, 8, 9, 10, 11, 12, 13, 14, 15, 16, 17]⟩]
theorem W_appStr (B : Base P N) (hI : zdx P N) {loc : List Nat} {N' : Nat} {Q : Exit → Env → World → Prop} {w0 w : World} {b oo off Tt idx ft be L c sz et bT bL bR n i lo q j : Nat} {x : List UInt8} {nl : Bool} {v : Value} {trs ts : List Tr} {σ : Env}
  (h : TL w0 (.pointer (some ⟨b, oo, none⟩)) bT bL bR n i trs lo nl v ts σ w) (hs : LSrc P w0 b oo off Tt idx ft be L c sz et) (hlen : ts.length + 1 < 1099511627776) (hp : σ (q + 6) = .int .i64 j) (hj : j < L)
  (hE : w0.cell? ⟨be, j * sz, none⟩ = some (strV x))
  (hQ : ∀ v' w', TL w0 (.pointer (some ⟨b, oo, none⟩)) bT bL bR n i trs lo nl v' (ts ++ [zda 0 x false]) σ w' → Q .normal σ w') : W P loc N' (.draw (lAppS N Tt idx ft i (q + 6))) Q σ w := by
 obtain ⟨fs, hI1⟩ := hI.ti
 obtain ⟨hT, hc0, hlt, _, _, _, het⟩ := hs
 have f0 := h.f0
 have f1 := h.f1
 have f2 := h.f2
 have lt := h.lt
 have hi := h.le
 have hms := h.mod.size
 have keep : ∀ {w' : World} {k o : Nat} {u : Value}, Mod w w' (fun k _ => ¬ zao v k) → k < lo → w.cell? ⟨k, o, none⟩ = some u → w'.cell? ⟨k, o, none⟩ = some u := fun m hk hc => by
  rw [m.cell _ _ (zag (by rw [hc]; rfl)) (fun hn => by have := (h.blk hn).1; omega)]; exact hc
 have hb0 : b < w0.heap.size := zag (by rw [hc0]; rfl)
 have cF : w.cell? ⟨b, oo + off, none⟩ = some (.slice (some ⟨be, 0, none⟩) L c) := by rw [h.mod.cell _ _ hb0 (fun h => h)]; exact hc0
 have cT := h.cellT
 have cL := h.cellL
 have md : Mod w w.drew zu := Mod.drew _ _
 have md' : Mod w w.drew (fun k _ => ¬ zao v k) := Mod.drew _ _
 refine zgz B.mixed [true, true, true, true, true, true, true, true, true, true, true, true, true, true, false, false, false, false, false, false, false] rfl (zgq (l0 := lAppS N Tt idx ft i 6) q (by kernel_rfl) rfl) (fun w' => Mod w w' (fun k _ => ¬ zao v k)) md' fun τ => ?_
 have cE : w.cell? ⟨be, j * sz, none⟩ = some (strV x) := by rw [h.mod.cell _ _ (zag (by rw [hE]; rfl)) (fun h => h)]; exact hE
 have hbe : be < w0.heap.size := zag (by rw [hE]; rfl)
 have e2 : zcp σ τ 102 = .pointer (some ⟨bT, 0, none⟩) := by rw [← f2]; exact envOf_var σ τ 2
 have e0 : zcp σ τ 100 = .pointer (some ⟨b, oo, none⟩) := by rw [← f0]; exact envOf_var σ τ 0
 have ep : zcp σ τ (q + 6 + 100) = .int .i64 j := by rw [← hp]; exact envOf_var σ τ (q + 6)
 refine za (.pointer (some ⟨bT, 3, none⟩)) (fun w' _ => zh (by simp +decide only [ev_tmp, e2, hI.h3.run])) rfl ?_
 refine za (.slice (some ⟨bL, 0, none⟩) n n) (fun w' hw => zh (by simp +decide only [bE, BEq.rfl, ev_tmp, hI.lt.run_load1 rfl, keep hw (show bT < lo by omega) cT, ldc_some])) rfl ?_
 refine za (.pointer (some ⟨bT, 3, none⟩)) (fun w' _ => zh (by simp +decide only [bE, Nat.reduceBeqDiff, Nat.reduceAdd, Nat.zero_add, ev_tmp, f2, hI.h3.run])) rfl ?_
 refine za (.slice (some ⟨bL, 0, none⟩) n n) (fun w' hw => zh (by simp +decide only [bE, BEq.rfl, ev_tmp, hI.lt.run_load1 rfl, keep hw (show bT < lo by omega) cT, ldc_some])) rfl ?_
 refine za (.pointer (some ⟨bL, i * 5, none⟩)) (fun w' _ => zh (by simp +decide only [bE, BEq.rfl, Nat.zero_add, ev_tmp, ev_const, zx hI.lt hI1 hi])) rfl ?_
 refine za (.pointer (some ⟨bL, i * 5 + 3, none⟩)) (fun w' _ => zh (by simp +decide only [bE, BEq.rfl, ev_tmp, hI.h3.run])) rfl ?_
 refine za v (fun w' hw => zh (by simp +decide only [bE, BEq.rfl, ev_tmp, hI.lt.run_load1 rfl, keep hw (show bL < lo by omega) cL, ldc_some])) rfl ?_
 refine za (.pointer (some ⟨b, oo, none⟩)) (fun w' _ => by rw [zax, ev_tmp]; simp +decide only [bE, Nat.reduceBeqDiff, Nat.zero_add, f0]) rfl ?_
 refine za (.pointer (some ⟨b, oo, none⟩)) (fun w' hw => rfl) rfl ?_
 refine za (.pointer (some ⟨b, oo + off, none⟩)) (fun w' _ => zh (by simp +decide only [bE, BEq.rfl, ev_tmp, hT.run])) rfl ?_
 refine za (.slice (some ⟨be, 0, none⟩) L c) (fun w' hw => zh (by simp +decide only [bE, BEq.rfl, ev_tmp, hlt.run_load1 rfl, keep hw (show b < lo by omega) cF, ldc_some])) rfl ?_
 refine za (.int .i64 j) (fun w' _ => by rw [zax, ev_tmp]; simp +decide (disch := omega) only [zfa, ep]) rfl ?_
 refine za (.pointer (some ⟨be, j * sz, none⟩)) (fun w' _ => zh (by simp +decide only [bE, Nat.reduceBeqDiff, BEq.rfl, Nat.zero_add, ev_tmp, zx hlt het hj])) rfl ?_
 refine za (strV x) (fun w' hw => zh (by simp +decide only [bE, BEq.rfl, ev_tmp, B.string.run_load1 rfl, keep hw (show be < lo by omega) cE, ldc_some])) rfl ?_
 simp only []
 show anyC P _ _ _ _ [14, 15, 16, 17, 18, 19, 20].length [14, 15, 16, 17, 18, 19, 20] _ _
 refine zbw _ _ _ (by kernel_rfl) (by decide) (fun k hk => by simp at hk; subst hk; kernel_rfl) ?_
 simp only [lAppS, List.map, List.getD_cons_zero, List.getD_cons_succ, zdc]
 obtain ⟨v6, w6, hconv, htv, m6d⟩ := zhu B w.drew x
 have m6 : Mod w w6 zu := md.trans' m6d
 have m6' : Mod w w6 (fun k _ => ¬ zao v k) := m6.mono fun _ _ _ h => h.elim
 simp +decide only [bK, bE, Nat.reduceBeqDiff, BEq.rfl, hconv]
 refine ⟨m6', ?_⟩
 have e14 : ∀ ρ : Env, (#[(1, T 14)] : Array (Nat × Operand)).map (fun p => (p.1, ev ρ p.2)) = #[(1, ρ 14)] := fun ρ => by simp
 simp +decide only [bK, bE, BEq.rfl, e14, zjk hI _ htv.one]
 refine ⟨m6', ?_⟩
 have nbw : ∀ k, NB w.drew.heap.size w6.heap.size k → NB w.heap.size w6.heap.size k := fun k h => h
 have hrep : RepT w6 (NB w.heap.size w6.heap.size) (zda 0 x false) [.int .i64 0, v6, .bool false, .slice none 0 0, .slice none 0 0] := zer (htv.imp (fun h => ⟨h.1, h.2⟩) fun h => h.mono nbw)
 have e9 : ∀ ρ : Env, (#[(0, T 15)] : Array (Nat × Operand)).map (fun p => (p.1, ev ρ p.2)) = #[(0, ρ 15)] := fun ρ => by simp
 obtain ⟨w7, v', w8, w9, hbs, happ, hst, m7, m8, hTL⟩ := zkx hI h hlen m6 (Nat.le_refl _) hrep
 simp +decide only [bK, bE, BEq.rfl, e9, hbs]
 refine ⟨m7, ?_⟩
 simp +decide only [bK, happ]
 refine ⟨m8, ?_⟩
 simp +decide only [bK, Nat.zero_add, zx hI.lt hI1 hi]
 refine ⟨m8, ?_⟩
 simp +decide only [bK, hI.h3.run]
 refine ⟨m8, ?_⟩
 simp +decide only [bK, hst]
 refine zg (K := fun σ' w' => Q .normal σ' w') fun σ9 hσ => ?_
 have e : σ9 = σ := by
  funext k
  rw [hσ k]
  simp +decide (disch := omega) only [zfa, envOf_var]
 rw [e]
 exact hQ _ _ hTL
def lApp0N (N : Nums) (Tt idx ft et i p : Nat) : List ROp := [
 ⟨some 0, .fieldAddr N.zp (V 2) 3, 0, none, []⟩, ⟨some 1, .load N.zi (T 0), 0, none, [0]⟩, ⟨some 2, .indexAddr N.zi (T 1) (.const (.int .i64 i)), 0, none, [1]⟩, ⟨some 3, .fieldAddr N.zp (T 2) 3, 0, none, [2]⟩, ⟨some 4, .load N.zi (T 3), 0, none, [3]⟩,
 ⟨some 5, .move (V 0), 0, none, []⟩, ⟨some 6, .nilCheck (T 5), 0, none, [5]⟩, ⟨some 7, .fieldAddr Tt (T 6) idx, 0, none, [6]⟩, ⟨some 8, .load ft (T 7), 0, none, [7]⟩, ⟨some 9, .move (V p), 0, none, []⟩, ⟨some 10, .indexAddr ft (T 8) (T 9), 0, none, [8, 9]⟩,
 ⟨some 11, .load et (T 10), 0, none, [10]⟩, ⟨some 12, .convert et N.zef (T 11), 0, none, [11]⟩, ⟨some (p + 2 + 100), .build N.zp #[(0, T 12)], 0, none, [12]⟩, ⟨some (p + 3 + 100), .call ⟨.builtin .len, #[T 4], #[N.zi]⟩, N.zt, none, [4]⟩, ⟨some 15, .buildSlice N.zi 1 #[(0, zTop)], 0, none, []⟩,
 ⟨some (p + 4 + 100), .call ⟨.builtin .append, #[T 4, T 15], #[N.zi, N.zi]⟩, N.zi, none, [4, 15, 0, 1, 2, 3, 4, 5, 6, 7, 8, 9, 10, 11, 12, 13, 14, 15]⟩,
 ⟨some 17, .indexAddr N.zi (T 1) (.const (.int .i64 i)), 0, none, [1, 0, 1, 2, 3, 4, 5, 6, 7, 8, 9, 10, 11, 12, 13, 14, 15, 16]⟩, ⟨some 18, .fieldAddr N.zp (T 17) 3, 0, none, [17, 0, 1, 2, 3, 4, 5, 6, 7, 8, 9, 10, 11, 12, 13, 14, 15, 16]⟩,
 ⟨none, .store N.zi (T 18) (V (p + 4)), 0, none, [18, 16, 16, 0, 1, 2, 3, 4, 5, 6, 7, 8, 9, 10, 11, 12, 13, 14, 15, 16]⟩]
theorem W_app0Num (B : Base P N) (hI : zdx P N) {loc : List Nat} {N' : Nat} {Q : Exit → Env → World → Prop} {w0 w : World} {b oo off Tt idx ft be L c sz et bT bL bR n i lo q j : Nat} {k : IntKind} {by' : Nat} {z : Value} {x : Int} {nl : Bool} {v : Value} {trs ts : List Tr} {σ : Env}
  (h : TL w0 (.pointer (some ⟨b, oo, none⟩)) bT bL bR n i trs lo nl v ts σ w) (hs : LSrc P w0 b oo off Tt idx ft be L c sz et) (hlen : ts.length + 1 < 1099511627776) (hp : σ (q + 6) = .int .i64 j) (hj : j < L)
  (hk : TI P et (.int k) 1 by' z) (hx : IntKind.i64.wrap x = x) (hE : w0.cell? ⟨be, j * sz, none⟩ = some (.int k x))
  (hQ : ∀ σ' v' w', (∀ k, k < q + 8 → σ' k = σ k) → TL w0 (.pointer (some ⟨b, oo, none⟩)) bT bL bR n i trs lo nl v' (ts ++ [zda x [] false]) σ' w' → Q .normal σ' w') : W P loc N' (.seq (.draw (lApp0N N Tt idx ft et i (q + 6))) (cPut N (q + 6))) Q σ w := by
 obtain ⟨fs, hI1⟩ := hI.ti
 obtain ⟨hT, hc0, hlt, _, _, _, het⟩ := hs
 have f0 := h.f0
 have f1 := h.f1
 have f2 := h.f2
 have lt := h.lt
 have hi := h.le
 have hms := h.mod.size
 have keep : ∀ {w' : World} {k o : Nat} {u : Value}, Mod w w' (fun k _ => ¬ zao v k) → k < lo → w.cell? ⟨k, o, none⟩ = some u → w'.cell? ⟨k, o, none⟩ = some u := fun m hk hc => by
  rw [m.cell _ _ (zag (by rw [hc]; rfl)) (fun hn => by have := (h.blk hn).1; omega)]; exact hc
 have hb0 : b < w0.heap.size := zag (by rw [hc0]; rfl)
 have cF : w.cell? ⟨b, oo + off, none⟩ = some (.slice (some ⟨be, 0, none⟩) L c) := by rw [h.mod.cell _ _ hb0 (fun h => h)]; exact hc0
 have cT := h.cellT
 have cL := h.cellL
 have md : Mod w w.drew zu := Mod.drew _ _
 have md' : Mod w w.drew (fun k _ => ¬ zao v k) := Mod.drew _ _
 refine zc fun K hK => zgz B.mixed [true, true, true, true, true, true, true, true, true, true, true, true, true, true, true, false, false, false, false, false] rfl (zgq (l0 := lApp0N N Tt idx ft et i 6) q (by kernel_rfl) rfl) (fun w' => Mod w w' (fun k _ => ¬ zao v k)) md' fun τ => ?_
 have cE : w.cell? ⟨be, j * sz, none⟩ = some (.int k x) := by rw [h.mod.cell _ _ (zag (by rw [hE]; rfl)) (fun h => h)]; exact hE
 have hbe : be < w0.heap.size := zag (by rw [hE]; rfl)
 have e2 : zcp σ τ 102 = .pointer (some ⟨bT, 0, none⟩) := by rw [← f2]; exact envOf_var σ τ 2
 have ep : zcp σ τ (q + 6 + 100) = .int .i64 j := by rw [← hp]; exact envOf_var σ τ (q + 6)
 refine za (.pointer (some ⟨bT, 3, none⟩)) (fun w' _ => zh (by simp +decide only [ev_tmp, e2, hI.h3.run])) rfl ?_
 refine za (.slice (some ⟨bL, 0, none⟩) n n) (fun w' hw => zh (by simp +decide only [bE, BEq.rfl, ev_tmp, hI.lt.run_load1 rfl, keep hw (show bT < lo by omega) cT, ldc_some])) rfl ?_
 refine za (.pointer (some ⟨bL, i * 5, none⟩)) (fun w' _ => zh (by simp +decide only [bE, BEq.rfl, Nat.zero_add, ev_tmp, ev_const, zx hI.lt hI1 hi])) rfl ?_
 refine za (.pointer (some ⟨bL, i * 5 + 3, none⟩)) (fun w' _ => zh (by simp +decide only [bE, BEq.rfl, ev_tmp, hI.h3.run])) rfl ?_
 refine za v (fun w' hw => zh (by simp +decide only [bE, BEq.rfl, ev_tmp, hI.lt.run_load1 rfl, keep hw (show bL < lo by omega) cL, ldc_some])) rfl ?_
 refine za (.pointer (some ⟨b, oo, none⟩)) (fun w' _ => by rw [zax, ev_tmp]; simp +decide only [bE, Nat.reduceBeqDiff, Nat.zero_add, f0]) rfl ?_
 refine za (.pointer (some ⟨b, oo, none⟩)) (fun w' hw => rfl) rfl ?_
 refine za (.pointer (some ⟨b, oo + off, none⟩)) (fun w' _ => zh (by simp +decide only [bE, BEq.rfl, ev_tmp, hT.run])) rfl ?_
 refine za (.slice (some ⟨be, 0, none⟩) L c) (fun w' hw => zh (by simp +decide only [bE, BEq.rfl, ev_tmp, hlt.run_load1 rfl, keep hw (show b < lo by omega) cF, ldc_some])) rfl ?_
 refine za (.int .i64 j) (fun w' _ => by rw [zax, ev_tmp]; simp +decide (disch := omega) only [zfa, ep]) rfl ?_
 refine za (.pointer (some ⟨be, j * sz, none⟩)) (fun w' _ => zh (by simp +decide only [bE, Nat.reduceBeqDiff, BEq.rfl, Nat.zero_add, ev_tmp, zx hlt het hj])) rfl ?_
 refine za (.int k x) (fun w' hw => zh (by simp +decide only [bE, BEq.rfl, ev_tmp, hk.run_load1 rfl, keep hw (show be < lo by omega) cE, ldc_some])) rfl ?_
 refine za (.int .i64 x) (fun w' hw => zh (by simp +decide only [bE, BEq.rfl, ev_tmp, zck hk B.int64 ⟨_, rfl⟩, hx])) rfl ?_
 have e12 : ∀ ρ : Env, (#[(0, T 12)] : Array (Nat × Operand)).map (fun p => (p.1, ev ρ p.2)) = #[(0, ρ 12)] := fun ρ => by simp
 refine za (.agg [.int .i64 x, .slice none 0 0, .bool false, .slice none 0 0, .slice none 0 0].toArray) (fun w' hw => zh (by rw [e12, zan, zrq hI])) rfl ?_
 simp only []
 refine ⟨.int .i64 ts.length, fun w' _ => .inl ⟨rfl, ?_⟩, ?_⟩
 ·have hl := h.lenV (P := P) (N := N) hI (ty := N.zt) (w' := w')
  have e4 : ∀ ρ : Env, ρ 4 = v → (exec ρ ⟨some (q + 6 + 3 + 100), .call ⟨.builtin .len, #[T 4], #[N.zi]⟩, N.zt, none, [4]⟩).run P w' = .ok (.value (.int .i64 ts.length)) w' := fun ρ h4 => by
   simp +decide only [exec, execOp, resolve, invoke, builtin, List.map_toArray, List.map, ev_tmp, h4]
   simp [hl]
  exact e4 _ (by simp +decide (disch := omega) only [zae, zan])
 have fin : ∀ {ρ : Env} {w6 : World} {bz : Nat} {cs : List Value}, RepT w6 (NB w.heap.size w6.heap.size) (zda x [] false) cs → Mod w w6 zu → w6.rangeAt bz 0 zT → ρ 1 = .slice (some ⟨bL, 0, none⟩) n n → ρ 4 = v → ρ 15 = .slice (some ⟨bz, 0, none⟩) 1 1 →
   ρ (q + 6 + 2 + 100) = .agg cs.toArray → ρ (q + 6 + 3 + 100) = .int .i64 ts.length → (∀ k, k < q + 8 → ρ (k + 100) = σ k) →
   zdc P (fun w' => Mod w w' (fun k _ => ¬ zao v k)) (fun ρ w => zee K Q .normal (locs ρ) w) [⟨some (q + 6 + 4 + 100), .call ⟨.builtin .append, #[T 4, T 15], #[N.zi, N.zi]⟩, N.zi, none, [4, 15, 0, 1, 2, 3, 4, 5, 6, 7, 8, 9, 10, 11, 12, 13, 14, 15]⟩,
    ⟨some 17, .indexAddr N.zi (T 1) (.const (.int .i64 i)), 0, none, [1, 0, 1, 2, 3, 4, 5, 6, 7, 8, 9, 10, 11, 12, 13, 14, 15, 16]⟩, ⟨some 18, .fieldAddr N.zp (T 17) 3, 0, none, [17, 0, 1, 2, 3, 4, 5, 6, 7, 8, 9, 10, 11, 12, 13, 14, 15, 16]⟩,
    ⟨none, .store N.zi (T 18) (V (q + 6 + 4)), 0, none, [18, 16, 16, 0, 1, 2, 3, 4, 5, 6, 7, 8, 9, 10, 11, 12, 13, 14, 15, 16]⟩] ρ w6 := by
  intro ρ w6 bz cs hrep m6 hz h1 h4 h15 hv8 hv9 hσ
  obtain ⟨bv, c', w8, w9, w10, happ, hst, m8, hst10, hTL⟩ := zjl hI h hlen m6 (Nat.le_refl _) hrep hz
  simp only [zdc]
  simp +decide only [zel, ev_tmp, h4, h15, happ, stepV_ok]
  refine ⟨m8, ?_⟩
  simp +decide (disch := omega) only [zdm, ev_tmp, ev_const, zae, h1, zx hI.lt hI1 hi, stepV_ok, Nat.zero_add]
  refine ⟨m8, ?_⟩
  simp +decide (disch := omega) only [zed, ev_tmp, zan, hI.h3.run, stepV_ok]
  refine ⟨m8, ?_⟩
  simp +decide (disch := omega) only [zdr, ev_tmp, zae, zan, hst, stepU_ok]
  refine zg (K := fun σ' w' => zee K Q .normal σ' w') fun σ9 hσ9 => hK _ _ ?_
  have g : ∀ k, k < q + 8 → σ9 k = σ k := fun k hk => by
   rw [hσ9 k]
   simp +decide (disch := omega) only [zae]
   exact hσ k hk
  refine W_put hI (L := ts.length) (bv := bv) (c := c') (cs := cs) (w10 := w10) ?_ ?_ ?_ hst10 (hQ _ _ _ g (hTL.env (g 0 (by omega)) (g 1 (by omega)) (g 2 (by omega))))
  ·rw [hσ9]; simp +decide (disch := omega) only [zae]; exact hv8
  ·rw [hσ9]; simp +decide (disch := omega) only [zae]; exact hv9
  ·rw [hσ9]; simp +decide (disch := omega) only [zae, zan]
 have ezz : ∀ ρ : Env, (#[(0, zTop)] : Array (Nat × Operand)).map (fun p => (p.1, ev ρ p.2)) = #[(0, .agg zT.toArray)] := fun ρ => by simp [zTop, zT]
 show anyC P _ _ _ _ [15, 16, 17, 18, 19].length [15, 16, 17, 18, 19] _ _
 refine zbw _ _ _ (by kernel_rfl) (by decide) (fun k hk => by simp at hk; subst hk; kernel_rfl) ?_
 show zbe P ⟨some 15, .buildSlice N.zi 1 #[(0, zTop)], 0, none, []⟩ _ _ _
 have hbs := zfn (w := w.drew) (v := .agg zT.toArray) (cs := zT) hI.lt hI1 rfl rfl (by decide) (by decide)
 simp +decide only [zcd, ezz, hbs, stepV_ok]
 have m7 : Mod w.drew (w.drew.alloc (.cells zT.toArray N.zp)) zu := Mod.alloc _ _ _
 refine ⟨(md.trans' m7).mono fun _ _ _ h => h.elim, fin (bz := w.heap.size) (cs := [.int .i64 x, .slice none 0 0, .bool false, .slice none 0 0, .slice none 0 0]) (zer zgp) (md.trans' m7) (zz w.drew zT.toArray N.zp (0, 0)) ?_ ?_ ?_ ?_ ?_ ?_⟩
 ·simp +decide (disch := omega) only [zae, zan]
 ·simp +decide (disch := omega) only [zae, zan]
 ·simp +decide (disch := omega) only [zan]; rfl
 ·simp +decide (disch := omega) only [zae, zan]
 ·simp +decide (disch := omega) only [zae, zan]
 ·intro k hk
  simp +decide (disch := omega) only [zae, envOf_var]
def lApp0S (N : Nums) (Tt idx ft i p : Nat) : List ROp := [
 ⟨some 0, .fieldAddr N.zp (V 2) 3, 0, none, []⟩, ⟨some 1, .load N.zi (T 0), 0, none, [0]⟩, ⟨some 2, .indexAddr N.zi (T 1) (.const (.int .i64 i)), 0, none, [1]⟩, ⟨some 3, .fieldAddr N.zp (T 2) 3, 0, none, [2]⟩, ⟨some 4, .load N.zi (T 3), 0, none, [3]⟩,
 ⟨some 5, .move (V 0), 0, none, []⟩, ⟨some 6, .nilCheck (T 5), 0, none, [5]⟩, ⟨some 7, .fieldAddr Tt (T 6) idx, 0, none, [6]⟩, ⟨some 8, .load ft (T 7), 0, none, [7]⟩, ⟨some 9, .move (V p), 0, none, []⟩, ⟨some 10, .indexAddr ft (T 8) (T 9), 0, none, [8, 9]⟩,
 ⟨some 11, .load N.zaj (T 10), 0, none, [10]⟩, ⟨some 12, .convert N.zaj N.zb (T 11), 0, none, [11]⟩, ⟨some (p + 2 + 100), .build N.zp #[(1, T 12)], 0, none, [12]⟩, ⟨some (p + 3 + 100), .call ⟨.builtin .len, #[T 4], #[N.zi]⟩, N.zt, none, [4]⟩, ⟨some 15, .buildSlice N.zi 1 #[(0, zTop)], 0, none, []⟩,
 ⟨some (p + 4 + 100), .call ⟨.builtin .append, #[T 4, T 15], #[N.zi, N.zi]⟩, N.zi, none, [4, 15, 0, 1, 2, 3, 4, 5, 6, 7, 8, 9, 10, 11, 12, 13, 14, 15]⟩,
 ⟨some 17, .indexAddr N.zi (T 1) (.const (.int .i64 i)), 0, none, [1, 0, 1, 2, 3, 4, 5, 6, 7, 8, 9, 10, 11, 12, 13, 14, 15, 16]⟩, ⟨some 18, .fieldAddr N.zp (T 17) 3, 0, none, [17, 0, 1, 2, 3, 4, 5, 6, 7, 8, 9, 10, 11, 12, 13, 14, 15, 16]⟩,
 ⟨none, .store N.zi (T 18) (V (p + 4)), 0, none, [18, 16, 16, 0, 1, 2, 3, 4, 5, 6, 7, 8, 9, 10, 11, 12, 13, 14, 15, 16]⟩]
theorem W_app0Str (B : Base P N) (hI : zdx P N) {loc : List Nat} {N' : Nat} {Q : Exit → Env → World → Prop} {w0 w : World} {b oo off Tt idx ft be L c sz et bT bL bR n i lo q j : Nat} {x : List UInt8} {nl : Bool} {v : Value} {trs ts : List Tr} {σ : Env}
  (h : TL w0 (.pointer (some ⟨b, oo, none⟩)) bT bL bR n i trs lo nl v ts σ w) (hs : LSrc P w0 b oo off Tt idx ft be L c sz et) (hlen : ts.length + 1 < 1099511627776) (hp : σ (q + 6) = .int .i64 j) (hj : j < L)
  (hE : w0.cell? ⟨be, j * sz, none⟩ = some (strV x))
  (hQ : ∀ σ' v' w', (∀ k, k < q + 8 → σ' k = σ k) → TL w0 (.pointer (some ⟨b, oo, none⟩)) bT bL bR n i trs lo nl v' (ts ++ [zda 0 x false]) σ' w' → Q .normal σ' w') : W P loc N' (.seq (.draw (lApp0S N Tt idx ft i (q + 6))) (cPut N (q + 6))) Q σ w := by
 obtain ⟨fs, hI1⟩ := hI.ti
 obtain ⟨hT, hc0, hlt, _, _, _, het⟩ := hs
 have f0 := h.f0
 have f1 := h.f1
 have f2 := h.f2
 have lt := h.lt
 have hi := h.le
 have hms := h.mod.size
 have keep : ∀ {w' : World} {k o : Nat} {u : Value}, Mod w w' (fun k _ => ¬ zao v k) → k < lo → w.cell? ⟨k, o, none⟩ = some u → w'.cell? ⟨k, o, none⟩ = some u := fun m hk hc => by
  rw [m.cell _ _ (zag (by rw [hc]; rfl)) (fun hn => by have := (h.blk hn).1; omega)]; exact hc
 have hb0 : b < w0.heap.size := zag (by rw [hc0]; rfl)
 have cF : w.cell? ⟨b, oo + off, none⟩ = some (.slice (some ⟨be, 0, none⟩) L c) := by rw [h.mod.cell _ _ hb0 (fun h => h)]; exact hc0
 have cT := h.cellT
 have cL := h.cellL
 have md : Mod w w.drew zu := Mod.drew _ _
 have md' : Mod w w.drew (fun k _ => ¬ zao v k) := Mod.drew _ _
 refine zc fun K hK => zgz B.mixed [true, true, true, true, true, true, true, true, true, true, true, true, false, false, true, false, false, false, false, false] rfl (zgq (l0 := lApp0S N Tt idx ft i 6) q (by kernel_rfl) rfl) (fun w' => Mod w w' (fun k _ => ¬ zao v k)) md' fun τ => ?_
 have cE : w.cell? ⟨be, j * sz, none⟩ = some (strV x) := by rw [h.mod.cell _ _ (zag (by rw [hE]; rfl)) (fun h => h)]; exact hE
 have hbe : be < w0.heap.size := zag (by rw [hE]; rfl)
 have e2 : zcp σ τ 102 = .pointer (some ⟨bT, 0, none⟩) := by rw [← f2]; exact envOf_var σ τ 2
 have ep : zcp σ τ (q + 6 + 100) = .int .i64 j := by rw [← hp]; exact envOf_var σ τ (q + 6)
 refine za (.pointer (some ⟨bT, 3, none⟩)) (fun w' _ => zh (by simp +decide only [ev_tmp, e2, hI.h3.run])) rfl ?_
 refine za (.slice (some ⟨bL, 0, none⟩) n n) (fun w' hw => zh (by simp +decide only [bE, BEq.rfl, ev_tmp, hI.lt.run_load1 rfl, keep hw (show bT < lo by omega) cT, ldc_some])) rfl ?_
 refine za (.pointer (some ⟨bL, i * 5, none⟩)) (fun w' _ => zh (by simp +decide only [bE, BEq.rfl, Nat.zero_add, ev_tmp, ev_const, zx hI.lt hI1 hi])) rfl ?_
 refine za (.pointer (some ⟨bL, i * 5 + 3, none⟩)) (fun w' _ => zh (by simp +decide only [bE, BEq.rfl, ev_tmp, hI.h3.run])) rfl ?_
 refine za v (fun w' hw => zh (by simp +decide only [bE, BEq.rfl, ev_tmp, hI.lt.run_load1 rfl, keep hw (show bL < lo by omega) cL, ldc_some])) rfl ?_
 refine za (.pointer (some ⟨b, oo, none⟩)) (fun w' _ => by rw [zax, ev_tmp]; simp +decide only [bE, Nat.reduceBeqDiff, Nat.zero_add, f0]) rfl ?_
 refine za (.pointer (some ⟨b, oo, none⟩)) (fun w' hw => rfl) rfl ?_
 refine za (.pointer (some ⟨b, oo + off, none⟩)) (fun w' _ => zh (by simp +decide only [bE, BEq.rfl, ev_tmp, hT.run])) rfl ?_
 refine za (.slice (some ⟨be, 0, none⟩) L c) (fun w' hw => zh (by simp +decide only [bE, BEq.rfl, ev_tmp, hlt.run_load1 rfl, keep hw (show b < lo by omega) cF, ldc_some])) rfl ?_
 refine za (.int .i64 j) (fun w' _ => by rw [zax, ev_tmp]; simp +decide (disch := omega) only [zfa, ep]) rfl ?_
 refine za (.pointer (some ⟨be, j * sz, none⟩)) (fun w' _ => zh (by simp +decide only [bE, Nat.reduceBeqDiff, BEq.rfl, Nat.zero_add, ev_tmp, zx hlt het hj])) rfl ?_
 refine za (strV x) (fun w' hw => zh (by simp +decide only [bE, BEq.rfl, ev_tmp, B.string.run_load1 rfl, keep hw (show be < lo by omega) cE, ldc_some])) rfl ?_
 simp only []
 refine ⟨.int .i64 ts.length, fun w' _ => .inl ⟨rfl, ?_⟩, ?_⟩
 ·have hl := h.lenV (P := P) (N := N) hI (ty := N.zt) (w' := w')
  have e4 : ∀ ρ : Env, ρ 4 = v → (exec ρ ⟨some (q + 6 + 3 + 100), .call ⟨.builtin .len, #[T 4], #[N.zi]⟩, N.zt, none, [4]⟩).run P w' = .ok (.value (.int .i64 ts.length)) w' := fun ρ h4 => by
   simp +decide only [exec, execOp, resolve, invoke, builtin, List.map_toArray, List.map, ev_tmp, h4]
   simp [hl]
  exact e4 _ (by simp +decide (disch := omega) only [zae, zan])
 have fin : ∀ {ρ : Env} {w6 : World} {bz : Nat} {cs : List Value}, RepT w6 (NB w.heap.size w6.heap.size) (zda 0 x false) cs → Mod w w6 zu → w6.rangeAt bz 0 zT → ρ 1 = .slice (some ⟨bL, 0, none⟩) n n → ρ 4 = v → ρ 15 = .slice (some ⟨bz, 0, none⟩) 1 1 →
   ρ (q + 6 + 2 + 100) = .agg cs.toArray → ρ (q + 6 + 3 + 100) = .int .i64 ts.length → (∀ k, k < q + 8 → ρ (k + 100) = σ k) →
   zdc P (fun w' => Mod w w' (fun k _ => ¬ zao v k)) (fun ρ w => zee K Q .normal (locs ρ) w) [⟨some (q + 6 + 4 + 100), .call ⟨.builtin .append, #[T 4, T 15], #[N.zi, N.zi]⟩, N.zi, none, [4, 15, 0, 1, 2, 3, 4, 5, 6, 7, 8, 9, 10, 11, 12, 13, 14, 15]⟩,
    ⟨some 17, .indexAddr N.zi (T 1) (.const (.int .i64 i)), 0, none, [1, 0, 1, 2, 3, 4, 5, 6, 7, 8, 9, 10, 11, 12, 13, 14, 15, 16]⟩, ⟨some 18, .fieldAddr N.zp (T 17) 3, 0, none, [17, 0, 1, 2, 3, 4, 5, 6, 7, 8, 9, 10, 11, 12, 13, 14, 15, 16]⟩,
    ⟨none, .store N.zi (T 18) (V (q + 6 + 4)), 0, none, [18, 16, 16, 0, 1, 2, 3, 4, 5, 6, 7, 8, 9, 10, 11, 12, 13, 14, 15, 16]⟩] ρ w6 := by
  intro ρ w6 bz cs hrep m6 hz h1 h4 h15 hv8 hv9 hσ
  obtain ⟨bv, c', w8, w9, w10, happ, hst, m8, hst10, hTL⟩ := zjl hI h hlen m6 (Nat.le_refl _) hrep hz
  simp only [zdc]
  simp +decide only [zel, ev_tmp, h4, h15, happ, stepV_ok]
  refine ⟨m8, ?_⟩
  simp +decide (disch := omega) only [zdm, ev_tmp, ev_const, zae, h1, zx hI.lt hI1 hi, stepV_ok, Nat.zero_add]
  refine ⟨m8, ?_⟩
  simp +decide (disch := omega) only [zed, ev_tmp, zan, hI.h3.run, stepV_ok]
  refine ⟨m8, ?_⟩
  simp +decide (disch := omega) only [zdr, ev_tmp, zae, zan, hst, stepU_ok]
  refine zg (K := fun σ' w' => zee K Q .normal σ' w') fun σ9 hσ9 => hK _ _ ?_
  have g : ∀ k, k < q + 8 → σ9 k = σ k := fun k hk => by
   rw [hσ9 k]
   simp +decide (disch := omega) only [zae]
   exact hσ k hk
  refine W_put hI (L := ts.length) (bv := bv) (c := c') (cs := cs) (w10 := w10) ?_ ?_ ?_ hst10 (hQ _ _ _ g (hTL.env (g 0 (by omega)) (g 1 (by omega)) (g 2 (by omega))))
  ·rw [hσ9]; simp +decide (disch := omega) only [zae]; exact hv8
  ·rw [hσ9]; simp +decide (disch := omega) only [zae]; exact hv9
  ·rw [hσ9]; simp +decide (disch := omega) only [zae, zan]
 have ezz : ∀ ρ : Env, (#[(0, zTop)] : Array (Nat × Operand)).map (fun p => (p.1, ev ρ p.2)) = #[(0, .agg zT.toArray)] := fun ρ => by simp [zTop, zT]
 have e12 : ∀ ρ : Env, (#[(1, T 12)] : Array (Nat × Operand)).map (fun p => (p.1, ev ρ p.2)) = #[(1, ρ 12)] := fun ρ => by simp
 have nb' : ∀ {w' : World}, Mod w w' zu → Mod w w' (fun k _ => ¬ zao v k) := fun m => m.mono fun _ _ _ h => h.elim
 have hmk : ∀ {w5 w6 : World} {u : Value}, w.heap.size ≤ w5.heap.size → tagV w6 (NB w5.heap.size w6.heap.size) u x → RepT w6 (NB w.heap.size w6.heap.size) (zda 0 x false) [.int .i64 0, u, .bool false, .slice none 0 0, .slice none 0 0] := fun hs htv =>
  zer (htv.imp (fun h => ⟨h.1, h.2⟩) fun h => h.mono fun k hk => ⟨by have := hk.1; omega, hk.2⟩)
 have stay : ∀ {w6 w7 : World} {cs : List Value}, Mod w6 w7 zu → RepT w6 (NB w.heap.size w6.heap.size) (zda 0 x false) cs → RepT w7 (NB w.heap.size w7.heap.size) (zda 0 x false) cs := fun m hr =>
  RepT.mod m (fun k hk => ⟨hk.2, fun _ h => h, ⟨hk.1, by have := hk.2; have := m.size; omega⟩⟩) _ hr
 show anyC P _ _ _ _ (6 + 1) [12, 13, 15, 16, 17, 18, 19] _ _
 refine zez [12, 15] (by kernel_rfl) fun k hk => ?_
 simp only [List.mem_cons, List.not_mem_nil, or_false] at hk
 rcases hk with rfl | rfl
 ·show zbe P ⟨some 12, .convert N.zaj N.zb (T 11), 0, none, [11]⟩ _ _ _
  obtain ⟨u, w6, hconv, htv, m6d⟩ := zhu B w.drew x
  have m6 : Mod w w6 zu := md.trans' m6d
  have hrep6 := hmk (w5 := w.drew) (Nat.le_refl _) htv
  simp +decide (disch := omega) only [zhd, ev_tmp, zae, zan, hconv, stepV_ok]
  refine ⟨.inr (nb' m6), ?_⟩
  show anyC P _ _ _ _ (5 + 1) [13, 15, 16, 17, 18, 19] _ _
  refine zez [13, 15] (by kernel_rfl) fun k hk => ?_
  simp only [List.mem_cons, List.not_mem_nil, or_false] at hk
  rcases hk with rfl | rfl
  ·show zbe P ⟨some (q + 6 + 2 + 100), .build N.zp #[(1, T 12)], 0, none, [12]⟩ _ _ _
   simp +decide only [zfb, e12, zan, zjk hI _ htv.one, stepV_ok]
   refine ⟨.inr (nb' m6), ?_⟩
   show anyC P _ _ _ _ [15, 16, 17, 18, 19].length [15, 16, 17, 18, 19] _ _
   refine zbw _ _ _ (by kernel_rfl) (by decide) (fun k hk => by simp at hk; subst hk; kernel_rfl) ?_
   show zbe P ⟨some 15, .buildSlice N.zi 1 #[(0, zTop)], 0, none, []⟩ _ _ _
   have hbs := zfn (w := w6) (v := .agg zT.toArray) (cs := zT) hI.lt hI1 rfl rfl (by decide) (by decide)
   simp +decide only [zcd, ezz, hbs, stepV_ok]
   have m7 : Mod w6 (w6.alloc (.cells zT.toArray N.zp)) zu := Mod.alloc _ _ _
   refine ⟨nb' (m6.trans' m7), fin (cs := [.int .i64 0, u, .bool false, .slice none 0 0, .slice none 0 0]) (stay m7 hrep6) (m6.trans' m7) (zz w6 zT.toArray N.zp (0, 0)) ?_ ?_ ?_ ?_ ?_ ?_⟩
   ·simp +decide (disch := omega) only [zae, zan]
   ·simp +decide (disch := omega) only [zae, zan]
   ·simp +decide (disch := omega) only [zan]
   ·simp +decide (disch := omega) only [zae, zan]
   ·simp +decide (disch := omega) only [zae, zan]
   ·intro k hk
    simp +decide (disch := omega) only [zae, envOf_var]
  ·show zbe P ⟨some 15, .buildSlice N.zi 1 #[(0, zTop)], 0, none, []⟩ _ _ _
   have hbs := zfn (w := w6) (v := .agg zT.toArray) (cs := zT) hI.lt hI1 rfl rfl (by decide) (by decide)
   simp +decide only [zcd, ezz, hbs, stepV_ok]
   have m7 : Mod w6 (w6.alloc (.cells zT.toArray N.zp)) zu := Mod.alloc _ _ _
   refine ⟨.inr (nb' (m6.trans' m7)), ?_⟩
   show anyC P _ _ _ _ [13, 16, 17, 18, 19].length [13, 16, 17, 18, 19] _ _
   refine zbw _ _ _ (by kernel_rfl) (by decide) (fun k hk => by simp at hk; subst hk; kernel_rfl) ?_
   show zbe P ⟨some (q + 6 + 2 + 100), .build N.zp #[(1, T 12)], 0, none, [12]⟩ _ _ _
   have e12' : ∀ (ρ : Env) (u' : Value), ρ 12 = u' → (#[(1, T 12)] : Array (Nat × Operand)).map (fun p => (p.1, ev ρ p.2)) = #[(1, u')] := fun ρ u' h => by simp [h]
   rw [zfb, e12' _ u (by rw [zae (by decide), zan]), zjk hI _ htv.one, stepV_ok]
   refine ⟨nb' (m6.trans' m7), fin (cs := [.int .i64 0, u, .bool false, .slice none 0 0, .slice none 0 0]) (stay m7 hrep6) (m6.trans' m7) (zz w6 zT.toArray N.zp (0, 0)) ?_ ?_ ?_ ?_ ?_ ?_⟩
   ·simp +decide (disch := omega) only [zae, zan]
   ·simp +decide (disch := omega) only [zae, zan]
   ·simp +decide (disch := omega) only [zae, zan]
   ·simp +decide (disch := omega) only [zan]
   ·simp +decide (disch := omega) only [zae, zan]
   ·intro k hk
    simp +decide (disch := omega) only [zae, envOf_var]
 ·show zbe P ⟨some 15, .buildSlice N.zi 1 #[(0, zTop)], 0, none, []⟩ _ _ _
  have hbs := zfn (w := w.drew) (v := .agg zT.toArray) (cs := zT) hI.lt hI1 rfl rfl (by decide) (by decide)
  simp +decide only [zcd, ezz, hbs, stepV_ok]
  obtain ⟨w1, hw1⟩ : ∃ w1, w1 = w.drew.alloc (.cells zT.toArray N.zp) := ⟨_, rfl⟩
  have m1 : Mod w.drew w1 zu := by rw [hw1]; exact Mod.alloc _ _ _
  have s1 : w1.heap.size = w.heap.size + 1 := by rw [hw1]; exact zal w.drew _
  have r1 : w1.rangeAt w.heap.size 0 zT := by rw [hw1]; exact zz w.drew zT.toArray N.zp (0, 0)
  rw [← hw1]
  clear hw1 hbs
  have m01 : Mod w w1 zu := md.trans' m1
  refine ⟨.inr (nb' m01), ?_⟩
  show anyC P _ _ _ _ [12, 13, 16, 17, 18, 19].length [12, 13, 16, 17, 18, 19] _ _
  refine zbw _ _ _ (by kernel_rfl) (by decide) (fun k hk => by simp at hk; subst hk; kernel_rfl) ?_
  show zbe P ⟨some 12, .convert N.zaj N.zb (T 11), 0, none, [11]⟩ _ _ _
  obtain ⟨u, w6, hconv, htv, m6d⟩ := zhu B w1 x
  have m6 : Mod w w6 zu := m01.trans' m6d
  have hrep6 := hmk (w5 := w1) (by omega) htv
  simp +decide (disch := omega) only [zhd, ev_tmp, zae, zan, hconv, stepV_ok]
  refine ⟨nb' m6, ?_⟩
  show zbe P ⟨some (q + 6 + 2 + 100), .build N.zp #[(1, T 12)], 0, none, [12]⟩ _ _ _
  simp +decide only [zfb, e12, zan, zjk hI _ htv.one, stepV_ok]
  refine ⟨nb' m6, fin (bz := w.heap.size) (cs := [.int .i64 0, u, .bool false, .slice none 0 0, .slice none 0 0]) hrep6 m6 (zaf m6d r1) ?_ ?_ ?_ ?_ ?_ ?_⟩
  ·simp +decide (disch := omega) only [zae, zan]
  ·simp +decide (disch := omega) only [zae, zan]
  ·simp +decide (disch := omega) only [zae, zan]; rfl
  ·simp +decide (disch := omega) only [zan]
  ·simp +decide (disch := omega) only [zae, zan]
  ·intro k hk
   simp +decide (disch := omega) only [zae, envOf_var]
end
section
variable {P : Program} {N : Nums}
def cTUuid (N : Nums) (Tt idx i : Nat) : C := .draw [
 ⟨some 0, .fieldAddr N.zp (V 2) 3, 0, none, []⟩, ⟨some 1, .load N.zi (T 0), 0, none, [0]⟩, ⟨some 2, .move (V 0), 0, none, []⟩, ⟨some 3, .nilCheck (T 2), 0, none, [2]⟩, ⟨some 4, .fieldAddr Tt (T 3) idx, 0, none, [3]⟩, ⟨some 5, .slice N.zba (T 4) none none none, 0, none, [4]⟩,
 ⟨some 6, .call ⟨.builtin .append, #[.const (.slice none 0 0), T 5], #[N.zb, N.zb]⟩, N.zb, none, [5]⟩, ⟨some 7, .build N.zp #[(1, T 6)], 0, none, [6]⟩,
 ⟨some 8, .indexAddr N.zi (T 1) (.const (.int .i64 i)), 0, none, [1, 0, 1, 2, 3, 4, 5, 6, 7]⟩, ⟨none, .store N.zp (T 8) (T 7), 0, none, [8, 7, 6, 0, 1, 2, 3, 4, 5, 6, 7]⟩]
theorem W_tUuid (B : Base P N) (hI : zdx P N) {loc : List Nat} {N' : Nat} {Q : Exit → Env → World → Prop} {w0 w : World} {b oo off Tt idx bT bL bR n i : Nat} {trs : List Tr} {σ : Env} {s : List UInt8} (hu : N.zba ≠ 0) (hs : s.length = 16)
  (h : TF w0 (.pointer (some ⟨b, oo, none⟩)) bT bL bR n i trs σ w) (hi : i < n) (hT : HF P Tt idx off) (hc : w0.rangeAt b (oo + off) (s.map zbo))
  (hQ : ∀ σ' w', TF w0 (.pointer (some ⟨b, oo, none⟩)) bT bL bR n (i + 1) (trs ++ [zda 0 s false]) σ' w' → Q .normal σ' w') : W P loc N' (cTUuid N Tt idx i) Q σ w := by
 obtain ⟨fs, hI1⟩ := hI.ti
 have hU := B.uuid hu
 have f0 := h.f0
 have f1 := h.f1
 have f2 := h.f2
 have cT : w.cell? ⟨bT, 3, none⟩ = some (.slice (some ⟨bL, 0, none⟩) n n) := h.tc 3 _ rfl
 have st : ∀ {w' : World} {k o : Nat} {v : Value}, Mod w w' zu → w.cell? ⟨k, o, none⟩ = some v → w'.cell? ⟨k, o, none⟩ = some v := fun m hc => by rw [m.cell _ _ (zag (by rw [hc]; rfl)) (fun h => h)]; exact hc
 have md : Mod w w.drew zu := Mod.drew _ _
 refine zfv B.mixed [true, true, true, true, true, true, false, false, false, false] (by kernel_rfl) (fun w' => Mod w w' zu) md fun τ => ?_
 have e2 : zcp σ τ 102 = .pointer (some ⟨bT, 0, none⟩) := by rw [← f2]; exact envOf_var σ τ 2
 refine za (.pointer (some ⟨bT, 3, none⟩)) (fun w' _ => zh (by
  simp +decide only [ev_tmp, e2, hI.h3.run])) rfl ?_
 refine za (.slice (some ⟨bL, 0, none⟩) n n) (fun w' hw => zh (by
  simp +decide only [bE, BEq.rfl, ev_tmp, hI.lt.run_load1 rfl, st hw cT, ldc_some])) rfl ?_
 refine za (.pointer (some ⟨b, oo, none⟩)) (fun w' hw => by
  rw [zax, ev_tmp]
  simp +decide only [bE, Nat.reduceBeqDiff, Nat.zero_add, f0]) rfl ?_
 refine za (.pointer (some ⟨b, oo, none⟩)) (fun w' hw => rfl) rfl ?_
 refine za (.pointer (some ⟨b, oo + off, none⟩)) (fun w' hw => zh (by
  simp +decide only [bE, BEq.rfl, ev_tmp, hT.run])) rfl ?_
 refine za (.slice (some ⟨b, oo + off, none⟩) 16 16) (fun w' hw => zh (by
  have e := zhe (w := w') hU B.uint8 (ad := ⟨b, oo + off, none⟩)
  simp +decide only [bE, BEq.rfl, ev_tmp, Option.map_none, e])) rfl ?_
 simp only [zcs, zcu, List.zip_cons_cons, List.zip_nil_right, List.zipWith_cons_cons, List.zipWith_nil_right, List.filter, Bool.not_true, Bool.not_false, List.map, zdc]
 have htv0 : tagV w.drew (fun _ => True) (.slice (some ⟨b, oo + off, none⟩) 16 16) s := .inr ⟨b, oo + off, 16, by rw [hs], by omega, fun _ => trivial, zaf (h.mod.trans' md) hc⟩
 obtain ⟨v', w6, hcp, htv, m6⟩ := zga (ty := N.zb) B htv0 (by omega)
 have mw := md.trans' m6
 have nbw : ∀ k, NB w.drew.heap.size w6.heap.size k → NB w.heap.size w6.heap.size k := fun k h => h
 simp +decide only [bK, bE, Nat.reduceBeqDiff, BEq.rfl, hcp]
 refine ⟨mw, ?_⟩
 have e6 : ∀ ρ : Env, (#[(1, T 6)] : Array (Nat × Operand)).map (fun p => (p.1, ev ρ p.2)) = #[(1, ρ 6)] := fun ρ => by simp
 simp +decide only [bK, bE, BEq.rfl, e6, zjk hI _ htv.one]
 refine ⟨mw, ?_⟩
 simp +decide only [bK, Nat.zero_add, zx hI.lt hI1 hi]
 refine ⟨mw, ?_⟩
 obtain ⟨w8, hst, htf⟩ := zhc hI (w7 := w6) (σ' := σ) h hi mw (zer (n := 0) (nl := false) (htv.imp (fun h => ⟨h.1, h.2⟩) fun h => h.mono nbw)) rfl rfl rfl
 simp +decide only [bK, hst]
 refine zg (K := fun σ' w' => Q .normal σ' w') fun σ9 hσ => hQ _ _ (htf.env ?_ ?_ ?_)
 ·rw [hσ 0]; simp +decide only [bE, Nat.reduceBeqDiff, Nat.zero_add]
 ·rw [hσ 1]; simp +decide only [bE, Nat.reduceBeqDiff, Nat.reduceAdd]
 ·rw [hσ 2]; simp +decide only [bE, Nat.reduceBeqDiff, Nat.reduceAdd]
def cTRow (N : Nums) (Tt idx f pT i : Nat) : C := .draw [
 ⟨some 0, .fieldAddr N.zp (V 2) 3, 0, none, []⟩, ⟨some 1, .load N.zi (T 0), 0, none, [0]⟩, ⟨some 2, .move (V 0), 0, none, []⟩, ⟨some 3, .nilCheck (T 2), 0, none, [2]⟩, ⟨some 4, .fieldAddr Tt (T 3) idx, 0, none, [3]⟩,
 ⟨some 5, .call ⟨.value (.func f), #[T 4], #[pT]⟩, N.zp, none, [4]⟩, ⟨some 6, .indexAddr N.zi (T 1) (.const (.int .i64 i)), 0, none, [1, 0, 1, 2, 3, 4, 5]⟩, ⟨none, .store N.zp (T 6) (T 5), 0, none, [6, 5, 5, 0, 1, 2, 3, 4, 5]⟩]
theorem W_tRow (B : Base P N) (hI : zdx P N) {loc : List Nat} {N' : Nat} {Q : Exit → Env → World → Prop} {w0 w : World} {b oo off Tt idx bT bL bR n i f pT : Nat} {trs : List Tr} {σ : Env} {t : Tr} (hf : zcr P f) (hcall : ∀ w1, Mod w0 w1 zu → Call P f #[.pointer (some ⟨b, oo + off, none⟩)] w1 (Told w1 t))
  (h : TF w0 (.pointer (some ⟨b, oo, none⟩)) bT bL bR n i trs σ w) (hi : i < n) (hT : HF P Tt idx off)
  (hQ : ∀ σ' w', TF w0 (.pointer (some ⟨b, oo, none⟩)) bT bL bR n (i + 1) (trs ++ [t]) σ' w' → Q .normal σ' w') : W P loc N' (cTRow N Tt idx f pT i) Q σ w := by
 obtain ⟨fs, hI1⟩ := hI.ti
 have f0 := h.f0
 have f1 := h.f1
 have f2 := h.f2
 have cT : w.cell? ⟨bT, 3, none⟩ = some (.slice (some ⟨bL, 0, none⟩) n n) := h.tc 3 _ rfl
 have st : ∀ {w' : World} {k o : Nat} {v : Value}, Mod w w' zu → w.cell? ⟨k, o, none⟩ = some v → w'.cell? ⟨k, o, none⟩ = some v := fun m hc => by rw [m.cell _ _ (zag (by rw [hc]; rfl)) (fun h => h)]; exact hc
 have md : Mod w w.drew zu := Mod.drew _ _
 refine zfv B.mixed [true, true, true, true, true, false, false, false] (by kernel_rfl) (fun w' => Mod w w' zu) md fun τ => ?_
 have e2 : zcp σ τ 102 = .pointer (some ⟨bT, 0, none⟩) := by rw [← f2]; exact envOf_var σ τ 2
 refine za (.pointer (some ⟨bT, 3, none⟩)) (fun w' _ => zh (by
  simp +decide only [ev_tmp, e2, hI.h3.run])) rfl ?_
 refine za (.slice (some ⟨bL, 0, none⟩) n n) (fun w' hw => zh (by
  simp +decide only [bE, BEq.rfl, ev_tmp, hI.lt.run_load1 rfl, st hw cT, ldc_some])) rfl ?_
 refine za (.pointer (some ⟨b, oo, none⟩)) (fun w' hw => by
  rw [zax, ev_tmp]
  simp +decide only [bE, Nat.reduceBeqDiff, Nat.zero_add, f0]) rfl ?_
 refine za (.pointer (some ⟨b, oo, none⟩)) (fun w' hw => rfl) rfl ?_
 refine za (.pointer (some ⟨b, oo + off, none⟩)) (fun w' hw => zh (by
  simp +decide only [bE, BEq.rfl, ev_tmp, hT.run])) rfl ?_
 simp only [zcs, zcu, List.zip_cons_cons, List.zip_nil_right, List.zipWith_cons_cons, List.zipWith_nil_right, List.filter, Bool.not_true, Bool.not_false, List.map, zdc]
 rw [zak hf]
 simp +decide only [bK, bE, Nat.reduceBeqDiff, BEq.rfl]
 refine Call.mono (Rt' := _) (hcall w.drew (h.mod.trans' md)) ?_
 rintro _ w6 ⟨cs, rfl, hrep, m6⟩
 have mw := md.trans' m6
 refine ⟨mw, ?_⟩
 simp +decide only [bK, Nat.zero_add, zx hI.lt hI1 hi]
 refine ⟨mw, ?_⟩
 obtain ⟨w8, hst, htf⟩ := zhc hI (w7 := w6) (σ' := σ) h hi mw hrep rfl rfl rfl
 simp +decide only [bK, hst]
 refine zg (K := fun σ' w' => Q .normal σ' w') fun σ9 hσ => hQ _ _ (htf.env ?_ ?_ ?_)
 ·rw [hσ 0]; simp +decide only [bE, Nat.reduceBeqDiff, Nat.zero_add]
 ·rw [hσ 1]; simp +decide only [bE, Nat.reduceBeqDiff, Nat.reduceAdd]
 ·rw [hσ 2]; simp +decide only [bE, Nat.reduceBeqDiff, Nat.reduceAdd]
end
section
variable {P : Program} {N : Nums}
def lAppU (N : Nums) (Tt idx ft i p : Nat) : List ROp := [
 ⟨some 0, .fieldAddr N.zp (V 2) 3, 0, none, []⟩, ⟨some 1, .load N.zi (T 0), 0, none, [0]⟩, ⟨some 2, .fieldAddr N.zp (V 2) 3, 0, none, []⟩, ⟨some 3, .load N.zi (T 2), 0, none, [2]⟩,
 ⟨some 4, .indexAddr N.zi (T 3) (.const (.int .i64 i)), 0, none, [3]⟩, ⟨some 5, .fieldAddr N.zp (T 4) 3, 0, none, [4]⟩, ⟨some 6, .load N.zi (T 5), 0, none, [5]⟩,
 ⟨some 7, .move (V 0), 0, none, []⟩, ⟨some 8, .nilCheck (T 7), 0, none, [7]⟩, ⟨some 9, .fieldAddr Tt (T 8) idx, 0, none, [8]⟩, ⟨some 10, .load ft (T 9), 0, none, [9]⟩, ⟨some 11, .move (V p), 0, none, []⟩, ⟨some 12, .indexAddr ft (T 10) (T 11), 0, none, [10, 11]⟩,
 ⟨some 13, .slice N.zba (T 12) none none none, 0, none, [12]⟩, ⟨some 14, .call ⟨.builtin .append, #[.const (.slice none 0 0), T 13], #[N.zb, N.zb]⟩, N.zb, none, [13]⟩, ⟨some 15, .build N.zp #[(1, T 14)], 0, none, [14]⟩, ⟨some 16, .buildSlice N.zi 1 #[(0, T 15)], 0, none, [15]⟩, ⟨some 17, .call ⟨.builtin .append, #[T 6, T 16], #[N.zi, N.zi]⟩, N.zi, none, [6, 16, 14]⟩,
 ⟨some 18, .indexAddr N.zi (T 1) (.const (.int .i64 i)), 0, none, [1, 0, 1, 2, 3, 4, 5, 6, 7, 8, 9, 10, 11, 12, 13, 14, 15, 16, 17]⟩, ⟨some 19, .fieldAddr N.zp (T 18) 3, 0, none, [18, 0, 1, 2, 3, 4, 5, 6, 7, 8, 9, 10, 11, 12, 13, 14, 15, 16, 17]⟩,
 ⟨none, .store N.zi (T 19) (T 17), 0, none, [19, 17, 17, 0, 1, 2, 3, 4, 5, 6, 7, 8, 9, 10, 11, 12, 13, 14, 15, 16, 17]⟩]
theorem W_appUuid (B : Base P N) (hI : zdx P N) {loc : List Nat} {N' : Nat} {Q : Exit → Env → World → Prop} {w0 w : World} {b oo off Tt idx ft be L c sz et bT bL bR n i lo q j : Nat} {x : List UInt8} {nl : Bool} {v : Value} {trs ts : List Tr} {σ : Env}
  (h : TL w0 (.pointer (some ⟨b, oo, none⟩)) bT bL bR n i trs lo nl v ts σ w) (hs : LSrc P w0 b oo off Tt idx ft be L c sz et) (hlen : ts.length + 1 < 1099511627776) (hp : σ (q + 6) = .int .i64 j) (hj : j < L)
  (hU : N.zba ≠ 0) (hx16 : x.length = 16) (hE : w0.rangeAt be (j * sz) (x.map zbo))
  (hQ : ∀ v' w', TL w0 (.pointer (some ⟨b, oo, none⟩)) bT bL bR n i trs lo nl v' (ts ++ [zda 0 x false]) σ w' → Q .normal σ w') : W P loc N' (.draw (lAppU N Tt idx ft i (q + 6))) Q σ w := by
 obtain ⟨fs, hI1⟩ := hI.ti
 obtain ⟨hT, hc0, hlt, _, _, _, het⟩ := hs
 have f0 := h.f0
 have f1 := h.f1
 have f2 := h.f2
 have lt := h.lt
 have hi := h.le
 have hms := h.mod.size
 have keep : ∀ {w' : World} {k o : Nat} {u : Value}, Mod w w' (fun k _ => ¬ zao v k) → k < lo → w.cell? ⟨k, o, none⟩ = some u → w'.cell? ⟨k, o, none⟩ = some u := fun m hk hc => by
  rw [m.cell _ _ (zag (by rw [hc]; rfl)) (fun hn => by have := (h.blk hn).1; omega)]; exact hc
 have hb0 : b < w0.heap.size := zag (by rw [hc0]; rfl)
 have cF : w.cell? ⟨b, oo + off, none⟩ = some (.slice (some ⟨be, 0, none⟩) L c) := by rw [h.mod.cell _ _ hb0 (fun h => h)]; exact hc0
 have cT := h.cellT
 have cL := h.cellL
 have md : Mod w w.drew zu := Mod.drew _ _
 have md' : Mod w w.drew (fun k _ => ¬ zao v k) := Mod.drew _ _
 refine zgz B.mixed [true, true, true, true, true, true, true, true, true, true, true, true, true, true, false, false, false, false, false, false, false] rfl (zgq (l0 := lAppU N Tt idx ft i 6) q (by kernel_rfl) rfl) (fun w' => Mod w w' (fun k _ => ¬ zao v k)) md' fun τ => ?_
 have cE : w.rangeAt be (j * sz) (x.map zbo) := zaf h.mod hE
 have htv0 : ∀ {w' : World}, Mod w w' zu → tagV w' (fun _ => True) (.slice (some ⟨be, j * sz, none⟩) 16 16) x := fun m => .inr ⟨be, j * sz, 16, by rw [hx16], by omega, fun _ => trivial, zaf m cE⟩
 have hbe : be < w0.heap.size := by
  cases x with
  | nil => simp at hx16
  | cons y x => exact zag (by rw [hE 0 (zbo y) rfl]; rfl)
 have e2 : zcp σ τ 102 = .pointer (some ⟨bT, 0, none⟩) := by rw [← f2]; exact envOf_var σ τ 2
 have e0 : zcp σ τ 100 = .pointer (some ⟨b, oo, none⟩) := by rw [← f0]; exact envOf_var σ τ 0
 have ep : zcp σ τ (q + 6 + 100) = .int .i64 j := by rw [← hp]; exact envOf_var σ τ (q + 6)
 refine za (.pointer (some ⟨bT, 3, none⟩)) (fun w' _ => zh (by simp +decide only [ev_tmp, e2, hI.h3.run])) rfl ?_
 refine za (.slice (some ⟨bL, 0, none⟩) n n) (fun w' hw => zh (by simp +decide only [bE, BEq.rfl, ev_tmp, hI.lt.run_load1 rfl, keep hw (show bT < lo by omega) cT, ldc_some])) rfl ?_
 refine za (.pointer (some ⟨bT, 3, none⟩)) (fun w' _ => zh (by simp +decide only [bE, Nat.reduceBeqDiff, Nat.reduceAdd, Nat.zero_add, ev_tmp, f2, hI.h3.run])) rfl ?_
 refine za (.slice (some ⟨bL, 0, none⟩) n n) (fun w' hw => zh (by simp +decide only [bE, BEq.rfl, ev_tmp, hI.lt.run_load1 rfl, keep hw (show bT < lo by omega) cT, ldc_some])) rfl ?_
 refine za (.pointer (some ⟨bL, i * 5, none⟩)) (fun w' _ => zh (by simp +decide only [bE, BEq.rfl, Nat.zero_add, ev_tmp, ev_const, zx hI.lt hI1 hi])) rfl ?_
 refine za (.pointer (some ⟨bL, i * 5 + 3, none⟩)) (fun w' _ => zh (by simp +decide only [bE, BEq.rfl, ev_tmp, hI.h3.run])) rfl ?_
 refine za v (fun w' hw => zh (by simp +decide only [bE, BEq.rfl, ev_tmp, hI.lt.run_load1 rfl, keep hw (show bL < lo by omega) cL, ldc_some])) rfl ?_
 refine za (.pointer (some ⟨b, oo, none⟩)) (fun w' _ => by rw [zax, ev_tmp]; simp +decide only [bE, Nat.reduceBeqDiff, Nat.zero_add, f0]) rfl ?_
 refine za (.pointer (some ⟨b, oo, none⟩)) (fun w' hw => rfl) rfl ?_
 refine za (.pointer (some ⟨b, oo + off, none⟩)) (fun w' _ => zh (by simp +decide only [bE, BEq.rfl, ev_tmp, hT.run])) rfl ?_
 refine za (.slice (some ⟨be, 0, none⟩) L c) (fun w' hw => zh (by simp +decide only [bE, BEq.rfl, ev_tmp, hlt.run_load1 rfl, keep hw (show b < lo by omega) cF, ldc_some])) rfl ?_
 refine za (.int .i64 j) (fun w' _ => by rw [zax, ev_tmp]; simp +decide (disch := omega) only [zfa, ep]) rfl ?_
 refine za (.pointer (some ⟨be, j * sz, none⟩)) (fun w' _ => zh (by simp +decide only [bE, Nat.reduceBeqDiff, BEq.rfl, Nat.zero_add, ev_tmp, zx hlt het hj])) rfl ?_
 refine za (.slice (some ⟨be, j * sz, none⟩) 16 16) (fun w' hw => zh (by
  have e := zhe (w := w') (B.uuid hU) B.uint8 (ad := ⟨be, j * sz, none⟩)
  simp +decide only [bE, BEq.rfl, ev_tmp, Option.map_none, e])) rfl ?_
 simp only []
 show anyC P _ _ _ _ [14, 15, 16, 17, 18, 19, 20].length [14, 15, 16, 17, 18, 19, 20] _ _
 refine zbw _ _ _ (by kernel_rfl) (by decide) (fun k hk => by simp at hk; subst hk; kernel_rfl) ?_
 simp only [lAppU, List.map, List.getD_cons_zero, List.getD_cons_succ, zdc]
 obtain ⟨v6, w6, hconv, htv, m6d⟩ := zga (ty := N.zb) B (htv0 md) (by omega)
 have m6 : Mod w w6 zu := md.trans' m6d
 have m6' : Mod w w6 (fun k _ => ¬ zao v k) := m6.mono fun _ _ _ h => h.elim
 simp +decide only [bK, bE, Nat.reduceBeqDiff, BEq.rfl, hconv]
 refine ⟨m6', ?_⟩
 have e14 : ∀ ρ : Env, (#[(1, T 14)] : Array (Nat × Operand)).map (fun p => (p.1, ev ρ p.2)) = #[(1, ρ 14)] := fun ρ => by simp
 simp +decide only [bK, bE, BEq.rfl, e14, zjk hI _ htv.one]
 refine ⟨m6', ?_⟩
 have nbw : ∀ k, NB w.drew.heap.size w6.heap.size k → NB w.heap.size w6.heap.size k := fun k h => h
 have hrep : RepT w6 (NB w.heap.size w6.heap.size) (zda 0 x false) [.int .i64 0, v6, .bool false, .slice none 0 0, .slice none 0 0] := zer (htv.imp (fun h => ⟨h.1, h.2⟩) fun h => h.mono nbw)
 have e9 : ∀ ρ : Env, (#[(0, T 15)] : Array (Nat × Operand)).map (fun p => (p.1, ev ρ p.2)) = #[(0, ρ 15)] := fun ρ => by simp
 obtain ⟨w7, v', w8, w9, hbs, happ, hst, m7, m8, hTL⟩ := zkx hI h hlen m6 (Nat.le_refl _) hrep
 simp +decide only [bK, bE, BEq.rfl, e9, hbs]
 refine ⟨m7, ?_⟩
 simp +decide only [bK, happ]
 refine ⟨m8, ?_⟩
 simp +decide only [bK, Nat.zero_add, zx hI.lt hI1 hi]
 refine ⟨m8, ?_⟩
 simp +decide only [bK, hI.h3.run]
 refine ⟨m8, ?_⟩
 simp +decide only [bK, hst]
 refine zg (K := fun σ' w' => Q .normal σ' w') fun σ9 hσ => ?_
 have e : σ9 = σ := by
  funext k
  rw [hσ k]
  simp +decide (disch := omega) only [zfa, envOf_var]
 rw [e]
 exact hQ _ _ hTL
def lApp0U (N : Nums) (Tt idx ft i p : Nat) : List ROp := [
 ⟨some 0, .fieldAddr N.zp (V 2) 3, 0, none, []⟩, ⟨some 1, .load N.zi (T 0), 0, none, [0]⟩, ⟨some 2, .indexAddr N.zi (T 1) (.const (.int .i64 i)), 0, none, [1]⟩, ⟨some 3, .fieldAddr N.zp (T 2) 3, 0, none, [2]⟩, ⟨some 4, .load N.zi (T 3), 0, none, [3]⟩,
 ⟨some 5, .move (V 0), 0, none, []⟩, ⟨some 6, .nilCheck (T 5), 0, none, [5]⟩, ⟨some 7, .fieldAddr Tt (T 6) idx, 0, none, [6]⟩, ⟨some 8, .load ft (T 7), 0, none, [7]⟩, ⟨some 9, .move (V p), 0, none, []⟩, ⟨some 10, .indexAddr ft (T 8) (T 9), 0, none, [8, 9]⟩,
 ⟨some 11, .slice N.zba (T 10) none none none, 0, none, [10]⟩, ⟨some 12, .call ⟨.builtin .append, #[.const (.slice none 0 0), T 11], #[N.zb, N.zb]⟩, N.zb, none, [11]⟩, ⟨some (p + 2 + 100), .build N.zp #[(1, T 12)], 0, none, [12]⟩, ⟨some (p + 3 + 100), .call ⟨.builtin .len, #[T 4], #[N.zi]⟩, N.zt, none, [4]⟩, ⟨some 15, .buildSlice N.zi 1 #[(0, zTop)], 0, none, []⟩,
 ⟨some (p + 4 + 100), .call ⟨.builtin .append, #[T 4, T 15], #[N.zi, N.zi]⟩, N.zi, none, [4, 15, 12, 0, 1, 2, 3, 4, 5, 6, 7, 8, 9, 10, 11, 12, 13, 14, 15]⟩,
 ⟨some 17, .indexAddr N.zi (T 1) (.const (.int .i64 i)), 0, none, [1, 0, 1, 2, 3, 4, 5, 6, 7, 8, 9, 10, 11, 12, 13, 14, 15, 16]⟩, ⟨some 18, .fieldAddr N.zp (T 17) 3, 0, none, [17, 0, 1, 2, 3, 4, 5, 6, 7, 8, 9, 10, 11, 12, 13, 14, 15, 16]⟩,
 ⟨none, .store N.zi (T 18) (V (p + 4)), 0, none, [18, 16, 16, 0, 1, 2, 3, 4, 5, 6, 7, 8, 9, 10, 11, 12, 13, 14, 15, 16]⟩]
theorem W_app0Uuid (B : Base P N) (hI : zdx P N) {loc : List Nat} {N' : Nat} {Q : Exit → Env → World → Prop} {w0 w : World} {b oo off Tt idx ft be L c sz et bT bL bR n i lo q j : Nat} {x : List UInt8} {nl : Bool} {v : Value} {trs ts : List Tr} {σ : Env}
  (h : TL w0 (.pointer (some ⟨b, oo, none⟩)) bT bL bR n i trs lo nl v ts σ w) (hs : LSrc P w0 b oo off Tt idx ft be L c sz et) (hlen : ts.length + 1 < 1099511627776) (hp : σ (q + 6) = .int .i64 j) (hj : j < L)
  (hU : N.zba ≠ 0) (hx16 : x.length = 16) (hE : w0.rangeAt be (j * sz) (x.map zbo))
  (hQ : ∀ σ' v' w', (∀ k, k < q + 8 → σ' k = σ k) → TL w0 (.pointer (some ⟨b, oo, none⟩)) bT bL bR n i trs lo nl v' (ts ++ [zda 0 x false]) σ' w' → Q .normal σ' w') : W P loc N' (.seq (.draw (lApp0U N Tt idx ft i (q + 6))) (cPut N (q + 6))) Q σ w := by
 obtain ⟨fs, hI1⟩ := hI.ti
 obtain ⟨hT, hc0, hlt, _, _, _, het⟩ := hs
 have f0 := h.f0
 have f1 := h.f1
 have f2 := h.f2
 have lt := h.lt
 have hi := h.le
 have hms := h.mod.size
 have keep : ∀ {w' : World} {k o : Nat} {u : Value}, Mod w w' (fun k _ => ¬ zao v k) → k < lo → w.cell? ⟨k, o, none⟩ = some u → w'.cell? ⟨k, o, none⟩ = some u := fun m hk hc => by
  rw [m.cell _ _ (zag (by rw [hc]; rfl)) (fun hn => by have := (h.blk hn).1; omega)]; exact hc
 have hb0 : b < w0.heap.size := zag (by rw [hc0]; rfl)
 have cF : w.cell? ⟨b, oo + off, none⟩ = some (.slice (some ⟨be, 0, none⟩) L c) := by rw [h.mod.cell _ _ hb0 (fun h => h)]; exact hc0
 have cT := h.cellT
 have cL := h.cellL
 have md : Mod w w.drew zu := Mod.drew _ _
 have md' : Mod w w.drew (fun k _ => ¬ zao v k) := Mod.drew _ _
 refine zc fun K hK => zgz B.mixed [true, true, true, true, true, true, true, true, true, true, true, true, false, false, true, false, false, false, false, false] rfl (zgq (l0 := lApp0U N Tt idx ft i 6) q (by kernel_rfl) rfl) (fun w' => Mod w w' (fun k _ => ¬ zao v k)) md' fun τ => ?_
 have cE : w.rangeAt be (j * sz) (x.map zbo) := zaf h.mod hE
 have htv0 : ∀ {w' : World}, Mod w w' zu → tagV w' (fun _ => True) (.slice (some ⟨be, j * sz, none⟩) 16 16) x := fun m => .inr ⟨be, j * sz, 16, by rw [hx16], by omega, fun _ => trivial, zaf m cE⟩
 have hbe : be < w0.heap.size := by
  cases x with
  | nil => simp at hx16
  | cons y x => exact zag (by rw [hE 0 (zbo y) rfl]; rfl)
 have e2 : zcp σ τ 102 = .pointer (some ⟨bT, 0, none⟩) := by rw [← f2]; exact envOf_var σ τ 2
 have ep : zcp σ τ (q + 6 + 100) = .int .i64 j := by rw [← hp]; exact envOf_var σ τ (q + 6)
 refine za (.pointer (some ⟨bT, 3, none⟩)) (fun w' _ => zh (by simp +decide only [ev_tmp, e2, hI.h3.run])) rfl ?_
 refine za (.slice (some ⟨bL, 0, none⟩) n n) (fun w' hw => zh (by simp +decide only [bE, BEq.rfl, ev_tmp, hI.lt.run_load1 rfl, keep hw (show bT < lo by omega) cT, ldc_some])) rfl ?_
 refine za (.pointer (some ⟨bL, i * 5, none⟩)) (fun w' _ => zh (by simp +decide only [bE, BEq.rfl, Nat.zero_add, ev_tmp, ev_const, zx hI.lt hI1 hi])) rfl ?_
 refine za (.pointer (some ⟨bL, i * 5 + 3, none⟩)) (fun w' _ => zh (by simp +decide only [bE, BEq.rfl, ev_tmp, hI.h3.run])) rfl ?_
 refine za v (fun w' hw => zh (by simp +decide only [bE, BEq.rfl, ev_tmp, hI.lt.run_load1 rfl, keep hw (show bL < lo by omega) cL, ldc_some])) rfl ?_
 refine za (.pointer (some ⟨b, oo, none⟩)) (fun w' _ => by rw [zax, ev_tmp]; simp +decide only [bE, Nat.reduceBeqDiff, Nat.zero_add, f0]) rfl ?_
 refine za (.pointer (some ⟨b, oo, none⟩)) (fun w' hw => rfl) rfl ?_
 refine za (.pointer (some ⟨b, oo + off, none⟩)) (fun w' _ => zh (by simp +decide only [bE, BEq.rfl, ev_tmp, hT.run])) rfl ?_
 refine za (.slice (some ⟨be, 0, none⟩) L c) (fun w' hw => zh (by simp +decide only [bE, BEq.rfl, ev_tmp, hlt.run_load1 rfl, keep hw (show b < lo by omega) cF, ldc_some])) rfl ?_
 refine za (.int .i64 j) (fun w' _ => by rw [zax, ev_tmp]; simp +decide (disch := omega) only [zfa, ep]) rfl ?_
 refine za (.pointer (some ⟨be, j * sz, none⟩)) (fun w' _ => zh (by simp +decide only [bE, Nat.reduceBeqDiff, BEq.rfl, Nat.zero_add, ev_tmp, zx hlt het hj])) rfl ?_
 refine za (.slice (some ⟨be, j * sz, none⟩) 16 16) (fun w' hw => zh (by
  have e := zhe (w := w') (B.uuid hU) B.uint8 (ad := ⟨be, j * sz, none⟩)
  simp +decide only [bE, BEq.rfl, ev_tmp, Option.map_none, e])) rfl ?_
 simp only []
 refine ⟨.int .i64 ts.length, fun w' _ => .inl ⟨rfl, ?_⟩, ?_⟩
 ·have hl := h.lenV (P := P) (N := N) hI (ty := N.zt) (w' := w')
  have e4 : ∀ ρ : Env, ρ 4 = v → (exec ρ ⟨some (q + 6 + 3 + 100), .call ⟨.builtin .len, #[T 4], #[N.zi]⟩, N.zt, none, [4]⟩).run P w' = .ok (.value (.int .i64 ts.length)) w' := fun ρ h4 => by
   simp +decide only [exec, execOp, resolve, invoke, builtin, List.map_toArray, List.map, ev_tmp, h4]
   simp [hl]
  exact e4 _ (by simp +decide (disch := omega) only [zae, zan])
 have fin : ∀ {ρ : Env} {w6 : World} {bz : Nat} {cs : List Value}, RepT w6 (NB w.heap.size w6.heap.size) (zda 0 x false) cs → Mod w w6 zu → w6.rangeAt bz 0 zT → ρ 1 = .slice (some ⟨bL, 0, none⟩) n n → ρ 4 = v → ρ 15 = .slice (some ⟨bz, 0, none⟩) 1 1 →
   ρ (q + 6 + 2 + 100) = .agg cs.toArray → ρ (q + 6 + 3 + 100) = .int .i64 ts.length → (∀ k, k < q + 8 → ρ (k + 100) = σ k) →
   zdc P (fun w' => Mod w w' (fun k _ => ¬ zao v k)) (fun ρ w => zee K Q .normal (locs ρ) w) [⟨some (q + 6 + 4 + 100), .call ⟨.builtin .append, #[T 4, T 15], #[N.zi, N.zi]⟩, N.zi, none, [4, 15, 12, 0, 1, 2, 3, 4, 5, 6, 7, 8, 9, 10, 11, 12, 13, 14, 15]⟩,
    ⟨some 17, .indexAddr N.zi (T 1) (.const (.int .i64 i)), 0, none, [1, 0, 1, 2, 3, 4, 5, 6, 7, 8, 9, 10, 11, 12, 13, 14, 15, 16]⟩, ⟨some 18, .fieldAddr N.zp (T 17) 3, 0, none, [17, 0, 1, 2, 3, 4, 5, 6, 7, 8, 9, 10, 11, 12, 13, 14, 15, 16]⟩,
    ⟨none, .store N.zi (T 18) (V (q + 6 + 4)), 0, none, [18, 16, 16, 0, 1, 2, 3, 4, 5, 6, 7, 8, 9, 10, 11, 12, 13, 14, 15, 16]⟩] ρ w6 := by
  intro ρ w6 bz cs hrep m6 hz h1 h4 h15 hv8 hv9 hσ
  obtain ⟨bv, c', w8, w9, w10, happ, hst, m8, hst10, hTL⟩ := zjl hI h hlen m6 (Nat.le_refl _) hrep hz
  simp only [zdc]
  simp +decide only [zel, ev_tmp, h4, h15, happ, stepV_ok]
  refine ⟨m8, ?_⟩
  simp +decide (disch := omega) only [zdm, ev_tmp, ev_const, zae, h1, zx hI.lt hI1 hi, stepV_ok, Nat.zero_add]
  refine ⟨m8, ?_⟩
  simp +decide (disch := omega) only [zed, ev_tmp, zan, hI.h3.run, stepV_ok]
  refine ⟨m8, ?_⟩
  simp +decide (disch := omega) only [zdr, ev_tmp, zae, zan, hst, stepU_ok]
  refine zg (K := fun σ' w' => zee K Q .normal σ' w') fun σ9 hσ9 => hK _ _ ?_
  have g : ∀ k, k < q + 8 → σ9 k = σ k := fun k hk => by
   rw [hσ9 k]
   simp +decide (disch := omega) only [zae]
   exact hσ k hk
  refine W_put hI (L := ts.length) (bv := bv) (c := c') (cs := cs) (w10 := w10) ?_ ?_ ?_ hst10 (hQ _ _ _ g (hTL.env (g 0 (by omega)) (g 1 (by omega)) (g 2 (by omega))))
  ·rw [hσ9]; simp +decide (disch := omega) only [zae]; exact hv8
  ·rw [hσ9]; simp +decide (disch := omega) only [zae]; exact hv9
  ·rw [hσ9]; simp +decide (disch := omega) only [zae, zan]
 have ezz : ∀ ρ : Env, (#[(0, zTop)] : Array (Nat × Operand)).map (fun p => (p.1, ev ρ p.2)) = #[(0, .agg zT.toArray)] := fun ρ => by simp [zTop, zT]
 have e12 : ∀ ρ : Env, (#[(1, T 12)] : Array (Nat × Operand)).map (fun p => (p.1, ev ρ p.2)) = #[(1, ρ 12)] := fun ρ => by simp
 have nb' : ∀ {w' : World}, Mod w w' zu → Mod w w' (fun k _ => ¬ zao v k) := fun m => m.mono fun _ _ _ h => h.elim
 have hmk : ∀ {w5 w6 : World} {u : Value}, w.heap.size ≤ w5.heap.size → tagV w6 (NB w5.heap.size w6.heap.size) u x → RepT w6 (NB w.heap.size w6.heap.size) (zda 0 x false) [.int .i64 0, u, .bool false, .slice none 0 0, .slice none 0 0] := fun hs htv =>
  zer (htv.imp (fun h => ⟨h.1, h.2⟩) fun h => h.mono fun k hk => ⟨by have := hk.1; omega, hk.2⟩)
 have stay : ∀ {w6 w7 : World} {cs : List Value}, Mod w6 w7 zu → RepT w6 (NB w.heap.size w6.heap.size) (zda 0 x false) cs → RepT w7 (NB w.heap.size w7.heap.size) (zda 0 x false) cs := fun m hr =>
  RepT.mod m (fun k hk => ⟨hk.2, fun _ h => h, ⟨hk.1, by have := hk.2; have := m.size; omega⟩⟩) _ hr
 show anyC P _ _ _ _ (6 + 1) [12, 13, 15, 16, 17, 18, 19] _ _
 refine zez [12, 15] (by kernel_rfl) fun k hk => ?_
 simp only [List.mem_cons, List.not_mem_nil, or_false] at hk
 rcases hk with rfl | rfl
 ·show zbe P ⟨some 12, .call ⟨.builtin .append, #[.const (.slice none 0 0), T 11], #[N.zb, N.zb]⟩, N.zb, none, [11]⟩ _ _ _
  obtain ⟨u, w6, hconv, htv, m6d⟩ := zga (ty := N.zb) B (htv0 md) (by omega)
  have m6 : Mod w w6 zu := md.trans' m6d
  have hrep6 := hmk (w5 := w.drew) (Nat.le_refl _) htv
  simp +decide (disch := omega) only [zel, ev_tmp, ev_const, zae, zan, hconv, stepV_ok]
  refine ⟨.inr (nb' m6), ?_⟩
  show anyC P _ _ _ _ (5 + 1) [13, 15, 16, 17, 18, 19] _ _
  refine zez [13, 15] (by kernel_rfl) fun k hk => ?_
  simp only [List.mem_cons, List.not_mem_nil, or_false] at hk
  rcases hk with rfl | rfl
  ·show zbe P ⟨some (q + 6 + 2 + 100), .build N.zp #[(1, T 12)], 0, none, [12]⟩ _ _ _
   simp +decide only [zfb, e12, zan, zjk hI _ htv.one, stepV_ok]
   refine ⟨.inr (nb' m6), ?_⟩
   show anyC P _ _ _ _ [15, 16, 17, 18, 19].length [15, 16, 17, 18, 19] _ _
   refine zbw _ _ _ (by kernel_rfl) (by decide) (fun k hk => by simp at hk; subst hk; kernel_rfl) ?_
   show zbe P ⟨some 15, .buildSlice N.zi 1 #[(0, zTop)], 0, none, []⟩ _ _ _
   have hbs := zfn (w := w6) (v := .agg zT.toArray) (cs := zT) hI.lt hI1 rfl rfl (by decide) (by decide)
   simp +decide only [zcd, ezz, hbs, stepV_ok]
   have m7 : Mod w6 (w6.alloc (.cells zT.toArray N.zp)) zu := Mod.alloc _ _ _
   refine ⟨nb' (m6.trans' m7), fin (cs := [.int .i64 0, u, .bool false, .slice none 0 0, .slice none 0 0]) (stay m7 hrep6) (m6.trans' m7) (zz w6 zT.toArray N.zp (0, 0)) ?_ ?_ ?_ ?_ ?_ ?_⟩
   ·simp +decide (disch := omega) only [zae, zan]
   ·simp +decide (disch := omega) only [zae, zan]
   ·simp +decide (disch := omega) only [zan]
   ·simp +decide (disch := omega) only [zae, zan]
   ·simp +decide (disch := omega) only [zae, zan]
   ·intro k hk
    simp +decide (disch := omega) only [zae, envOf_var]
  ·show zbe P ⟨some 15, .buildSlice N.zi 1 #[(0, zTop)], 0, none, []⟩ _ _ _
   have hbs := zfn (w := w6) (v := .agg zT.toArray) (cs := zT) hI.lt hI1 rfl rfl (by decide) (by decide)
   simp +decide only [zcd, ezz, hbs, stepV_ok]
   have m7 : Mod w6 (w6.alloc (.cells zT.toArray N.zp)) zu := Mod.alloc _ _ _
   refine ⟨.inr (nb' (m6.trans' m7)), ?_⟩
   show anyC P _ _ _ _ [13, 16, 17, 18, 19].length [13, 16, 17, 18, 19] _ _
   refine zbw _ _ _ (by kernel_rfl) (by decide) (fun k hk => by simp at hk; subst hk; kernel_rfl) ?_
   show zbe P ⟨some (q + 6 + 2 + 100), .build N.zp #[(1, T 12)], 0, none, [12]⟩ _ _ _
   have e12' : ∀ (ρ : Env) (u' : Value), ρ 12 = u' → (#[(1, T 12)] : Array (Nat × Operand)).map (fun p => (p.1, ev ρ p.2)) = #[(1, u')] := fun ρ u' h => by simp [h]
   rw [zfb, e12' _ u (by rw [zae (by decide), zan]), zjk hI _ htv.one, stepV_ok]
   refine ⟨nb' (m6.trans' m7), fin (cs := [.int .i64 0, u, .bool false, .slice none 0 0, .slice none 0 0]) (stay m7 hrep6) (m6.trans' m7) (zz w6 zT.toArray N.zp (0, 0)) ?_ ?_ ?_ ?_ ?_ ?_⟩
   ·simp +decide (disch := omega) only [zae, zan]
   ·simp +decide (disch := omega) only [zae, zan]
   ·simp +decide (disch := omega) only [zae, zan]
   ·simp +decide (disch := omega) only [zan]
   ·simp +decide (disch := omega) only [zae, zan]
   ·intro k hk
    simp +decide (disch := omega) only [zae, envOf_var]
 ·show zbe P ⟨some 15, .buildSlice N.zi 1 #[(0, zTop)], 0, none, []⟩ _ _ _
  have hbs := zfn (w := w.drew) (v := .agg zT.toArray) (cs := zT) hI.lt hI1 rfl rfl (by decide) (by decide)
  simp +decide only [zcd, ezz, hbs, stepV_ok]
  obtain ⟨w1, hw1⟩ : ∃ w1, w1 = w.drew.alloc (.cells zT.toArray N.zp) := ⟨_, rfl⟩
  have m1 : Mod w.drew w1 zu := by rw [hw1]; exact Mod.alloc _ _ _
  have s1 : w1.heap.size = w.heap.size + 1 := by rw [hw1]; exact zal w.drew _
  have r1 : w1.rangeAt w.heap.size 0 zT := by rw [hw1]; exact zz w.drew zT.toArray N.zp (0, 0)
  rw [← hw1]
  clear hw1 hbs
  have m01 : Mod w w1 zu := md.trans' m1
  refine ⟨.inr (nb' m01), ?_⟩
  show anyC P _ _ _ _ [12, 13, 16, 17, 18, 19].length [12, 13, 16, 17, 18, 19] _ _
  refine zbw _ _ _ (by kernel_rfl) (by decide) (fun k hk => by simp at hk; subst hk; kernel_rfl) ?_
  show zbe P ⟨some 12, .call ⟨.builtin .append, #[.const (.slice none 0 0), T 11], #[N.zb, N.zb]⟩, N.zb, none, [11]⟩ _ _ _
  obtain ⟨u, w6, hconv, htv, m6d⟩ := zga (ty := N.zb) B (htv0 (md.trans' m1)) (by omega)
  have m6 : Mod w w6 zu := m01.trans' m6d
  have hrep6 := hmk (w5 := w1) (by omega) htv
  simp +decide (disch := omega) only [zel, ev_tmp, ev_const, zae, zan, hconv, stepV_ok]
  refine ⟨nb' m6, ?_⟩
  show zbe P ⟨some (q + 6 + 2 + 100), .build N.zp #[(1, T 12)], 0, none, [12]⟩ _ _ _
  simp +decide only [zfb, e12, zan, zjk hI _ htv.one, stepV_ok]
  refine ⟨nb' m6, fin (bz := w.heap.size) (cs := [.int .i64 0, u, .bool false, .slice none 0 0, .slice none 0 0]) hrep6 m6 (zaf m6d r1) ?_ ?_ ?_ ?_ ?_ ?_⟩
  ·simp +decide (disch := omega) only [zae, zan]
  ·simp +decide (disch := omega) only [zae, zan]
  ·simp +decide (disch := omega) only [zae, zan]; rfl
  ·simp +decide (disch := omega) only [zan]
  ·simp +decide (disch := omega) only [zae, zan]
  ·intro k hk
   simp +decide (disch := omega) only [zae, envOf_var]
end
section
variable (N : Nums) (tf : TypeId → FuncId × FuncId)
def El.app0 (Tt idx st i p : Nat) : El → C
 | .pr .bool => .skip
 | .pr .i64 => .skip
 | .pr .uuid => .seq (.draw (lApp0U N Tt idx st i p)) (cPut N p)
 | .pr k => .seq (.draw (lApp0N N Tt idx st (k.t N) i p)) (cPut N p)
 | .txt .str => .seq (.draw (lApp0S N Tt idx st i p)) (cPut N p)
 | .txt _ => .skip
 | .row T' pT _ _ => .seq (.draw (lApp0 N Tt idx st (tf T').1 pT i p)) (cPut N p)
def El.app (Tt idx st i p : Nat) : El → C
 | .pr .bool => .skip
 | .pr .i64 => .skip
 | .pr .uuid => .draw (lAppU N Tt idx st i p)
 | .pr k => .draw (lAppN N Tt idx st (k.t N) i p)
 | .txt .str => .draw (lAppS N Tt idx st i p)
 | .txt _ => .skip
 | .row T' pT _ _ => .draw (lApp N Tt idx st (tf T').1 pT i p)
def Ty.tgen (Tt idx i q k : Nat) : Ty → List C
 | .pr .bool _ => [cTBool N Tt idx i]
 | .pr .i64 _ => [cTNum64 N Tt idx N.zef i]
 | .pr .uuid _ => [cTUuid N Tt idx i]
 | .pr kk _ => [cTNum N Tt idx (kk.t N) i]
 | .txt .str => [cTStr N Tt idx i]
 | .txt .nstr => [cTNstr N Tt idx i]
 | .txt _ => [cTOct N Tt idx i]
 | .arr st _ e => [cTNull N Tt idx st i, cTList N Tt idx st q k (e.app0 N tf Tt idx st i (q + 6)) (e.app N tf Tt idx st i (q + 6))]
 | .row T' pT _ _ => [cTRow N Tt idx (tf T').1 pT i]
 | .tv _ => [cTNstr N Tt idx i]
def Ty.tq : Ty → Nat
 | .arr .. => 8
 | _ => 0
def Ty.tk : Ty → Nat
 | .arr .. => 2
 | _ => 0
def Fds.tgen (Tt : Nat) : Fds → (idx i q k : Nat) → List C
 | .cons _ ty r, idx, i, q, k => ty.tgen N tf Tt idx i q k ++ r.tgen Tt (idx + 1) (i + 1) (q + ty.tq) (k + ty.tk)
 | _, _, _, _, _ => []
end
def Fds.count : Fds → Nat
 | .cons _ _ r => r.count + 1
 | _ => 0
def Fds.tagIx : Fds → Nat → Option Nat
 | .cons _ _ r, idx => r.tagIx (idx + 1)
 | .tags _, idx => some idx
 | .nil, _ => none
def tellC (N : Nums) (tf : TypeId → FuncId × FuncId) (Tt idx0 f1 : Nat) (fs : Fds) : C :=
 seqs ([.ops [⟨some 101, .alloc N.zp, 0, none, []⟩],
  .ops [⟨some 0, .makeSlice N.zi (.const (.int .i64 fs.count)) (.const (.int .i64 fs.count)), 0, none, []⟩, ⟨some 1, .build N.zp #[(3, T 0)], 0, none, []⟩, ⟨some 102, .alloc N.zp, 0, none, []⟩, ⟨none, .store N.zp (V 2) (T 1), 0, none, []⟩]] ++
  fs.tgen N tf Tt idx0 0 0 0 ++
  (match fs.tagIx idx0 with
   | some ix => [.ops [⟨some 0, .move (V 0), 0, none, []⟩, ⟨some 1, .nilCheck (T 0), 0, none, []⟩, ⟨some 2, .fieldAddr Tt (T 1) ix, 0, none, []⟩, ⟨some 3, .makeFunc (.func f1) #[] #[V 2], 0, none, []⟩, ⟨some 4, .call ⟨.value (.func N.zfg), #[T 2, T 3], #[N.zcc, N.zjz]⟩, N.t_, none, []⟩],
    .ops [⟨some 0, .fieldAddr N.zp (V 2) 4, 0, none, []⟩, ⟨some 1, .load N.zdp (T 0), 0, none, []⟩, ⟨some 2, .call ⟨.value (.func N.zjx), #[T 1], #[N.zdp]⟩, N.t_, none, []⟩]]
   | none => []) ++
  [.ops [⟨some 0, .load N.zp (V 2), 0, none, []⟩, ⟨none, .store N.zp (V 1) (T 0), 0, none, []⟩], .ret])
structure TellP (P : Program) (f off : Nat) (fs : Fds) : Prop where
 has : zcr P f
 ok : ∀ (w : World) (G : Nat → Prop) (b o : Nat) (l : List Val) (css : List (List Value)), (∀ k, G k → k < w.heap.size) → b < w.heap.size → fs.okV l → RepL w G l css → w.rangeAt b (o + off) css.flatten → Call P f #[.pointer (some ⟨b, o, none⟩)] w (Told w (fs.tr l))
def PK.tok (P : Program) (N : Nums) : PK → Prop
 | .bool => N.zge ≠ 0
 | .uuid => N.zba ≠ 0
 | .en t => TI P t (.int .i8) 1 1 (.int .i8 0)
 | .i8 => N.ziq ≠ 0
 | _ => True
def Txt.tok (N : Nums) : Txt → Prop
 | .str => True
 | .nstr => N.zfe ≠ 0 ∧ N.zbj ≠ 0
 | _ => N.zem ≠ 0
def El.tok (P : Program) (N : Nums) (tf : TypeId → FuncId × FuncId) : El → Prop
 | .pr .bool => False
 | .pr .i64 => False
 | .pr .uuid => N.zba ≠ 0
 | .pr (.en _) => False
 | .pr .i8 => N.ziq ≠ 0
 | .pr _ => True
 | .txt .str => True
 | .txt _ => False
 | .row T' _ _ fs => TellP P (tf T').1 0 fs
def Ty.tok (P : Program) (N : Nums) (tf : TypeId → FuncId × FuncId) : Ty → Prop
 | .pr k _ => k.tok P N
 | .txt k => k.tok N
 | .arr st _ e => TI P st (.slice (e.ty N)) 1 24 (.slice none 0 0) ∧ (∃ d by' z, TI P (e.ty N) d e.sz by' z) ∧ e.tok P N tf
 | .row T' _ _ fs => TellP P (tf T').1 0 fs
 | .tv _ => N.zfe ≠ 0 ∧ N.zbj ≠ 0
def Fds.tok (P : Program) (N : Nums) (tf : TypeId → FuncId × FuncId) : Fds → Prop
 | .cons _ ty r => ty.tok P N tf ∧ r.tok P N tf
 | _ => True
section
variable {P : Program} {N : Nums} {tf : TypeId → FuncId × FuncId}
theorem zgn {loc : List Nat} {N' : Nat} {Q : Exit → Env → World → Prop} {σ : Env} {w : World} {x : C} {l : List C} (h : W P loc N' x (fun e σ w => match e with | .normal => WL P loc N' l Q σ w | _ => False) σ w) : WL P loc N' (x :: l) Q σ w :=
 zau fun K hK => zgm h fun e σ w hq => by
  cases e with
  | normal => exact hK _ _ hq
  | _ => exact hq.elim
theorem RepL.get {w : World} {G : Nat → Prop} : ∀ {l : List Val} {css : List (List Value)} {j : Nat} {v : Val}, RepL w G l css → l[j]? = some v → ∃ c, css[j]? = some c ∧ Rep w G v c
 | [], _, j, v, _, hj => by simp at hj
 | v' :: l, _, 0, v, ⟨c, r, h1, h2, h3⟩, hj => by subst h1; simp at hj; subst hj; exact ⟨c, rfl, h2⟩
 | v' :: l, _, j + 1, v, ⟨c, r, h1, h2, h3⟩, hj => by subst h1; simpa using RepL.get h3 (by simpa using hj)
theorem WL_ty (B : Base P N) (F : Fns P N) (hI : zdx P N) {loc : List Nat} {N' : Nat} (hlo : zec loc N') {Q : Exit → Env → World → Prop} {w0 w : World} {b oo off Tt idx bT bL bR n i q k : Nat} {trs : List Tr} {σ : Env} {G : Nat → Prop} {l : List C}
  (hG : ∀ k, G k → k < w0.heap.size) (ty : Ty) (v : Val) {cs : List Value} (hv : ty.okV v) (hrep : Rep w0 G v cs) (hb : b < w0.heap.size) (hr : w0.rangeAt b (oo + off) cs) (ht : ty.tok P N tf)
  (h : TF w0 (.pointer (some ⟨b, oo, none⟩)) bT bL bR n i trs σ w) (hi : i < n) (hT : HF P Tt idx off)
  (hQ : ∀ σ' w', TF w0 (.pointer (some ⟨b, oo, none⟩)) bT bL bR n (i + 1) (trs ++ [ty.tr v]) σ' w' → WL P loc N' l Q σ' w') : WL P loc N' (ty.tgen N tf Tt idx i q k ++ l) Q σ w := by
 cases ty with
 | pr kk d =>
  cases v with
  | num v =>
   simp only [Rep] at hrep
   subst hrep
   cases kk with
   | bool =>
    obtain ⟨x, rfl⟩ := hv
    refine zgn (W_tBool B F hI (x := x) ht h hi hT (hr 0 _ rfl) fun σ' w' h' => hQ σ' w' ?_)
    simp only [Ty.tr, PK.tr]
    cases x <;> exact h'
   | i8 =>
    obtain ⟨x, rfl, hx⟩ := hv
    exact zgn (zsa B F hI (B.int8 ht) hx h hi hT (hr 0 _ rfl) fun σ' w' h' => hQ σ' w' h')
   | i16 =>
    obtain ⟨x, rfl, hx⟩ := hv
    exact zgn (zsa B F hI B.int16 hx h hi hT (hr 0 _ rfl) fun σ' w' h' => hQ σ' w' h')
   | u16 =>
    obtain ⟨x, rfl, hx⟩ := hv
    exact zgn (zsa B F hI B.uint16 hx h hi hT (hr 0 _ rfl) fun σ' w' h' => hQ σ' w' h')
   | i32 =>
    obtain ⟨x, rfl, hx⟩ := hv
    exact zgn (zsa B F hI B.int32 hx h hi hT (hr 0 _ rfl) fun σ' w' h' => hQ σ' w' h')
   | i64 =>
    obtain ⟨x, rfl, hx⟩ := hv
    exact zgn (W_tNum64 B F hI B.int64 h hi hT (hr 0 _ rfl) fun σ' w' h' => hQ σ' w' h')
   | uuid =>
    obtain ⟨x, rfl, hx⟩ := hv
    refine zgn (W_tUuid B hI ht hx h hi hT (by simpa [Value.cells] using hr) fun σ' w' h' => hQ σ' w' ?_)
    simp only [Ty.tr, PK.tr, zkw]
    exact h'
   | en t =>
    obtain ⟨x, rfl, hx⟩ := hv
    exact zgn (zsa B F hI (show TI P t (.int .i8) 1 1 (.int .i8 0) from ht) hx h hi hT (hr 0 _ rfl) fun σ' w' h' => hQ σ' w' h')
  | _ => simp only [Ty.okV] at hv
 | txt kk =>
  cases kk with
  | str =>
   cases v with
   | num v =>
    obtain ⟨x, rfl, hx⟩ := hv
    simp only [Rep] at hrep
    subst hrep
    refine zgn (W_tStr B F hI (s := x) h hi hT (hr 0 _ rfl) fun σ' w' h' => hQ σ' w' ?_)
    simp only [Ty.tr, zjm]
    exact h'
   | _ => simp only [Ty.okV, Txt.okV] at hv
  | nstr =>
   cases v with
   | nstr o =>
    have hc : ∃ u, cs = [u] := by
     cases o with
     | none => simp only [Rep] at hrep; exact ⟨_, hrep⟩
     | some s => simp only [Rep] at hrep; obtain ⟨b', e, _⟩ := hrep; exact ⟨_, e⟩
    obtain ⟨u, rfl⟩ := hc
    exact zgn (W_tNstr B F hI (x := o) ht.1 ht.2 hG hrep h hi hT (hr 0 _ rfl) fun σ' w' h' => hQ σ' w' h')
   | _ => simp only [Ty.okV, Txt.okV] at hv
  | byt =>
   cases v with
   | oct o =>
    simp only [Rep] at hrep
    obtain ⟨u, rfl, hu⟩ := hrep
    exact zgn (W_tOct B F hI (x := o) ht hG hu hv h hi hT (hr 0 _ rfl) fun σ' w' h' => hQ σ' w' h')
   | _ => simp only [Ty.okV, Txt.okV] at hv
  | nbyt =>
   cases v with
   | oct o =>
    simp only [Rep] at hrep
    obtain ⟨u, rfl, hu⟩ := hrep
    exact zgn (W_tOct B F hI (x := o) ht hG hu hv h hi hT (hr 0 _ rfl) fun σ' w' h' => hQ σ' w' h')
   | _ => simp only [Ty.okV, Txt.okV] at hv
 | tv kk =>
  cases v with
  | nstr o =>
   have hc : ∃ u, cs = [u] := by
    cases o with
    | none => simp only [Rep] at hrep; exact ⟨_, hrep⟩
    | some s => simp only [Rep] at hrep; obtain ⟨b', e, _⟩ := hrep; exact ⟨_, e⟩
   obtain ⟨u, rfl⟩ := hc
   exact zgn (W_tNstr B F hI (x := o) ht.1 ht.2 hG hrep h hi hT (hr 0 _ rfl) fun σ' w' h' => hQ σ' w' h')
  | _ => simp only [Ty.okV, Txt.okV] at hv
 | row T' pT d fs =>
  cases v with
  | row vs =>
   simp only [Rep] at hrep
   obtain ⟨css, rfl, hrl⟩ := hrep
   refine zgn (W_tRow B hI ht.has (t := fs.tr vs) (fun w1 m => ?_) h hi hT fun σ' w' h' => hQ σ' w' h')
   have := m.size
   exact ht.ok w1 G b (oo + off) vs css (fun k hk => by have := hG k hk; omega) (by omega) hv (RepL.mod m (fun k hk => ⟨hG k hk, fun _ h => h, hk⟩) vs hrl) (by rw [Nat.add_zero]; exact zaf m hr)
  | _ => simp only [Ty.okV] at hv
 | arr st nul e =>
  obtain ⟨hst, het, hel⟩ := ht
  have go : ∀ (a : Option Addr) (c : Nat) (vs : List Val), w0.cell? ⟨b, oo + off, none⟩ = some (.slice a vs.length c) → vs.length < big → (∀ x ∈ vs, e.okV x) →
    (vs ≠ [] → ∃ be css, a = some ⟨be, 0, none⟩ ∧ (∀ x ∈ css, x.length = e.sz) ∧ RepL w0 G vs css ∧ w0.rangeAt be 0 css.flatten ∧ be < w0.heap.size) →
    (∀ σ' w', TF w0 (.pointer (some ⟨b, oo, none⟩)) bT bL bR n (i + 1) (trs ++ [.mk 0 [] a.isNone (vs.map e.tr) []]) σ' w' → WL P loc N' l Q σ' w') → WL P loc N' (Ty.tgen N tf Tt idx i q k (.arr st nul e) ++ l) Q σ w := by
   intro a c vs hcell hlen hok hmem hQ
   refine zgn (W_tNull B F hI hst h hi hT hcell fun σ1 w1 lo h1 => ?_)
   have hml : (vs.map e.tr).length = vs.length := by simp
   refine zgn (W_tList B hlo (ts := vs.map e.tr) hT (by rw [hml]; exact hcell) hst (by rw [hml]; exact hlen) (fun x j σ2 w2 v2 Q2 hj hp h2 hQ2 => ?_) h1 fun σ' w' h' => hQ σ' w' h')
   rw [hml] at hj
   have hx : vs[j]? = some vs[j] := List.getElem?_eq_getElem hj
   obtain ⟨be, css, rfl, hcs, hrl, hrg, hbe⟩ := hmem (fun e => by rw [e] at hj; simp at hj)
   have hsrc : LSrc P w0 b oo off Tt idx st be vs.length c e.sz (e.ty N) := ⟨hT, hcell, hst, het⟩
   have hlen2 : ((vs.map e.tr).take j).length + 1 < 1099511627776 := by
    rw [List.length_take, hml]
    have : vs.length < 1099511627776 := hlen
    omega
   obtain ⟨cj, hcj, hrj⟩ := hrl.get hx
   have hgj := zin hrg hcs hcj
   rw [Nat.zero_add] at hgj
   have htk : ∀ t, e.tr vs[j] = t → (vs.map e.tr).take (j + 1) = (vs.map e.tr).take j ++ [t] := fun t ht => by
    rw [List.take_add_one, List.getElem?_map, hx]
    simp [ht]
   have hokj := hok _ (List.getElem_mem hj)
   cases e with
   | pr kk =>
    cases hvj : vs[j] with
    | num v =>
     rw [hvj] at hokj hrj htk
     simp only [Rep] at hrj
     subst hrj
     have num : ∀ {ek : IntKind} {by' : Nat} {z : Value} {y : Int}, TI P (kk.t N) (.int ek) 1 by' z → v = .int ek y → IntKind.i64.wrap y = y → El.tr (.pr kk) (.num v) = zda y [] false → (El.app0 N tf Tt idx st i (q + 6) (.pr kk) = .seq (.draw (lApp0N N Tt idx st (kk.t N) i (q + 6))) (cPut N (q + 6))) → (El.app N tf Tt idx st i (q + 6) (.pr kk) = .draw (lAppN N Tt idx st (kk.t N) i (q + 6))) →
       W P loc N' (if x then El.app0 N tf Tt idx st i (q + 6) (.pr kk) else El.app N tf Tt idx st i (q + 6) (.pr kk)) Q2 σ2 w2 := by
      intro ek by' z y hk hv hy htr e1 e2
      rw [e1, e2]
      subst hv
      have hE : w0.cell? ⟨be, j * (El.pr kk).sz, none⟩ = some (.int ek y) := hgj 0 _ rfl
      cases x with
      | true => exact W_app0Num B hI h2 hsrc hlen2 hp hj hk hy hE fun σ' v' w' hag h' => hQ2 σ' v' w' hag (by rw [htk _ htr]; exact h')
      | false => exact W_appNum B hI h2 hsrc hlen2 hp hj hk hy hE fun v' w' h' => hQ2 σ2 v' w' (fun _ _ => rfl) (by rw [htk _ htr]; exact h')
     cases kk with
     | i8 => obtain ⟨y, rfl, hy⟩ := hokj; exact num (B.int8 hel) rfl hy rfl rfl rfl
     | i16 => obtain ⟨y, rfl, hy⟩ := hokj; exact num B.int16 rfl hy rfl rfl rfl
     | u16 => obtain ⟨y, rfl, hy⟩ := hokj; exact num B.uint16 rfl hy rfl rfl rfl
     | i32 => obtain ⟨y, rfl, hy⟩ := hokj; exact num B.int32 rfl hy rfl rfl rfl
     | uuid =>
      obtain ⟨y, rfl, hy⟩ := hokj
      have hE : w0.rangeAt be (j * (El.pr .uuid).sz) (y.map zbo) := by simpa [Value.cells] using hgj
      have htr : El.tr (.pr .uuid) (.num (.agg (y.map zbo).toArray)) = zda 0 y false := by simp only [El.tr, PK.tr, zkw]
      cases x with
      | true => exact W_app0Uuid B hI h2 hsrc hlen2 hp hj hel hy hE fun σ' v' w' hag h' => hQ2 σ' v' w' hag (by rw [htk _ htr]; exact h')
      | false => exact W_appUuid B hI h2 hsrc hlen2 hp hj hel hy hE fun v' w' h' => hQ2 σ2 v' w' (fun _ _ => rfl) (by rw [htk _ htr]; exact h')
     | _ => exact hel.elim
    | _ => rw [hvj] at hokj; simp only [El.okV] at hokj
   | txt kk =>
    cases kk with
    | str =>
     cases hvj : vs[j] with
     | num v =>
      rw [hvj] at hokj hrj htk
      simp only [Rep] at hrj
      subst hrj
      obtain ⟨y, rfl, _⟩ := hokj
      have hE : w0.cell? ⟨be, j * (El.txt .str).sz, none⟩ = some (strV y) := hgj 0 _ rfl
      have htr : El.tr (.txt .str) (.num (strV y)) = zda 0 y false := by simp only [El.tr, zjm]
      cases x with
      | true => exact W_app0Str B hI h2 hsrc hlen2 hp hj hE fun σ' v' w' hag h' => hQ2 σ' v' w' hag (by rw [htk _ htr]; exact h')
      | false => exact W_appStr B hI h2 hsrc hlen2 hp hj hE fun v' w' h' => hQ2 σ2 v' w' (fun _ _ => rfl) (by rw [htk _ htr]; exact h')
     | _ => rw [hvj] at hokj; simp only [El.okV, Txt.okV] at hokj
    | _ => exact hel.elim
   | row T' pT d fs =>
    cases hvj : vs[j] with
    | row us =>
     rw [hvj] at hokj hrj htk
     simp only [Rep] at hrj
     obtain ⟨css', rfl, hrl'⟩ := hrj
     have hcall : ∀ w1, Mod w0 w1 zu → Call P (tf T').1 #[.pointer (some ⟨be, j * (El.row T' pT d fs).sz, none⟩)] w1 (Told w1 (fs.tr us)) := fun w1 m => by
      have := m.size
      exact hel.ok w1 G be (j * (El.row T' pT d fs).sz) us css' (fun k hk => by have := hG k hk; omega) (by omega) hokj (RepL.mod m (fun k hk => ⟨hG k hk, fun _ h => h, hk⟩) us hrl') (by rw [Nat.add_zero]; exact zaf m hgj)
     cases x with
     | true => exact W_app0Row B hI h2 hsrc hlen2 hp hj hel.has hcall fun σ' v' w' hag h' => hQ2 σ' v' w' hag (by rw [htk _ rfl]; exact h')
     | false => exact W_appRow B hI h2 hsrc hlen2 hp hj hel.has hcall fun v' w' h' => hQ2 σ2 v' w' (fun _ _ => rfl) (by rw [htk _ rfl]; exact h')
    | _ => rw [hvj] at hokj; simp only [El.okV] at hokj
  cases v with
  | nilA =>
   simp only [Rep] at hrep
   subst hrep
   exact go none 0 [] (hr 0 _ rfl) (by decide) (fun x hx => by simp at hx) (fun h => absurd rfl h) fun σ' w' h' => hQ σ' w' h'
  | arr sz vs =>
   obtain ⟨rfl, hlen, hok⟩ := hv
   simp only [Rep] at hrep
   obtain ⟨be, c, css, rfl, _, hne, hcs, hrl, hrg⟩ := hrep
   exact go (some ⟨be, 0, none⟩) c vs (hr 0 _ rfl) hlen hok (fun hv => ⟨be, css, rfl, hcs, hrl, hrg, hG be (hne hv)⟩) fun σ' w' h' => hQ σ' w' h'
  | _ => simp only [Ty.okV] at hv
end
section
variable {P : Program} {N : Nums} {tf : TypeId → FuncId × FuncId}
mutual
theorem Ty.rep_len {w : World} {G : Nat → Prop} : ∀ (t : Ty) (v : Val) {cs : List Value}, t.okV v → Rep w G v cs → cs.length = t.sz
 | .pr k d, .num v, cs, hv, hr => by
  simp only [Rep] at hr
  subst hr
  cases k with
  | bool => obtain ⟨x, rfl⟩ := hv; rfl
  | uuid => obtain ⟨x, rfl, hx⟩ := hv; simpa [Value.cells, Ty.sz, PK.sz] using hx
  | _ => obtain ⟨x, rfl, _⟩ := hv; rfl
 | .txt k, v, cs, hv, hr => by
  cases k <;> cases v <;> simp only [Ty.okV, Txt.okV] at hv
  ·obtain ⟨x, rfl, _⟩ := hv; simp only [Rep] at hr; subst hr; rfl
  ·rename_i o
   cases o with
   | none => simp only [Rep] at hr; subst hr; rfl
   | some s => simp only [Rep] at hr; obtain ⟨b, rfl, _⟩ := hr; rfl
  ·simp only [Rep] at hr; obtain ⟨u, rfl, _⟩ := hr; rfl
  ·simp only [Rep] at hr; obtain ⟨u, rfl, _⟩ := hr; rfl
 | .arr st nul e, v, cs, hv, hr => by
  cases v <;> simp only [Ty.okV] at hv
  ·simp only [Rep] at hr; subst hr; rfl
  ·simp only [Rep] at hr; obtain ⟨b, c, css, rfl, _⟩ := hr; rfl
 | .tv k, v, cs, hv, hr => by
  cases v <;> simp only [Ty.okV, Txt.okV] at hv
  rename_i o
  cases o with
  | none => simp only [Rep] at hr; subst hr; rfl
  | some s => simp only [Rep] at hr; obtain ⟨b, rfl, _⟩ := hr; rfl
 | .row T pT d fs, v, cs, hv, hr => by
  cases v <;> simp only [Ty.okV] at hv
  simp only [Rep] at hr
  obtain ⟨css, rfl, hrl⟩ := hr
  simp only [Ty.sz]
  exact Fds.rep_len fs _ hv hrl
 | .pr _ _, .nstr _, _, hv, _ => by simp only [Ty.okV] at hv
 | .pr _ _, .oct _, _, hv, _ => by simp only [Ty.okV] at hv
 | .pr _ _, .nilA, _, hv, _ => by simp only [Ty.okV] at hv
 | .pr _ _, .arr _ _, _, hv, _ => by simp only [Ty.okV] at hv
 | .pr _ _, .row _, _, hv, _ => by simp only [Ty.okV] at hv
 | .pr _ _, .nilP, _, hv, _ => by simp only [Ty.okV] at hv
 | .pr _ _, .ptr _, _, hv, _ => by simp only [Ty.okV] at hv
 | .pr _ _, .tags _, _, hv, _ => by simp only [Ty.okV] at hv
theorem Fds.rep_len {w : World} {G : Nat → Prop} : ∀ (fs : Fds) (l : List Val) {css : List (List Value)}, fs.okV l → RepL w G l css → css.flatten.length = fs.sz
 | .nil, l, css, hv, hr => by
  simp only [Fds.okV] at hv
  subst hv
  simp only [RepL] at hr
  subst hr; rfl
 | .tags _, l, css, hv, hr => by
  match l, hv with
  | [.tags u], _ =>
   obtain ⟨c, r, rfl, h1, h2⟩ := hr
   simp only [RepL] at h2
   subst h2
   simp only [Rep] at h1
   obtain ⟨v, rfl, _⟩ := h1
   rfl
 | .cons g t r, [], css, hv, hr => by simp only [Fds.okV] at hv
 | .cons g t r, v :: l, css, hv, hr => by
  obtain ⟨c, rest, rfl, h1, h2⟩ := hr
  rw [List.flatten_cons, List.length_append, Ty.rep_len t v hv.1 h1, Fds.rep_len r l hv.2 h2]
  rfl
end
theorem WL_fds (B : Base P N) (F : Fns P N) (hI : zdx P N) {loc : List Nat} {N' : Nat} (hlo : zec loc N') {Q : Exit → Env → World → Prop} {w0 : World} {b oo Tt bT bL bR n : Nat} {G : Nat → Prop} {tl : List C}
  (hG : ∀ k, G k → k < w0.heap.size) (hb : b < w0.heap.size) : ∀ (fs : Fds) (l : List Val) (css : List (List Value)) (idx off i q k : Nat) (trs : List Tr) (σ : Env) (w : World), fs.okV l → RepL w0 G l css → w0.rangeAt b (oo + off) css.flatten → fs.tok P N tf → fs.hf P Tt idx off →
   TF w0 (.pointer (some ⟨b, oo, none⟩)) bT bL bR n i trs σ w → i + fs.count = n →
   (∀ σ' w', TF w0 (.pointer (some ⟨b, oo, none⟩)) bT bL bR n n (trs ++ fs.trs l) σ' w' → WL P loc N' tl Q σ' w') → WL P loc N' (fs.tgen N tf Tt idx i q k ++ tl) Q σ w
 | .nil, l, css, idx, off, i, q, k, trs, σ, w, hv, hr, hrg, ht, hh, h, hn, hQ => by
  simp only [Fds.count, Nat.add_zero] at hn
  subst hn
  exact hQ σ w (by simpa [Fds.trs] using h)
 | .tags _, l, css, idx, off, i, q, k, trs, σ, w, hv, hr, hrg, ht, hh, h, hn, hQ => by
  simp only [Fds.count, Nat.add_zero] at hn
  subst hn
  exact hQ σ w (by simpa [Fds.trs] using h)
 | .cons g t r, [], css, idx, off, i, q, k, trs, σ, w, hv, hr, hrg, ht, hh, h, hn, hQ => by simp only [Fds.okV] at hv
 | .cons g t r, v :: l, css, idx, off, i, q, k, trs, σ, w, hv, hr, hrg, ht, hh, h, hn, hQ => by
  obtain ⟨c, rest, rfl, h1, h2⟩ := hr
  have hcl := Ty.rep_len t v hv.1 h1
  rw [List.flatten_cons, zj, hcl, Nat.add_assoc] at hrg
  simp only [Fds.count] at hn
  simp only [Fds.tgen, List.append_assoc]
  refine WL_ty B F hI hlo hG t v hv.1 h1 hb hrg.1 ht.1 h (by omega) hh.1 fun σ' w' h' => ?_
  refine WL_fds B F hI hlo hG hb r l rest (idx + 1) (off + t.sz) (i + 1) (q + t.tq) (k + t.tk) _ σ' w' hv.2 h2 hrg.2 ht.2 hh.2 h' (by omega) fun σ6 w6 h6 => hQ σ6 w6 ?_
  simpa [Fds.trs] using h6
theorem made_zs (n : Nat) : (madeCells (Value.cells (.agg zT.toArray)) (n * 5)).toList = zs zT n := by
 have := zej (Value.cells (.agg zT.toArray)) n
 exact this
theorem tags_at : ∀ (fs : Fds) (l : List Val) (css : List (List Value)) {w : World} {G : Nat → Prop} {b o idx off ix : Nat} {Tt : TypeId}, fs.okV l → RepL w G l css → w.rangeAt b (o + off) css.flatten → fs.hf P Tt idx off → fs.tagIx idx = some ix →
  ∃ off' v u, HF P Tt ix off' ∧ w.cell? ⟨b, o + off', none⟩ = some v ∧ zmr w G v u ∧ fs.tgs l = zdk u ∧ u.length < big ∧ ∀ x ∈ u, x.2.length < big
 | .nil, l, css, w, G, b, o, idx, off, ix, Tt, hv, hr, hrg, hh, hx => by simp [Fds.tagIx] at hx
 | .tags _, l, css, w, G, b, o, idx, off, ix, Tt, hv, hr, hrg, hh, hx => by
  match l, hv with
  | [.tags u], hv =>
   simp only [Fds.tagIx, Option.some.injEq] at hx
   subst hx
   obtain ⟨c, r, rfl, h1, h2⟩ := hr
   simp only [Rep] at h1
   obtain ⟨v, rfl, ht⟩ := h1
   exact ⟨off, v, u, hh, hrg 0 v rfl, ht, rfl, hv.1, hv.2⟩
 | .cons g t r, [], css, w, G, b, o, idx, off, ix, Tt, hv, hr, hrg, hh, hx => by simp only [Fds.okV] at hv
 | .cons g t r, v :: l, css, w, G, b, o, idx, off, ix, Tt, hv, hr, hrg, hh, hx => by
  obtain ⟨c, rest, rfl, h1, h2⟩ := hr
  rw [List.flatten_cons, zj, Ty.rep_len t v hv.1 h1, Nat.add_assoc] at hrg
  exact tags_at r l rest hv.2 h2 hrg.2 hh.2 hx
theorem no_tags : ∀ (fs : Fds) (l : List Val) {idx : Nat}, fs.okV l → fs.tagIx idx = none → fs.tgs l = []
 | .nil, l, idx, hv, _ => by simp only [Fds.okV] at hv; subst hv; rfl
 | .tags _, l, idx, hv, h => by simp [Fds.tagIx] at h
 | .cons g t r, [], idx, hv, h => by simp only [Fds.okV] at hv
 | .cons g t r, v :: l, idx, hv, h => by simp only [Fds.tgs]; exact no_tags r l hv.2 h
structure TellN (P : Program) (N : Nums) : Prop where
 each : N.zfg ≠ 0
 tags : N.zcc ≠ 0
 sorted : N.zjx ≠ 0
 lu : LU P N
 so : SortOk P N
theorem RepU.of_own {w : World} {lo : Nat} {G : Nat → Prop} {v : Value} {u : List (Nat × List UInt8)} {cs : List Value} (ho : Own w lo 2 v u.length cs) (hu : UsG w (GX (fun _ => False) lo w v) u cs) (hG : ∀ k, lo ≤ k → k < w.heap.size → G k) : RepU w G v u := by
 rcases ho with ⟨e1, e2, _⟩ | ⟨b, c, e1, h1, h2, h3, _, h5, _⟩
 ·exact .inl ⟨e1, List.length_eq_zero_iff.1 e2⟩
 ·exact .inr ⟨b, c, cs, e1, h3, fun _ => hG b h1 h2, hu.mono fun k hk => hk.elim False.elim fun hk => hG k hk.1 hk.2.1, h5⟩
theorem tellP (B : Base P N) (F : Fns P N) (hI : zdx P N) (hN : TellN P N) {f f1 Tt idx0 off0 : Nat} {fs : Fds} (hF : FOk P f 1 (tellC N tf Tt idx0 f1 fs) [.cell 1 N.zp]) (hF1 : fs.tagIx idx0 ≠ none → FOk P f1 3 (cTagFn N) []) (ht : fs.tok P N tf) (hh : fs.hf P Tt idx0 off0) (hc : fs.count < 1048576) : TellP P f off0 fs := by
 refine ⟨hF.has, fun w0 G b o l css hG hb hv hrep hrg => ?_⟩
 obtain ⟨fsT, hI1⟩ := hI.ti
 refine hF.call rfl fun loc N' hlo => ?_
 unfold tellC
 rw [List.append_assoc, List.append_assoc]
 refine zho (by simp) ?_
 simp only [List.cons_append, List.nil_append]
 obtain ⟨σ, hσ⟩ : ∃ σ, σ = zcv #[.pointer (some ⟨b, o, none⟩)] := ⟨_, rfl⟩
 have f0 : σ 0 = .pointer (some ⟨b, o, none⟩) := by rw [hσ]; rfl
 rw [← hσ]
 clear hσ
 obtain ⟨w1, hal, m1, s1, hres⟩ := zgs hI w0
 refine zau fun K hK => zad fun τ => ?_
 simp +decide only [bK, hal]
 refine hK _ _ (zg fun σ1 hσ => ?_)
 have g0 := hσ 0
 have g1 := hσ 1
 simp +decide only [bE, Nat.reduceBeqDiff, BEq.rfl, Nat.reduceAdd, Nat.zero_add, f0] at g0 g1
 clear hσ hK K hal
 obtain ⟨iT, hi, hsz, hby, hz⟩ := hI1.info
 have hmk : (Instr.makeSlice N.zi (.int .i64 fs.count) (.int .i64 fs.count)).run P w1 = .ok (.slice (some ⟨w1.heap.size, 0, none⟩) fs.count fs.count) (w1.alloc (.cells (madeCells (Value.cells (.agg zT.toArray)) (fs.count * 5)) N.zp)) := by
  have hr := run_make (P := P) w1 N.zi N.zp iT _ hI.lt.und hi hz .i64 .i64 (fs.count : Int) (fs.count : Int) (by omega) (Int.le_refl _) (by rw [hby]; omega) (by omega)
  rw [hsz] at hr
  simpa using hr
 obtain ⟨w2, hw2⟩ : ∃ w2, w2 = w1.alloc (.cells (madeCells (Value.cells (.agg zT.toArray)) (fs.count * 5)) N.zp) := ⟨_, rfl⟩
 have m2 : Mod w1 w2 zu := by rw [hw2]; exact Mod.alloc _ _ _
 have s2 : w2.heap.size = w1.heap.size + 1 := by rw [hw2]; exact zal _ _
 have r2 : w2.rangeAt w1.heap.size 0 (zs zT fs.count) := by
  have := zz w1 (madeCells (Value.cells (.agg zT.toArray)) (fs.count * 5)) N.zp (0, 0)
  rw [made_zs] at this
  rw [hw2]; exact this
 have t2 : w2.there w1.heap.size 0 (fs.count * 5) := by
  have := zbq w1 (madeCells (Value.cells (.agg zT.toArray)) (fs.count * 5)) N.zp
  rw [size_madeCells] at this
  rw [hw2]; exact this
 obtain ⟨w3, hst, m3, s3, r3, t3⟩ := zjr (z := zT) hI1 w2 [.int .i64 0, .slice none 0 0, .bool false, .slice (some ⟨w1.heap.size, 0, none⟩) fs.count fs.count, .slice none 0 0] rfl (fun c hc => by
  simp at hc; rcases hc with rfl | rfl | rfl | rfl | rfl <;> rfl)
 have e3 : ∀ ρ : Env, (#[(3, T 0)] : Array (Nat × Operand)).map (fun p => (p.1, ev ρ p.2)) = #[(3, ρ 0)] := fun ρ => by simp
 have hbl := buildL hI w2 (v := .slice (some ⟨w1.heap.size, 0, none⟩) fs.count fs.count) rfl
 refine zau fun K hK => zad fun τ => ?_
 simp +decide only [bK, bE, Nat.reduceBeqDiff, BEq.rfl, Nat.reduceAdd, zkb, hmk, ← hw2, e3, hbl, hI1.run_alloc, hst]
 refine hK _ _ (zg fun σ3 hσ => ?_)
 have p0 := hσ 0
 have p1 := hσ 1
 have p2 := hσ 2
 simp +decide only [bE, Nat.reduceBeqDiff, BEq.rfl, Nat.reduceAdd, Nat.zero_add, g0, g1] at p0 p1 p2
 clear hσ hK K hmk hst hbl hw2
 have m13 : Mod w1 w3 zu := m2.trans' m3
 have hTF : TF w0 (.pointer (some ⟨b, o, none⟩)) w2.heap.size w1.heap.size w0.heap.size fs.count 0 [] σ3 w3 :=
  ⟨p0, p1, p2, m1.trans' m13, r3, t3, m3.there (by omega) t2, ⟨zaf m13 hres.r, m13.there (by omega) hres.t⟩, rfl, Nat.zero_le _, ⟨[], by simpa using zaf m3 r2, by simp only [zcb]⟩, ⟨by omega, by omega⟩, ⟨by omega, by omega⟩, ⟨by omega, by omega⟩, by omega, by omega, by omega⟩
 clear p0 p1 p2 r3 t3 r2 t2 hres
 refine WL_fds B F hI hlo hG hb fs l css idx0 off0 0 0 0 [] σ3 w3 hv hrep hrg ht hh hTF (by omega) fun σ4 w4 h4 => ?_
 rw [List.nil_append] at h4
 obtain ⟨bT, hbT⟩ : ∃ x, x = w2.heap.size := ⟨_, rfl⟩
 obtain ⟨bL, hbL⟩ : ∃ x, x = w1.heap.size := ⟨_, rfl⟩
 obtain ⟨bR, hbR⟩ : ∃ x, x = w0.heap.size := ⟨_, rfl⟩
 rw [← hbT, ← hbL, ← hbR] at h4
 have fin : ∀ {σ5 : Env} {w5 : World} {vu : Value}, σ5 1 = .pointer (some ⟨bR, 0, none⟩) → σ5 2 = .pointer (some ⟨bT, 0, none⟩) → Mod w4 w5 (fun k o => k = bT ∧ o = 4) → w5.cell? ⟨bT, 4, none⟩ = some vu → vu.oneCell' = true →
   RepU w5 (fun k => NB w0.heap.size w5.heap.size k ∧ k ≠ bR) vu (fs.tgs l) → WL P loc N' [.ops [⟨some 0, .load N.zp (V 2), 0, none, []⟩, ⟨none, .store N.zp (V 1) (T 0), 0, none, []⟩], .ret] (retQ P [.cell 1 N.zp] (Told w0 (fs.tr l))) σ5 w5 := by
  intro σ5 w5 vu k1 k2 m5 c5 ho5 hu5
  obtain ⟨_, _, _, mod, tc, tt, tl, res, len, le, ⟨cs4, hr4, hrep4⟩, l1, l2, l3, l4, l5, l6⟩ := h4
  have s5 := m5.size
  have m05 : Mod w0 w5 zu := mod.fresh m5 fun k o e => by omega
  have q := (zj (cs := [.int .i64 0, .slice none 0 0, .bool false, .slice (some ⟨bL, 0, none⟩) fs.count fs.count]) (ds := [.slice none 0 0])).1 tc
  have r5 : w5.rangeAt bT 0 [.int .i64 0, .slice none 0 0, .bool false, .slice (some ⟨bL, 0, none⟩) fs.count fs.count, vu] :=
   (zj (cs := [.int .i64 0, .slice none 0 0, .bool false, .slice (some ⟨bL, 0, none⟩) fs.count fs.count]) (ds := [vu])).2 ⟨m5.rangeAt (by omega) (fun j h1 h2 e => by simp at h2; omega) q.1, zdn.2 c5⟩
  have hld := hI1.run_load (w := w5) (b := bT) (o := 0) r5 rfl (fun h => by cases h)
  have hlv : ∀ (f : Array Field) (x : List Value), ldv (.struct f) x = .agg x.toArray := fun _ _ => rfl
  have rR : w5.rangeAt bR 0 zT := m5.rangeAt (by omega) (fun _ _ _ e => by omega) res.r
  have tR : w5.there bR 0 5 := m5.there (by omega) res.t
  obtain ⟨w6, hst6, m6, s6, r6, t6⟩ := zjo hI (cs := [.int .i64 0, .slice none 0 0, .bool false, .slice (some ⟨bL, 0, none⟩) fs.count fs.count, vu]) rR rfl tR rfl (fun c hc => by
   simp at hc; rcases hc with rfl | rfl | rfl | rfl | rfl
   ·rfl
   ·rfl
   ·rfl
   ·rfl
   ·exact ho5)
  refine zau fun K hK => zad fun τ => ?_
  simp +decide only [bK, bE, Nat.reduceBeqDiff, BEq.rfl, Nat.reduceAdd, k1, k2, hld, hlv, hst6]
  refine hK _ _ (zg fun σ6 hσ => zau fun K2 hK2 => zcf ?_)
  have u1 := hσ 1
  simp +decide only [bE, Nat.reduceBeqDiff, Nat.reduceAdd, k1] at u1
  refine W_hand hI (loc := loc) (N' := N') (by omega) m05 (t := fs.tr l) ?_ m6 s6 r6 u1 (by omega)
  simp only [Fds.tr, RepT]
  refine ⟨_, _, _, rfl, zgp, .inr ⟨bL, fs.count, cs4, by rw [len], by rw [len]; exact Nat.le_refl _, fun _ => ⟨⟨by omega, by omega⟩, by omega⟩, ?_, ?_⟩, hu5⟩
  ·exact zcb.mod m5 (fun k hk => ⟨hk.1.2, fun o e => hk.2.1 e.1, ⟨hk.1.1, by have := hk.1.2; omega⟩, hk.2.2.2⟩) _ hrep4
  ·have := (zj.1 hr4).1
   exact m5.rangeAt (by omega) (fun _ _ _ e => by omega) this
 have l1 := h4.lt
 have c4 : w4.cell? ⟨bT, 4, none⟩ = some (.slice none 0 0) := h4.tc 4 _ rfl
 cases hix : fs.tagIx idx0 with
 | none =>
  exact fin h4.f1 h4.f2 (.refl _ _) c4 rfl (by rw [no_tags fs l hv hix]; exact .inl ⟨rfl, rfl⟩)
 | some ix =>
  obtain ⟨off', v, u, hTix, hcv, htg, hgs, hul, hux⟩ := tags_at fs l css hv hrep hrg hh hix
  rw [hgs] at fin
  simp only [List.cons_append, List.nil_append]
  have hFt := hF1 (by rw [hix]; simp)
  have m04 := h4.mod
  have s04 := m04.size
  have hc4 : w4.cell? ⟨b, o + off', none⟩ = some v := by rw [m04.cell _ _ hb (fun h => h)]; exact hcv
  have htg4 : zmr w4 G v u := htg.mod m04 fun k hk => ⟨hG k hk, fun _ h => h, hk⟩
  have hSl : (zdk u).length = u.length := (zdj u).length_eq
  have hEach := call_Each B F hN.each hN.tags hN.lu hN.so (f := f1) (cap := .pointer (some ⟨bT, 0, none⟩)) hc4 (fun k hk => by have := hG k hk; omega) htg4 hFt.has hul (UI bT) (fun k o => k = bT ∧ o = 4) (fun k o h => by omega) (fun h => by omega) (fun k hk o h => by have := hG k hk; omega)
   (fun w' m => ⟨.slice none 0 0, [], by rw [m.cell _ _ (by omega) (fun h => h)]; exact c4, fun j hj => by
    have := (m.there (by omega) h4.tt : w'.there bT 0 5) (4 + j) (by omega)
    rwa [show 0 + (4 + j) = 4 + j by omega] at this, .inl ⟨rfl, rfl, rfl⟩, by simp only [UsG]⟩)
   (fun lo hlo2 => tag_cb B hI hFt (by omega) (by rw [hSl]; exact hul) fun x hx => hux x ((zdj u).mem_iff.1 hx))
  have k0 := h4.f0
  have k1 := h4.f1
  have k2 := h4.f2
  refine zau fun K hK => zad fun τ => ?_
  have e5 : ∀ ρ : Env, ρ 102 = .pointer (some ⟨bT, 0, none⟩) → (#[V 2] : Array Operand).map (ev ρ) = #[.pointer (some ⟨bT, 0, none⟩)] := fun ρ h => by simp [h]
  have e4 : ∀ ρ : Env, (#[] : Array Operand).map (ev ρ) = #[] := fun ρ => by simp
  simp +decide only [bK, bE, Nat.zero_add, k0]
  rw [zaa rfl]
  simp +decide only [bK, bE, BEq.rfl, hTix.run, zlb, zom]
  rw [zcn (F.PTags_Each hN.each).1.has]
  simp +decide only [bK, bE, Nat.reduceBeqDiff, BEq.rfl, e4]
  rw [e5 _ (by simp +decide only [bE, Nat.reduceBeqDiff, k2])]
  refine Call.mono (Rt' := _) hEach ?_
  rintro _ w5 ⟨lo, hlo1, hlo2, ⟨vu, cs5, c5, t5, ho5, hus5⟩, m5⟩
  refine zg (K := fun σ' w' => zee K _ .normal σ' w') fun σ5 hσ => hK _ _ ?_
  have u0 := hσ 0
  have u1 := hσ 1
  have u2 := hσ 2
  simp +decide only [bE, Nat.reduceBeqDiff, Nat.reduceAdd, Nat.zero_add, k0, k1, k2] at u0 u1 u2
  clear hσ hK K hEach
  have hru : RepU w5 (fun k => NB w0.heap.size w5.heap.size k ∧ k ≠ bR) vu (zdk u) := RepU.of_own ho5 hus5 fun k h1 h2 => ⟨⟨by omega, h2⟩, by omega⟩
  have hknd : (u.map Prod.fst).Nodup := by
   rcases htg with ⟨_, h⟩ | ⟨_, _, _, _, _, _, _, _, _, h, _⟩
   ·rw [h]; simp
   ·exact h
  have hso := zsz B F hI hN.sorted hru (by rw [hSl]; have : u.length < 1099511627776 := hul; omega) (zsk hknd)
  refine zau fun K hK => zad fun τ => ?_
  simp +decide only [bK, bE, BEq.rfl, Nat.reduceAdd, Nat.zero_add, u2, hI.h4.run, hI.lg.run_load1 rfl, c5]
  rw [zak (F.sorted hN.sorted).has]
  simp +decide only [bK, bE, BEq.rfl]
  refine Call.mono (Rt' := _) hso ?_
  rintro _ w6 m6
  refine zg (K := fun σ' w' => zee K _ .normal σ' w') fun σ6 hσ => hK _ _ ?_
  have y1 := hσ 1
  have y2 := hσ 2
  simp +decide only [bE, Nat.reduceBeqDiff, Nat.reduceAdd, u1, u2] at y1 y2
  have s6 := m6.size
  have s5 := m5.size
  exact fin y1 y2 (m5.trans' (m6.mono fun _ _ _ h => h.elim)) (by rw [m6.cell _ _ (by omega) (fun h => h)]; exact c5) ho5.one (hru.mod m6 fun k hk => ⟨hk.1.2, fun _ h => h, ⟨hk.1.1, by have := hk.1.2; omega⟩, hk.2⟩)
end
theorem wrap_again {k : IntKind} (hk : k = .i8 ∨ k = .i16 ∨ k = .i32 ∨ k = .i64) (x : Int) : IntKind.i64.wrap (k.wrap x) = k.wrap x := by
 refine zcw ?_ ?_ <;> rcases hk with rfl | rfl | rfl | rfl <;> simp [IntKind.wrap, IntKind.bits, IntKind.signed] <;> split <;> omega
mutual
def El.dOk' : El → Prop
 | .row _ _ _ fs => fs.dOk
 | _ => True
def Fds.dOk : Fds → Prop
 | .cons _ (.pr k d) r => k.okV (d.getD k.zero) ∧ r.dOk
 | .cons _ (.arr _ _ e) r => e.dOk' ∧ r.dOk
 | .cons _ (.row _ _ _ fs) r => (fs.kt = none ∧ fs.dOk) ∧ r.dOk
 | .cons _ (.txt _) r => r.dOk
 | .cons _ (.tv _) r => r.dOk
 | _ => True
end
theorem zjb (n : Int) (s : RS) : (zdq n s).length ≤ n.toNat := by
 unfold zdq
 split
 ·simp
 ·rw [List.length_take]; omega
theorem be2_lt : ∀ {l : List UInt8}, l.length ≤ 2 → be l < 65536
 | [], _ => by decide
 | [x], _ => by have := x.toNat_lt; simp [be]; omega
 | [x, y], _ => by have := x.toNat_lt; have := y.toNat_lt; simp [be]; omega
 | _ :: _ :: _ :: _, h => by simp at h
theorem pk_rdV (k : PK) (s : RS) : k.okV (k.rd s).1 := by
 have num : ∀ (ik : IntKind) (n : Nat), (ik = .i8 ∨ ik = .i16 ∨ ik = .i32 ∨ ik = .i64) → ∃ x, (zeh n (fun l => .int ik (ik.wrap (be l))) (.int ik 0) s).1 = .int ik x ∧ IntKind.i64.wrap x = x := by
  intro ik n h
  unfold zeh
  split
  ·exact ⟨0, rfl, by decide⟩
  ·exact ⟨_, rfl, wrap_again h _⟩
 cases k with
 | bool =>
  simp only [PK.rd, PK.okV, zeh]
  split
  ·exact ⟨_, rfl⟩
  ·exact ⟨_, rfl⟩
 | i8 => exact num .i8 1 (.inl rfl)
 | en t => exact num .i8 1 (.inl rfl)
 | i16 => exact num .i16 2 (.inr (.inl rfl))
 | u16 =>
  show ∃ n, (zeh 2 (fun l => Value.int .u16 (be l)) (.int .u16 0) s).1 = .int .u16 n ∧ IntKind.i64.wrap n = n
  unfold zeh
  split
  ·exact ⟨0, rfl, by decide⟩
  ·refine ⟨_, rfl, ?_⟩
   have := be2_lt (l := s.l.take 2) (by rw [List.length_take]; omega)
   exact zcw (by omega) (by omega)
 | i32 => exact num .i32 4 (.inr (.inr (.inl rfl)))
 | i64 => exact num .i64 8 (.inr (.inr (.inr rfl)))
 | uuid =>
  simp only [PK.rd, PK.okV, uuidV]
  refine ⟨_, rfl, ?_⟩
  rw [List.length_take, List.length_append, List.length_replicate]
  omega
theorem u_span (s : RS) (t : RS) : (zdq ((uvN s).1 - 1 : Int) t).length < big := by
 have := zjb ((uvN s).1 - 1 : Int) t
 have := zhs s
 unfold big; omega
theorem i16_span (s : RS) (t : RS) : (zdq (i16N s).1 t).length < big := by
 have := zjb (i16N s).1 t
 have := zfq s
 unfold big; omega
theorem i32_span (s : RS) (t : RS) : (zdq (i32N s).1 t).length < big := by
 have := zjb (i32N s).1 t
 have := zgw s
 unfold big; omega
theorem zlc {n : Int} {t : RS} (h : (zdq n t).length < big) : ((zmm n t).getD []).length < big := by
 unfold zmm
 split
 ·exact (by decide : ([] : List UInt8).length < big)
 ·exact h
theorem zqh (fl : Bool) (k : Txt) (s : RS) : k.okV (k.rd fl s).1 := by
 have hb : ([] : List UInt8).length < big := by decide
 cases k <;> cases fl <;> simp only [Txt.rd, Txt.okV, Bool.false_eq_true, if_false, if_true]
 ·exact ⟨_, rfl, i16_span s _⟩
 ·exact ⟨_, rfl, u_span s _⟩
 ·unfold zmn strR; split
  ·exact hb
  ·exact i16_span s _
 ·unfold zit zic; split
  ·exact hb
  ·exact u_span s _
 ·unfold bytR; split
  ·exact hb
  ·exact zlc (i32_span s _)
 ·unfold zsy; split
  ·exact hb
  ·exact zlc (u_span s _)
 ·unfold zss; split
  ·exact hb
  ·exact zlc (i32_span s _)
 ·unfold znn; split
  ·exact hb
  ·exact zlc (u_span s _)
theorem txt_ini (k : Txt) : k.okV k.iniV := by
 cases k
 ·exact ⟨[], rfl, by decide⟩
 ·show ([] : List UInt8).length < big; decide
 ·show ([] : List UInt8).length < big; decide
 ·show ([] : List UInt8).length < big; decide
theorem rdN_ok {f : RS → Option (Val × RS)} {p : Val → Prop} (hf : ∀ s v s', f s = some (v, s') → p v) : ∀ (n : Nat) (s : RS) (l : List Val) (s' : RS), rdN f n s = some (l, s') → l.length = n ∧ ∀ v ∈ l, p v
 | 0, s, l, s', h => by simp [rdN] at h; obtain ⟨rfl, rfl⟩ := h; simp
 | n + 1, s, l, s', h => by
  simp only [rdN] at h
  split at h
  ·cases h
  ·rename_i v s1 h1
   split at h
   ·cases h
   ·rename_i l1 s2 h2
    simp only [Option.some.injEq, Prod.mk.injEq] at h
    obtain ⟨rfl, rfl⟩ := h
    obtain ⟨a, b⟩ := rdN_ok hf n s1 l1 s2 h2
    refine ⟨by simp [a], fun x hx => ?_⟩
    rcases List.mem_cons.1 hx with rfl | hx
    ·exact hf _ _ _ h1
    ·exact b x hx
theorem tput_len (l : List (Nat × List UInt8)) (k : Nat) (v : List UInt8) : (tput l k v).length ≤ l.length + 1 := by
 unfold tput
 split <;> simp
theorem tput_big {l : List (Nat × List UInt8)} {k : Nat} {v : List UInt8} (hl : ∀ x ∈ l, x.2.length < big) (hv : v.length < big) : ∀ x ∈ tput l k v, x.2.length < big := by
 intro x hx
 unfold tput at hx
 split at hx
 ·obtain ⟨y, hy, rfl⟩ := List.mem_map.1 hx
  split
  ·exact hv
  ·exact hl y hy
 ·rcases List.mem_append.1 hx with h | h
  ·exact hl x h
  ·simp at h; subst h; exact hv
theorem tagsN_ok : ∀ (n : Nat) (l : List (Nat × List UInt8)) (s : RS), (∀ x ∈ l, x.2.length < big) → (zsd n l s).1.length ≤ l.length + n ∧ ∀ x ∈ (zsd n l s).1, x.2.length < big
 | 0, l, s, h => ⟨Nat.le_refl _, h⟩
 | n + 1, l, s, h => by
  simp only [zsd]
  have hv : (zdq ((uvN (uvN s).2).1 : Int) (uvN (uvN s).2).2).length < big := by
   have := zjb ((uvN (uvN s).2).1 : Int) (uvN (uvN s).2).2
   have := zhs (uvN s).2
   unfold big; omega
  obtain ⟨a, b⟩ := tagsN_ok n (tput l (uvN s).1 (zdq ((uvN (uvN s).2).1 : Int) (uvN (uvN s).2).2)) (zht ((uvN (uvN s).2).1 : Int) (uvN (uvN s).2).2) (tput_big h hv)
  have := tput_len l (uvN s).1 (zdq ((uvN (uvN s).2).1 : Int) (uvN (uvN s).2).2)
  exact ⟨by omega, b⟩
theorem tagsR_ok (s : RS) : (zqj s).1.length < big ∧ ∀ x ∈ (zqj s).1, x.2.length < big := by
 obtain ⟨a, b⟩ := tagsN_ok (uvN s).1 [] (uvN s).2 (fun x hx => by simp at hx)
 have := zhs s
 simp only [List.length_nil, Nat.zero_add] at a
 exact ⟨by unfold zqj big; omega, b⟩
def Fds.okW : Fds → List Val → Prop
 | .nil, l => l = []
 | .tags none, [.tags l] => l.length < big ∧ ∀ x ∈ l, x.2.length < big
 | .tags (some _), [.num v] => v = .map none
 | .cons _ ty r, v :: l => ty.okV v ∧ r.okW l
 | _, _ => False
def Fds.okF : Fds → List Val → Prop
 | .cons _ ty r, v :: l => ty.okV v ∧ r.okF l
 | .cons .., [] => False
 | _, l => l = []
theorem Fds.okW_none : ∀ (fs : Fds) {l : List Val}, fs.kt = none → fs.okW l → fs.okV l
 | .nil, _, _, h => h
 | .tags (some _), _, hk, _ => by cases hk
 | .tags none, l, _, h => by
  match l, h with
  | [.tags u], h => exact h
 | .cons g t r, [], _, h => by simp only [Fds.okW] at h
 | .cons g t r, v :: l, hk, h => ⟨h.1, Fds.okW_none r hk h.2⟩
theorem Fds.okW_F : ∀ (fs : Fds) {j : Nat} {l : List Val}, fs.kt = some j → fs.okW l → fs.okF l.dropLast
 | .nil, _, _, hk, _ => by cases hk
 | .tags none, _, _, hk, _ => by cases hk
 | .tags (some _), _, l, _, h => by
  match l, h with
  | [.num v], h => rfl
 | .cons g t r, _, [], _, h => by simp only [Fds.okW] at h
 | .cons g t r, j, v :: l, hk, h => by
  have hk : r.kt = some j := hk
  have := Fds.okW_F r hk h.2
  cases l with
  | nil =>
   exfalso
   have h2 := h.2
   cases r with
   | nil => cases hk
   | tags k => cases k <;> simp only [Fds.okW] at h2
   | cons g t r => simp only [Fds.okW] at h2
  | cons x l => rw [List.dropLast_cons_cons]; exact ⟨h.1, this⟩
theorem Fds.okF_V : ∀ (fs : Fds) {j : Nat} {l : List Val} {u : List (Nat × List UInt8)}, fs.kt = some j → fs.okF l → (u.length < big ∧ ∀ x ∈ u, x.2.length < big) → fs.okV (l ++ [.tags u])
 | .nil, _, _, _, hk, _, _ => by cases hk
 | .tags _, _, l, u, _, h, hu => by
  have h : l = [] := h
  subst h
  exact hu
 | .cons g t r, _, [], _, _, h, _ => by simp only [Fds.okF] at h
 | .cons g t r, _, v :: l, u, hk, h, hu => ⟨h.1, Fds.okF_V r hk h.2 hu⟩
theorem kN_inv {X : Type} {keyR : X → RS → Option (X × RS)} {dfl : Nat → X → RS → X × RS} (I : Nat → X → Prop) (hk : ∀ c x s y, I (c + 1) x → keyR x s = some y → I c y.1) (hd : ∀ c k x s, I (c + 1) x → I c (dfl k x s).1) :
  ∀ (c : Nat) (x : X) (s : RS) (y : X × RS), I c x → kN keyR dfl c x s = some y → I 0 y.1
 | 0, x, s, y, hi, h => by
  simp only [kN, Option.some.injEq] at h
  rw [← h]; exact hi
 | c + 1, x, s, y, hi, h => by
  rw [kN] at h
  split at h
  ·split at h
   ·cases h
   ·rename_i z hz
    exact kN_inv I hk hd c _ _ y (hk _ _ _ _ hi hz) h
  ·exact kN_inv I hk hd c _ _ y (hd _ _ _ _ hi) h
theorem ktR_ok (fl : Bool) {fs : Fds} {j : Nat} {f : Val → RS → Option (Val × RS)} (hf : ∀ v s v' s' l, f v s = some (v', s') → fs.okF l → fs.okF (l.set j v')) (hk : fs.kt = some j) {l l' : List Val} {s s' : RS} (hw : fs.okW l) (h : ktR fl f j l s = some (l', s')) : fs.okV l' := by
 have h0 := Fds.okW_F fs hk hw
 unfold ktR at h
 split at h
 ·split at h
  ·cases h
  ·rename_i y hy
   simp only [Option.some.injEq, Prod.mk.injEq] at h
   have := kN_inv (fun c x => fs.okF x.1 ∧ x.2.length + c ≤ (uvN s).1 ∧ ∀ e ∈ x.2, e.2.length < big) (fun c x s y hi hy => by
    obtain ⟨h1, h2, h3⟩ := hi
    unfold kRj at hy
    split at hy
    ·cases hy
    ·rename_i v s1 hv
     split at hy
     ·cases hy
     ·simp only [Option.some.injEq] at hy
      rw [← hy]
      exact ⟨hf _ _ _ _ _ hv h1, by simp only; omega, h3⟩) (fun c k x s hi => by
    obtain ⟨h1, h2, h3⟩ := hi
    have := tput_len x.2 k (inS s).l
    refine ⟨h1, by simp only [kDfl]; omega, tput_big h3 ?_⟩
    have := zjb ((uvN s).1 : Int) (uvN s).2
    have := zhs s
    simp only [inS]
    unfold big; omega) _ _ _ y ⟨h0, by simp, fun e he => by simp at he⟩ hy
   obtain ⟨h1, h2, h3⟩ := this
   rw [← h.1]
   have := zhs s
   exact Fds.okF_V fs hk h1 ⟨by unfold big; omega, h3⟩
 ·simp only [Option.some.injEq, Prod.mk.injEq] at h
  rw [← h.1]
  exact Fds.okF_V fs hk h0 ⟨by decide, fun x hx => by simp at hx⟩
section
variable (ver : Int) (fl : Bool)
mutual
theorem Ty.rd_ok : ∀ (t : Ty) (g : Gd) (r : Fds), (Fds.cons g t r).dOk → ∀ (s : RS) (v : Val) (s' : RS), t.rd ver fl s = some (v, s') → t.okV v
 | .pr k d, _, _, _, s, v, s', h => by
  simp only [Ty.rd, Option.some.injEq, Prod.mk.injEq] at h
  obtain ⟨rfl, rfl⟩ := h
  exact pk_rdV k s
 | .txt k, _, _, _, s, v, s', h => by
  simp only [Ty.rd, Option.some.injEq] at h
  simp only [Ty.okV]
  rw [show v = (k.rd fl s).1 by rw [h]]
  exact zqh fl k s
 | .arr st nul e, _, _, hd, s, v, s', h => by
  simp only [Ty.rd] at h
  have hbnd := zjt fl s
  simp only [lenX] at hbnd
  generalize (if fl = true then znp s else arrR s) = X at h hbnd
  split at h
  ·cases h
  ·split at h
   ·split at h
    ·cases h
    ·rename_i l s1 hr
     simp only [Option.some.injEq, Prod.mk.injEq] at h
     obtain ⟨rfl, rfl⟩ := h
     obtain ⟨a, b⟩ := rdN_ok (p := e.okV) (fun s v s' hh => El.rd_ok e hd.1 s v s' hh) _ _ _ _ hr
     refine ⟨rfl, ?_, b⟩
     unfold big; omega
   ·simp only [Option.some.injEq, Prod.mk.injEq] at h
    obtain ⟨rfl, rfl⟩ := h
    cases nul with
    | none => trivial
    | some n =>
     simp only
     split
     ·exact ⟨rfl, by decide, fun v hv => by simp at hv⟩
     ·trivial
 | .tv k, _, _, _, s, v, s', h => by
  simp only [Ty.rd, Option.some.injEq] at h
  simp only [Ty.okV]
  split at h
  ·have hs := zqh fl .str s
   simp only [Txt.rd] at hs
   simp only [Prod.mk.injEq] at h
   obtain ⟨rfl, _⟩ := h
   obtain ⟨l, hl, hb⟩ := hs
   have hl : strV (if fl = true then zic s else strR s).1 = strV l := hl
   have : (if fl = true then zic s else strR s).1 = l := by rw [← zjm (if fl = true then zic s else strR s).1, hl, zjm]
   show ((some (if fl = true then zic s else strR s).1).getD []).length < big
   rw [this]; exact hb
  ·rw [show v = (Txt.rd fl .nstr s).1 by rw [h]]
   exact zqh fl .nstr s
 | .row T pT d fs, _, _, hd, s, v, s', h => by
  simp only [Ty.rd] at h
  split at h
  ·cases h
  ·rename_i l s1 hr
   simp only [Option.some.injEq, Prod.mk.injEq] at h
   obtain ⟨rfl, rfl⟩ := h
   exact Fds.okW_none fs hd.1.1 (Fds.rd_okW fs hd.1.2 s l s1 hr)
theorem El.rd_ok : ∀ (e : El), e.dOk' → ∀ (s : RS) (v : Val) (s' : RS), e.rd ver fl s = some (v, s') → e.okV v
 | .pr k, _, s, v, s', h => by
  simp only [El.rd, Option.some.injEq, Prod.mk.injEq] at h
  obtain ⟨rfl, rfl⟩ := h
  exact pk_rdV k s
 | .txt k, _, s, v, s', h => by
  simp only [El.rd, Option.some.injEq] at h
  simp only [El.okV]
  rw [show v = (k.rd fl s).1 by rw [h]]
  exact zqh fl k s
 | .row T pT d fs, hd, s, v, s', h => by
  rw [El.rd] at h
  split at h
  ·cases h
  ·rename_i l s1 hr
   simp only [Option.some.injEq, Prod.mk.injEq] at h
   obtain ⟨rfl, rfl⟩ := h
   split at hr
   ·cases hr
   ·rename_i l2 s2 hr2
    have hw := Fds.rd_okW fs hd s l2 s2 hr2
    split at hr
    ·rename_i hkt
     simp only [Option.some.injEq, Prod.mk.injEq] at hr
     obtain ⟨rfl, rfl⟩ := hr
     exact Fds.okW_none fs hkt hw
    ·rename_i j hkt
     exact ktR_ok fl (fun v s v' s' l3 h3 hf => Fds.rdK_ok fs hd j l3 v s v' s' hf h3) hkt hw hr
theorem Fds.rd_okW : ∀ (fs : Fds), fs.dOk → ∀ (s : RS) (l : List Val) (s' : RS), fs.rd ver fl s = some (l, s') → fs.okW l
 | .nil, _, s, l, s', h => by
  simp only [Fds.rd, Option.some.injEq, Prod.mk.injEq] at h
  obtain ⟨rfl, rfl⟩ := h
  rfl
 | .tags none, _, s, l, s', h => by
  simp only [Fds.rd] at h
  split at h
  ·simp only [Option.some.injEq, Prod.mk.injEq] at h
   obtain ⟨rfl, rfl⟩ := h
   exact tagsR_ok s
  ·simp only [Option.some.injEq, Prod.mk.injEq] at h
   obtain ⟨rfl, rfl⟩ := h
   exact ⟨by decide, fun x hx => by simp at hx⟩
 | .tags (some j), _, s, l, s', h => by
  simp only [Fds.rd, Option.some.injEq, Prod.mk.injEq] at h
  obtain ⟨rfl, rfl⟩ := h
  exact rfl
 | .cons g t r, hd, s, l, s', h => by
  simp only [Fds.rd] at h
  split at h
  ·cases h
  ·rename_i v s1 h1
   split at h
   ·cases h
   ·rename_i l1 s2 h2
    simp only [Option.some.injEq, Prod.mk.injEq] at h
    obtain ⟨rfl, rfl⟩ := h
    have hr : r.dOk := by cases t <;> first | exact hd.2 | exact hd
    refine ⟨?_, Fds.rd_okW r hr s1 l1 s2 h2⟩
    split at h1
    ·exact Ty.rd_ok t g r hd s v s1 h1
    ·simp only [Option.some.injEq, Prod.mk.injEq] at h1
     obtain ⟨rfl, rfl⟩ := h1
     exact Ty.ini_ok t g r hd
theorem Ty.rdK_ok : ∀ (t : Ty) (g : Gd) (r : Fds), (Fds.cons g t r).dOk → ∀ (v0 : Val) (s : RS) (v : Val) (s' : RS), t.rdK ver fl v0 s = some (v, s') → t.okV v
 | .pr k d, _, _, _, v0, s, v, s', h => by
  simp only [Ty.rdK, Option.some.injEq, Prod.mk.injEq] at h
  obtain ⟨rfl, rfl⟩ := h
  exact pk_rdV k s
 | .txt k, _, _, _, v0, s, v, s', h => by
  simp only [Ty.rdK, Option.some.injEq] at h
  simp only [Ty.okV]
  rw [show v = (k.rd fl s).1 by rw [h]]
  exact zqh fl k s
 | .arr st nul e, _, _, hd, v0, s, v, s', h => by
  simp only [Ty.rdK] at h
  have hbnd := zjt fl s
  simp only [lenX] at hbnd
  generalize (if fl = true then znp s else arrR s) = X at h hbnd
  split at h
  ·cases h
  ·split at h
   ·split at h
    ·cases h
    ·rename_i l s1 hr
     simp only [Option.some.injEq, Prod.mk.injEq] at h
     obtain ⟨rfl, rfl⟩ := h
     obtain ⟨a, b⟩ := rdN_ok (p := e.okV) (fun s v s' hh => El.rd_ok e hd.1 s v s' hh) _ _ _ _ hr
     refine ⟨rfl, ?_, b⟩
     unfold big; omega
   ·simp only [Option.some.injEq, Prod.mk.injEq] at h
    obtain ⟨rfl, rfl⟩ := h
    split
    ·trivial
    ·exact ⟨rfl, by decide, fun v hv => by simp at hv⟩
 | .tv k, _, _, _, v0, s, v, s', h => by simp [Ty.rdK] at h
 | .row T pT d fs, _, _, hd, v0, s, v, s', h => by simp [Ty.rdK] at h
theorem Fds.rdK_ok : ∀ (fs : Fds), fs.dOk → ∀ (j : Nat) (l : List Val) (v0 : Val) (s : RS) (v : Val) (s' : RS), fs.okF l → fs.rdK ver fl j v0 s = some (v, s') → fs.okF (l.set j v)
 | .nil, _, j, l, v0, s, v, s', _, h => by simp [Fds.rdK] at h
 | .tags _, _, j, l, v0, s, v, s', _, h => by simp [Fds.rdK] at h
 | .cons g t r, hd, j, [], v0, s, v, s', hf, h => by simp only [Fds.okF] at hf
 | .cons g t r, hd, j, x :: l, v0, s, v, s', hf, h => by
  have hr : r.dOk := by cases t <;> first | exact hd.2 | exact hd
  cases j with
  | zero => exact ⟨Ty.rdK_ok t g r hd v0 s v s' h, hf.2⟩
  | succ j => exact ⟨hf.1, Fds.rdK_ok r hr j l v0 s v s' hf.2 h⟩
theorem Ty.ini_ok : ∀ (t : Ty) (g : Gd) (r : Fds), (Fds.cons g t r).dOk → t.okV t.iniV
 | .pr k d, _, _, hd => hd.1
 | .txt k, _, _, _ => txt_ini k
 | .arr .., _, _, _ => trivial
 | .row T pT d fs, _, _, hd => Fds.ini_ok fs hd.1.2
 | .tv _, _, _, _ => txt_ini .nstr
theorem Fds.ini_ok : ∀ (fs : Fds), fs.dOk → fs.okV fs.iniV
 | .nil, _ => rfl
 | .tags _, _ => ⟨by decide, fun x hx => by simp at hx⟩
 | .cons g t r, hd => by
  have hr : r.dOk := by cases t <;> first | exact hd.2 | exact hd
  exact ⟨Ty.ini_ok t g r hd, Fds.ini_ok r hr⟩
end
theorem Fds.rd_ok (fs : Fds) (hd : fs.dOk) (s : RS) (l : List Val) (s' : RS) (h : fs.rdR ver fl s = some (l, s')) : fs.okV l := by
 unfold Fds.rdR at h
 split at h
 ·cases h
 ·rename_i l2 s2 hr2
  have hw := Fds.rd_okW ver fl fs hd s l2 s2 hr2
  split at h
  ·rename_i hkt
   simp only [Option.some.injEq, Prod.mk.injEq] at h
   obtain ⟨rfl, rfl⟩ := h
   exact Fds.okW_none fs hkt hw
  ·rename_i j hkt
   exact ktR_ok fl (fun v s v' s' l3 h3 hf => Fds.rdK_ok ver fl fs hd j l3 v s v' s' hf h3) hkt hw h
end
mutual
def Ty.shB : Ty → Bool
 | .arr _ _ e => e.shB
 | .row _ _ _ fs => Nat.blt fs.count 1048576 && fs.shB
 | _ => true
def El.shB : El → Bool
 | .row _ _ _ fs => Nat.blt fs.count 1048576 && fs.shB
 | _ => true
def Fds.shB : Fds → Bool
 | .cons _ t r => t.shB && r.shB
 | _ => true
end
theorem zcx (n : Int) (s : List UInt8) (nl : Bool) (h : s.length < 4611686018427387904) : okS (zda n s nl) ∧ okT (zda n s nl) :=
 ⟨⟨⟨by decide, by decide⟩, trivial⟩, ⟨⟨h, by decide, by decide, fun x hx => by simp at hx⟩, trivial⟩⟩
theorem zpe : ∀ (fs : Fds) (l : List Val), (fs.trs l).length ≤ fs.count
 | .nil, _ => Nat.zero_le _
 | .tags _, _ => Nat.zero_le _
 | .cons _ _ r, [] => Nat.zero_le _
 | .cons _ _ r, v :: l => by simp only [Fds.trs, List.length_cons, Fds.count]; have := zpe r l; omega
theorem zmx : ∀ (fs : Fds) (l : List Val), fs.okV l → (fs.tgs l).length < big ∧ ∀ x ∈ fs.tgs l, x.2.length < big
 | .nil, _, _ => ⟨by simp [Fds.tgs, big], fun x hx => by simp [Fds.tgs] at hx⟩
 | .tags _, l, hv => by
  match l, hv with
  | [.tags u], hv =>
   simp only [Fds.tgs]
   exact ⟨by rw [(zdj u).length_eq]; exact hv.1, fun x hx => hv.2 x ((zdj u).mem_iff.1 hx)⟩
 | .cons _ _ r, [], hv => by simp only [Fds.okV] at hv
 | .cons _ _ r, v :: l, hv => by simp only [Fds.tgs]; exact zmx r l hv.2
theorem zpo {n : Int} {nl : Bool} {l : List Tr} {u : List (Nat × List UInt8)} (h1 : l.length < 1048576) (h2 : okSs l) (h3 : okTs l) (h4 : u.length < big) (h5 : ∀ x ∈ u, x.2.length < big) : okS (.mk n [] nl l u) ∧ okT (.mk n [] nl l u) := by
 have hb : big = 1099511627776 := rfl
 exact ⟨⟨⟨by omega, by omega⟩, h2⟩, ⟨⟨by decide, by omega, by omega, fun x hx => by have := h5 x hx; omega⟩, h3⟩⟩
mutual
theorem Ty.tr_short : ∀ (t : Ty) (v : Val), t.shB = true → t.okV v → okS (t.tr v) ∧ okT (t.tr v)
 | .pr k d, v, _, hv => by
  cases v <;> simp only [Ty.okV] at hv
  cases k with
  | uuid => obtain ⟨l, rfl, hl⟩ := hv; simp only [Ty.tr, PK.tr, zkw]; exact zcx _ _ _ (by omega)
  | _ => exact zcx _ _ _ (by simp)
 | .txt k, v, _, hv => by
  have hb : big < 4611686018427387904 := by decide
  cases k <;> cases v <;> simp only [Ty.okV, Txt.okV] at hv
  ·obtain ⟨l, rfl, hl⟩ := hv; simp only [Ty.tr, zjm]; exact zcx _ _ _ (by omega)
  ·exact zcx _ _ _ (by omega)
  ·exact zcx _ _ _ (by omega)
  ·exact zcx _ _ _ (by omega)
 | .arr st nul e, v, hs, hv => by
  cases v <;> simp only [Ty.okV] at hv
  ·exact ⟨⟨⟨by decide, by decide⟩, trivial⟩, ⟨⟨by decide, by decide, by decide, fun x hx => by simp at hx⟩, trivial⟩⟩
  ·rename_i sz l
   obtain ⟨_, hl, hok⟩ := hv
   have hb : big = 1099511627776 := rfl
   have key : okSs (l.map e.tr) ∧ okTs (l.map e.tr) := by
    clear hl
    induction l with
    | nil => exact ⟨trivial, trivial⟩
    | cons v l ih =>
     obtain ⟨a, b⟩ := El.tr_short e v hs (hok v (by simp))
     obtain ⟨c, d⟩ := ih fun x hx => hok x (by simp [hx])
     exact ⟨⟨a, c⟩, ⟨b, d⟩⟩
   simp only [Ty.tr]
   exact ⟨⟨⟨by rw [List.length_map]; omega, by decide⟩, key.1⟩, ⟨⟨by decide, by rw [List.length_map]; omega, by decide, fun x hx => by simp at hx⟩, key.2⟩⟩
 | .tv k, v, _, hv => by
  have hb : big < 4611686018427387904 := by decide
  cases v <;> simp only [Ty.okV, Txt.okV] at hv
  exact zcx _ _ _ (by omega)
 | .row T pT d fs, v, hs, hv => by
  cases v <;> simp only [Ty.okV] at hv
  rename_i l
  simp only [Ty.shB, Bool.and_eq_true] at hs
  obtain ⟨a, b⟩ := Fds.tr_short fs l hs.2 hv
  have h1 := zpe fs l
  have h2 : fs.count < 1048576 := by simpa using hs.1
  exact zpo (by omega) a b (zmx fs l hv).1 (zmx fs l hv).2
theorem El.tr_short : ∀ (e : El) (v : Val), e.shB = true → e.okV v → okS (e.tr v) ∧ okT (e.tr v)
 | .pr k, v, _, hv => by
  cases v <;> simp only [El.okV] at hv
  cases k with
  | uuid => obtain ⟨l, rfl, hl⟩ := hv; simp only [El.tr, PK.tr, zkw]; exact zcx _ _ _ (by omega)
  | _ => exact zcx _ _ _ (by simp)
 | .txt k, v, _, hv => by
  have hb : big < 4611686018427387904 := by decide
  cases k <;> cases v <;> simp only [El.okV, Txt.okV] at hv
  ·obtain ⟨l, rfl, hl⟩ := hv; simp only [El.tr, zjm]; exact zcx _ _ _ (by omega)
  ·exact zcx _ _ _ (by omega)
  ·exact zcx _ _ _ (by omega)
  ·exact zcx _ _ _ (by omega)
 | .row T pT d fs, v, hs, hv => by
  cases v <;> simp only [El.okV] at hv
  rename_i l
  simp only [El.shB, Bool.and_eq_true] at hs
  obtain ⟨a, b⟩ := Fds.tr_short fs l hs.2 hv
  have h1 := zpe fs l
  have h2 : fs.count < 1048576 := by simpa using hs.1
  exact zpo (by omega) a b (zmx fs l hv).1 (zmx fs l hv).2
theorem Fds.tr_short : ∀ (fs : Fds) (l : List Val), fs.shB = true → fs.okV l → okSs (fs.trs l) ∧ okTs (fs.trs l)
 | .nil, _, _, _ => ⟨trivial, trivial⟩
 | .tags _, _, _, _ => ⟨trivial, trivial⟩
 | .cons _ t r, [], _, hv => by simp only [Fds.okV] at hv
 | .cons _ t r, v :: l, hs, hv => by
  simp only [Fds.shB, Bool.and_eq_true] at hs
  obtain ⟨a, b⟩ := Ty.tr_short t v hs.1 hv.1
  obtain ⟨c, d⟩ := Fds.tr_short r l hs.2 hv.2
  exact ⟨⟨a, c⟩, ⟨b, d⟩⟩
end
theorem tr_short {fs : Fds} {l : List Val} (hc : fs.count < 1048576) (hs : fs.shB = true) (hv : fs.okV l) : okS (fs.tr l) ∧ okT (fs.tr l) := by
 obtain ⟨a, b⟩ := Fds.tr_short fs l hs hv
 have := zpe fs l
 exact zpo (by omega) a b (zmx fs l hv).1 (zmx fs l hv).2
structure zqe where
 newP : Nat := 0
 setV : Nat := 0
 maxV : Nat := 0
 readF : Nat := 0
 unsF : Nat := 0
 readf : Nat := 0
 tell : Nat := 0
 maxI : Nat := 0
 tellI : Nat := 0
 unsI : Nat := 0
section
variable (N : Nums)
def c_new (tT dflt : Nat) : C := seqs [zeo 0 (.pointer none), .ops [⟨some 101, .alloc tT, 0, none, []⟩], .ops [⟨some 0, .call ⟨.value (.func dflt), #[V 1], #[tT]⟩, N.t_, none, []⟩], .ops [⟨some 100, .assign (V 1), 0, none, []⟩], .ret]
def c_set (tT : Nat) : C := .ops [⟨some 0, .move (V 0), 0, none, []⟩, ⟨some 1, .move (V 1), 0, none, []⟩, ⟨some 2, .nilCheck (T 0), 0, none, []⟩, ⟨some 3, .fieldAddr tT (T 2) 0, 0, none, []⟩, ⟨none, .store N.zbs (T 3) (T 1), 0, none, []⟩]
def c_rf (pT readf : Nat) (u : Bool) : C := seqs [zeo 2 .nilIface, .ops [⟨some 0, .move (V 0), 0, none, []⟩, ⟨some 1, .move (V 1), 0, none, []⟩, ⟨some 2, .call ⟨.value (.func readf), #[T 0, T 1, .const (.bool u)], #[pT, N.zb, N.zbg]⟩, N.zeg, none, []⟩, ⟨some 102, .assign (T 2), 0, none, []⟩], .ret]
def c_max (n : Nat) : C := seqs [zeo 1 (.int .i16 0), zeo 1 (.int .i16 n), .ret]
def c_maxI (pT newP maxV : Nat) : C := seqs [zeo 0 (.int .i64 0), .ops [⟨some 0, .call ⟨.value (.func newP), #[], #[]⟩, pT, none, []⟩, ⟨some 1, .call ⟨.value (.func maxV), #[T 0], #[pT]⟩, N.zbs, none, []⟩, ⟨some 2, .convert N.zbs N.zt (T 1), 0, none, []⟩, ⟨some 100, .assign (T 2), 0, none, []⟩], .ret]
def c_door (pT newP setV rf tell : Nat) : C := seqs [.ops [⟨some 102, .alloc N.zp, 0, none, []⟩, ⟨some 103, .assign (.const (.bool false)), 0, none, []⟩],
 .ops [⟨some 0, .call ⟨.value (.func newP), #[], #[]⟩, pT, none, []⟩, ⟨some 104, .assign (T 0), 0, none, []⟩],
 .ops [⟨some 0, .move (V 4), 0, none, []⟩, ⟨some 1, .move (V 0), 0, none, []⟩, ⟨some 2, .convert N.zt N.zbs (T 1), 0, none, []⟩, ⟨some 3, .call ⟨.value (.func setV), #[T 0, T 2], #[pT, N.zbs]⟩, N.t_, none, []⟩],
 .seq (.ops [⟨some 0, .move (V 4), 0, none, []⟩, ⟨some 1, .move (V 1), 0, none, []⟩, ⟨some 2, .call ⟨.builtin .append, #[.const (.slice none 0 0), T 1], #[N.zb, N.zb]⟩, N.zb, none, []⟩, ⟨some 3, .call ⟨.value (.func rf), #[T 0, T 2], #[pT, N.zb]⟩, N.zeg, none, []⟩, ⟨some 105, .binOp .neq N.zeg (T 3) (.const .nilIface) N.zeg, 0, none, []⟩])
  (.cond 5 (.seq (.ops [⟨some 0, .build N.zp #[], 0, none, []⟩, ⟨none, .store N.zp (V 2) (T 0), 0, none, []⟩, ⟨some 103, .assign (.const (.bool false)), 0, none, []⟩]) .ret) .skip),
 .ops [⟨some 0, .move (V 4), 0, none, []⟩, ⟨some 1, .call ⟨.value (.func tell), #[T 0], #[pT]⟩, N.zp, none, []⟩, ⟨none, .store N.zp (V 2) (T 1), 0, none, []⟩, ⟨some 103, .assign (.const (.bool true)), 0, none, []⟩], .ret]
end
structure zti (P : Program) (N : Nums) (m : Msg) (fx : Bool) (d : zqe) : Prop where
 msg : MsgT P N m fx
 vin : m.vin = false
 ti : ∃ fs by', TI P m.tT (.struct fs) (m.fs.sz + 1) by' (.agg (.int .i16 0 :: m.fs.zero).toArray)
 newP : FOk P d.newP 0 (c_new N m.tT m.dflt) [.var 0]
 setV : FOk P d.setV 2 (c_set N m.tT) []
 readf : FOk P d.readf 3 (m.gen N fx) [.var 3]
 tell : d.tell ≠ 0 → TellP P d.tell 1 m.fs
 dok : m.fs.dOk
 shB : m.fs.shB = true
 cnt : m.fs.count < 1048576
section
variable {P : Program} {N : Nums}
theorem call_new (B : Base P N) {m : Msg} {fx : Bool} {d : zqe} (D : zti P N m fx d) (w : World) :
  Call P d.newP #[] w fun v w' => v = .pointer (some ⟨w.heap.size, 0, none⟩) ∧ Mod w w' zu ∧ w'.there w.heap.size 0 (m.fs.sz + 1) ∧ (∃ x, w'.cell? ⟨w.heap.size, 0, none⟩ = some x) ∧ w'.rangeAt w.heap.size 1 m.fs.ini ∧ w.heap.size < w'.heap.size := by
 obtain ⟨fs, by', hT⟩ := D.ti
 refine D.newP.call rfl fun loc N' hlo => ?_
 unfold c_new
 refine zho (by simp) ?_
 refine zau fun K hK => zap (hK _ _ ?_)
 clear hK K
 obtain ⟨w1, hw1⟩ : ∃ w1, w1 = w.alloc (.cells (Value.cells (.agg (.int .i16 0 :: m.fs.zero).toArray)) m.tT) := ⟨_, rfl⟩
 have m1 : Mod w w1 zu := by rw [hw1]; exact Mod.alloc _ _ _
 have s1 : w1.heap.size = w.heap.size + 1 := by rw [hw1]; exact zal _ _
 have r1 : w1.rangeAt w.heap.size 0 ([.int .i16 0] ++ m.fs.zero) := by rw [hw1]; exact zz w (.int .i16 0 :: m.fs.zero).toArray m.tT (0, 0)
 have t1 : w1.there w.heap.size 0 (m.fs.sz + 1) := by
  have := zbq w (.int .i16 0 :: m.fs.zero).toArray m.tT
  have e : (Value.int .i16 0 :: m.fs.zero).toArray.size = m.fs.sz + 1 := by simp [Fds.zero_length]
  rw [e] at this
  rw [hw1]; exact this
 refine zau fun K hK => zad fun τ => ?_
 have hal := hT.run_alloc (w := w) (.tuple #[])
 rw [← hw1] at hal
 simp +decide only [bK, hal]
 refine hK _ _ (zg fun σ1 hσ => ?_)
 have g1 := hσ 1
 simp +decide only [bE, BEq.rfl, Nat.reduceAdd] at g1
 clear hσ hK K hal hw1
 have q1 := zj.1 r1
 refine zau fun K hK => zad fun τ => ?_
 simp +decide only [bK]
 rw [zak D.msg.dflt.has]
 simp +decide only [bK, bE, Nat.reduceAdd, g1]
 refine (msg_dflt B D.msg t1 (by omega) (by simpa using q1.2) (zhf _ D.msg.plain)).mono ?_
 rintro _ w2 ⟨m2, r2⟩
 refine zg (K := fun σ' w' => zee K _ .normal σ' w') fun σ2 hσ => hK _ _ ?_
 have g2 := hσ 1
 simp +decide only [bE, Nat.reduceBeqDiff, Nat.reduceAdd, g1] at g2
 clear hσ hK K
 refine zau fun K hK => zad fun τ => ?_
 simp +decide only [bK, bE, Nat.reduceAdd, g2]
 refine hK _ _ (zg fun σ3 hσ => zau fun K2 hK2 => zcf ⟨.inr rfl, _, rfl, ?_⟩)
 have g3 := hσ 0
 simp +decide only [bE, BEq.rfl, Nat.zero_add] at g3
 have s2 := m2.size
 refine ⟨g3, m1.fresh m2 fun k o e => by have := e.1; omega, m2.there (by omega) t1, ⟨.int .i16 0, ?_⟩, r2, by omega⟩
 rw [m2.cell _ _ (by omega) (fun e => by have := e.2.1; omega)]
 exact q1.1 0 _ rfl
theorem call_set (B : Base P N) {m : Msg} {fx : Bool} {d : zqe} (D : zti P N m fx d) {w : World} {M : Nat} (x : Int) (ht : w.there M 0 (m.fs.sz + 1)) {u : Value} (hu : w.cell? ⟨M, 0, none⟩ = some u) :
  Call P d.setV #[.pointer (some ⟨M, 0, none⟩), .int .i16 x] w fun _ w' => Mod w w' (rng M 0 1) ∧ w'.cell? ⟨M, 0, none⟩ = some (.int .i16 x) ∧ w'.heap.size = w.heap.size := by
 refine D.setV.call rfl fun loc N' hlo => ?_
 unfold c_set
 refine zad fun τ => ?_
 have hst := B.int16.run_store1 (w := w) (b := M) (o := 0) (v := .int .i16 x) rfl (fun j hj => ht j (by omega))
 simp +decide only [bK, bE, Nat.reduceBeqDiff, BEq.rfl, Nat.reduceAdd, Nat.zero_add]
 rw [zaa rfl]
 simp +decide only [bK, bE, Nat.reduceBeqDiff, BEq.rfl, Nat.add_zero, D.msg.v0.run, hst]
 exact ⟨.inl rfl, .tuple #[], rfl, Mod.setCell fun _ => ⟨rfl, Nat.le_refl _, by omega⟩, World.cell?_setCell_same _ _ _ hu, by simp [World.setCell]⟩
theorem call_rf (B : Base P N) (F : Fns P N) {m : Msg} {fx : Bool} {d : zqe} (D : zti P N m fx d) {f : Nat} {u : Bool} (hf : FOk P f 2 (c_rf N m.pT d.readf u) [.var 2]) {w : World} {lo hi M : Nat} {v e : Value} {nl : Bool} {l : List UInt8} {ver : Int}
  (hb : zbc w lo hi v nl l) (hhi : hi ≤ w.heap.size) (ht : w.there M 0 (m.fs.sz + 1)) (hM : M < w.heap.size) (hMs : M < lo ∨ hi ≤ M) (hMg : M ≠ N.zd) (hver : w.cell? ⟨M, 0, none⟩ = some (.int .i16 ver)) (hz : w.rangeAt M 1 m.fs.ini) (he : w.cell? ⟨N.zd, 0, none⟩ = some e) (hei : ∃ te ve, e = .iface te ve) :
  Call P f #[.pointer (some ⟨M, 0, none⟩), v] w (zqc N m (m.rd fx ver ⟨l, false, nl⟩) lo hi M ver e w) := by
 refine hf.call rfl fun loc N' hlo => ?_
 unfold c_rf
 refine zho (by simp) ?_
 refine zau fun K hK => zap (hK _ _ ?_)
 clear hK K
 obtain ⟨σ, hσ⟩ : ∃ σ, σ = upd (zcv #[.pointer (some ⟨M, 0, none⟩), v]) 2 .nilIface := ⟨_, rfl⟩
 have f0 : σ 0 = .pointer (some ⟨M, 0, none⟩) := by rw [hσ, ze (by decide)]; rfl
 have f1 : σ 1 = v := by rw [hσ, ze (by decide)]; rfl
 rw [← hσ]
 clear hσ
 refine zau fun K hK => zad fun τ => ?_
 simp +decide only [bK, bE, Nat.reduceBeqDiff, Nat.reduceAdd, Nat.zero_add, f0, f1]
 rw [zlm D.readf.has]
 simp +decide only [bK, bE, Nat.reduceBeqDiff, BEq.rfl]
 refine (zps B F D.vin D.msg D.readf hb hhi ht hM hMs hMg hver hz (zko _ D.msg.plain) he hei (u := u)).mono ?_
 intro v' w' hpost
 refine hK _ _ (zg fun σ3 hσ => zau fun K2 hK2 => zcf ⟨.inr rfl, _, rfl, ?_⟩)
 have g3 := hσ 2
 simp +decide only [bE, BEq.rfl, Nat.reduceAdd] at g3
 rw [g3]; exact hpost
def ziw (w : World) (v : Value) (l : List UInt8) : Prop :=
 (∃ ad c, v = .slice ad 0 c ∧ l = []) ∨ ∃ a c, v = .slice (some a) l.length c ∧ l.length ≤ c ∧ a.block < w.heap.size ∧ ∀ j x, l[j]? = some x → w.cell? (a.add j) = some (zbo x)
theorem ziw.stay {w w' : World} (m : Mod w w' zu) {v : Value} {l : List UInt8} (h : ziw w v l) (hs : ∀ a : Addr, a.block < w.heap.size → w'.cell? a = w.cell? a) : ziw w' v l := by
 rcases h with h | ⟨a, c, h1, h2, h3, h4⟩
 ·exact .inl h
 ·exact .inr ⟨a, c, h1, h2, Nat.lt_of_lt_of_le h3 m.size, fun j x hj => by rw [hs _ (by unfold Addr.add; split <;> exact h3)]; exact h4 j x hj⟩
theorem zsp (B : Base P N) {w : World} {v : Value} {l : List UInt8} {ty : TypeId} (h : ziw w v l) (hl : l.length < 1099511627776) :
  ∃ v' w', (Builtin.append_ #[N.zb, N.zb] ty #[.slice none 0 0, v]).run P w = .ok v' w' ∧ zbc w' w.heap.size w'.heap.size v' l.isEmpty l ∧ Mod w w' zu := by
 have empty : ∀ {ad : Option Addr} {c : Nat}, v = .slice ad 0 c → l = [] → ∃ v' w', (Builtin.append_ #[N.zb, N.zb] ty #[.slice none 0 0, v]).run P w = .ok v' w' ∧ zbc w' w.heap.size w'.heap.size v' l.isEmpty l ∧ Mod w w' zu := by
  intro ad c e1 e2
  subst e1 e2
  exact ⟨_, _, zna B.Lu8 B.uint8, .inl ⟨rfl, rfl, rfl⟩, .refl _ _⟩
 rcases h with ⟨ad, c, h1, h2⟩ | ⟨a, c, e, _, _, h3⟩
 ·exact empty h1 h2
 ·cases l with
  | nil => exact empty e rfl
  | cons x l =>
   obtain ⟨i, hi, hsz, hbytes, hzero⟩ := B.uint8.info
   have hsrc : Src P i.size N.zb v (x :: l).length ((x :: l).map zbo) w := by
    rw [e]
    exact Src.ofSlice w B.Lu8.und a _ c _ (by rw [hsz]; simp) (fun j u hj => by
     rw [List.getElem?_map] at hj
     cases hx : (x :: l)[j]? with
     | none => rw [hx] at hj; simp at hj
     | some y => rw [hx] at hj; simp at hj; subst hj; exact h3 j y hx) (zow _)
   have hfit : Builtin.nextslicecap (0 + (x :: l).length) 0 * i.bytes ≤ 281474976710656 := by
    have := nextslicecap_le (show 0 < 0 + (x :: l).length by simp)
    rw [hbytes]; omega
   have hrun := run_append_grow_src (P := P) w N.zb N.zb ty N.zq i _ B.Lu8.und hi hzero none 0 0 [] rfl v _ _ hsrc (by simp) (by omega) hfit
   refine ⟨_, _, hrun, .inr ⟨w.heap.size, 0, _, rfl, by rw [Nat.zero_add], by exact grownCap_ge w (x :: l).length 0 N.zq, fun _ => ⟨Nat.le_refl _, by rw [zal]; exact Nat.lt_succ_self _⟩, ?_⟩, (Mod.drew w _).trans' (Mod.alloc _ _ _)⟩
   have hr := zz w.drew (([] ++ (x :: l).map zbo).toArray ++ Builtin.zeroCells (Value.cells (.int .u8 0)) (grownCap w (0 + (x :: l).length) 0 N.zq - (0 + (x :: l).length))) N.zq (0, 0)
   exact (zj.1 (by simpa using hr)).1
end
def Msg.door (m : Msg) (fx : Bool) (ver : Int) (l : List UInt8) : Tr × Bool :=
 match m.rd fx (IntKind.i16.wrap ver) ⟨l, false, l.isEmpty⟩ with
 | none => (zda 0 [] false, false)
 | some x => (m.fs.tr x, true)
def Doored (w : World) (t : Tr) (ok : Bool) (v : Value) (w' : World) : Prop := ∃ cs, v = .tuple #[.agg cs.toArray, .bool ok] ∧ RepT w' (NB w.heap.size w'.heap.size) t cs ∧ Mod w w' zu
section
variable {P : Program} {N : Nums}
theorem run_rem {t : TypeId} {x y : Operand} {k : IntKind} {a b : Int} {w : World} (h : b ≠ 0) : (do eqGuard .rem t x y (.int k a) (.int k b); binOp .rem t (.int k a) (.int k b) : Sem Value).run P w = .ok (.int k (a.tmod b)) w := by
 simp [eqGuard, binOp, Op.intDiv, h]
theorem run_beql {t : TypeId} {sz by' : Nat} {z : Value} (h : TI P t .bool sz by' z) {x y : Operand} {a b : Bool} {w : World} :
  (do eqGuard .eql t x y (.bool a) (.bool b); binOp .eql t (.bool a) (.bool b) : Sem Value).run P w = .ok (.bool (a == b)) w := by
 have e : (Op.equal t (.bool a) (.bool b)).run P w = .ok (a == b) w := by
  unfold Op.equal Op.maxDepth
  rw [show (10000 : Nat) = 9999 + 1 from rfl]
  unfold Op.equalIn
  rw [Sem.run_bind, run_underlying h.und, Result.andThen_ok]
  rfl
 have e1 : (eqGuard .eql t x y (.bool a) (.bool b)).run P w = .ok () w := rfl
 rw [Sem.run_bind, e1, Result.andThen_ok]
 show ((do pure (.bool (← Op.equal t (.bool a) (.bool b)))) : Sem Value).run P w = _
 rw [Sem.run_bind, e, Result.andThen_ok]
 rfl
theorem zrk (B : Base P N) (F : Fns P N) (hI : zdx P N) {m : Msg} {fx : Bool} {d : zqe} (D : zti P N m fx d) (ht0 : d.tell ≠ 0) {f rf : Nat} {u : Bool} (hf : FOk P f 2 (c_door N m.pT d.newP d.setV rf d.tell) [.cell 2 N.zp, .var 3]) (hrf : FOk P rf 2 (c_rf N m.pT d.readf u) [.var 2])
  {w : World} {v : Value} {l : List UInt8} {n : Int} {te : TypeId} {ve : Value} (ha : ziw w v l) (hl : l.length < 1099511627776) (he : w.cell? ⟨N.zd, 0, none⟩ = some (.iface te ve)) :
  Call P f #[.int .i64 n, v] w (Doored w (m.door fx n l).1 (m.door fx n l).2) := by
 refine hf.call rfl fun loc N' hlo => ?_
 unfold c_door
 obtain ⟨ms, hms⟩ : ∃ ms, TI P N.zeg (.interface ms) 1 16 .nilIface := B.error.elim (fun h => ⟨_, h⟩) id
 have hgl : N.zd < w.heap.size := zag (by rw [he]; rfl)
 refine zho (by simp) ?_
 obtain ⟨w1, hal, m1, s1, hres⟩ := zgs hI w
 refine zau fun K hK => zad fun τ => ?_
 simp +decide only [bK, hal]
 refine hK _ _ (zg fun σ1 hσ => ?_)
 have a0 := hσ 0
 have a1 := hσ 1
 have a2 := hσ 2
 have a3 := hσ 3
 simp +decide only [bE, Nat.reduceBeqDiff, BEq.rfl, Nat.reduceAdd, Nat.zero_add, zlj, zgy] at a0 a1 a2 a3
 clear hσ hK K hal
 refine zau fun K hK => zad fun τ => ?_
 simp +decide only [bK]
 rw [zln D.newP.has]
 refine (call_new B D w1).mono ?_
 rintro v2 w2 ⟨rfl, m2, t2, ⟨x2, hx2⟩, r2, l2⟩
 refine hK _ _ (zg fun σ2 hσ => ?_)
 have b0 := hσ 0
 have b1 := hσ 1
 have b2 := hσ 2
 have b3 := hσ 3
 have b4 := hσ 4
 simp +decide only [bE, Nat.reduceBeqDiff, BEq.rfl, Nat.reduceAdd, Nat.zero_add, a0, a1, a2, a3] at b0 b1 b2 b3 b4
 clear hσ hK K a0 a1 a2 a3
 obtain ⟨M, hM⟩ : ∃ M, M = w1.heap.size := ⟨_, rfl⟩
 rw [← hM] at t2 hx2 r2 l2 b4
 have m02 : Mod w w2 zu := m1.trans' m2
 refine zau fun K hK => zad fun τ => ?_
 have hcv := fun {w : World} => zck (P := P) (w := w) (k' := .i64) B.int B.int16 (n := n) ⟨_, rfl⟩
 simp +decide only [bK, bE, Nat.reduceBeqDiff, BEq.rfl, Nat.reduceAdd, Nat.zero_add, b0, b4, hcv]
 rw [zcn D.setV.has]
 simp +decide only [bK, bE, Nat.reduceBeqDiff, BEq.rfl]
 refine (call_set B D (IntKind.i16.wrap n) t2 hx2).mono ?_
 rintro v3 w3 ⟨m3, hv3, s3⟩
 refine hK _ _ (zg fun σ3 hσ => ?_)
 have c1 := hσ 1
 have c2 := hσ 2
 have c3 := hσ 3
 have c4 := hσ 4
 simp +decide only [bE, Nat.reduceBeqDiff, Nat.reduceAdd, b1, b2, b3, b4] at c1 c2 c3 c4
 clear hσ hK K b0 b1 b2 b3 b4
 have m03 : Mod w w3 zu := m02.fresh m3 fun k o h => by have := h.1; omega
 have t3 := m3.there l2 t2
 have r3 : w3.rangeAt M 1 m.fs.ini := m3.rangeAt l2 (fun i h1 _ h => by have := h.2.2; omega) r2
 have ha3 : ziw w3 v l := ha.stay m03 fun a h => World.cell?_of_block (m03.block _ h fun _ h => h)
 obtain ⟨vb, w4, hcp, hb4, m4⟩ := zsp (ty := N.zb) B ha3 hl
 have m04 : Mod w w4 zu := m03.trans' m4
 have s4 := m4.size
 have hv4 : w4.cell? ⟨M, 0, none⟩ = some (.int .i16 (IntKind.i16.wrap n)) := by rw [m4.cell _ _ (by omega) fun h => h]; exact hv3
 have he4 : w4.cell? ⟨N.zd, 0, none⟩ = some (.iface te ve) := by rw [m04.cell _ _ hgl fun h => h]; exact he
 have R4 : w4.rangeAt w.heap.size 0 zT := m4.rangeAt (by omega) (fun _ _ _ h => h) (m3.rangeAt (by omega) (fun i _ _ h => by have := h.1; omega) (m2.rangeAt (by omega) (fun _ _ _ h => h) hres.r))
 have T4 : w4.there w.heap.size 0 5 := m4.there (by omega) (m3.there (by omega) (m2.there (by omega) hres.t))
 refine zau fun K hK => zc fun K1 hK1 => zad fun τ => ?_
 simp +decide only [bK, bE, Nat.reduceBeqDiff, BEq.rfl, Nat.reduceAdd, c1, c4, hcp]
 rw [zcn hrf.has]
 simp +decide only [bK, bE, Nat.reduceBeqDiff, BEq.rfl]
 refine (call_rf B F D hrf hb4 (Nat.le_refl _) (m4.there (by omega) t3) (by omega) (.inl (by omega)) (by omega) hv4 (m4.rangeAt (by omega) (fun _ _ _ h => h) r3) he4 ⟨_, _, rfl⟩).mono ?_
 intro v5 w5 hpost
 obtain ⟨m5, hpost⟩ := hpost
 have m05 : Mod w w5 zu := m04.fresh m5 fun k o h => by have : k = M := h; omega
 have s5 := m5.size
 have R5 : w5.rangeAt w.heap.size 0 zT := m5.rangeAt (by omega) (fun i _ _ h => by have : w.heap.size = M := h; omega) R4
 have T5 : w5.there w.heap.size 0 5 := m5.there (by omega) T4
 cases hrd : m.rd fx (IntKind.i16.wrap n) ⟨l, false, l.isEmpty⟩ with
 | none =>
  rw [hrd] at hpost
  have hpost : v5 = .iface te ve := hpost
  subst hpost
  simp +decide only [bK, zqs hms]
  refine hK1 _ _ (zg fun σ4 hσ => ?_)
  have d2 := hσ 2
  have d5 := hσ 5
  simp +decide only [bE, Nat.reduceBeqDiff, BEq.rfl, Nat.reduceAdd, c2] at d2 d5
  clear hσ hK1 K1
  refine W_if hlo d5 ?_
  simp only [if_true]
  obtain ⟨w6, hst, m6, s6, r6, t6⟩ := zjo hI (cs := zT) R5 rfl T5 rfl (by decide)
  refine zc fun K hK => zad fun τ => ?_
  have e0 : ∀ ρ : Env, (#[] : Array (Nat × Operand)).map (fun p => (p.1, ev ρ p.2)) = #[] := fun ρ => by simp
  simp +decide only [bK, bE, Nat.reduceBeqDiff, BEq.rfl, Nat.reduceAdd, e0, build0 hI, d2, hst]
  refine hK _ _ (zg fun σ5 hσ => zcf ?_)
  have g2 := hσ 2
  have g3 := hσ 3
  simp +decide only [bE, Nat.reduceBeqDiff, BEq.rfl, Nat.reduceAdd, d2] at g2 g3
  rw [show m.door fx n l = (zda 0 [] false, false) by unfold Msg.door; rw [hrd]]
  refine ⟨.inr rfl, .tuple #[.agg zT.toArray, .bool false], ⟨_, _, ⟨_, g2, zpl hI r6 rfl⟩, rfl, by rw [g3]⟩, zT, rfl, zer zgp, m05.fresh m6 fun k o h => by have : k = w.heap.size := h; omega⟩
 | some x =>
  rw [hrd] at hpost
  obtain ⟨rfl, _, css, hrep, hr5, _⟩ := hpost
  simp +decide only [bK, zqr hms]
  refine hK1 _ _ (zg fun σ4 hσ => ?_)
  have d2 := hσ 2
  have d4 := hσ 4
  have d5 := hσ 5
  simp +decide only [bE, Nat.reduceBeqDiff, BEq.rfl, Nat.reduceAdd, c2, c4] at d2 d4 d5
  clear hσ hK1 K1
  refine W_if hlo d5 ?_
  simp only [Bool.false_eq_true, if_false]
  refine zca (hK _ _ ?_)
  clear hK K
  have hov : m.fs.okV x := by
   unfold Msg.rd at hrd
   split at hrd
   ·cases hrd
   ·rename_i l' s' h1
    split at hrd
    ·cases hrd
    ·cases hrd; exact Fds.rd_ok _ _ m.fs D.dok _ _ _ h1
  refine zau fun K hK => zad fun τ => ?_
  simp +decide only [bK, bE, Nat.reduceAdd, d4]
  rw [zak (D.tell ht0).has]
  simp +decide only [bK, bE, Nat.reduceBeqDiff, BEq.rfl]
  refine ((D.tell ht0).ok w5 (GG w3.heap.size w4.heap.size w4.heap.size w5.heap.size) M 0 x css (fun k h => by rcases h with h | h <;> omega) (by omega) hov hrep hr5).mono ?_
  rintro v6 w6 ⟨cs, rfl, hrep6, m6⟩
  have s6 := m6.size
  have R6 := m6.rangeAt (by omega) (fun _ _ _ h => h) R5
  have T6 := m6.there (by omega) T5
  obtain ⟨w7, hst, m7, s7, r7, t7⟩ := zjo hI R6 rfl T6 hrep6.len hrep6.one
  simp +decide only [bK, d2, hst]
  refine hK _ _ (zg fun σ5 hσ => zau fun K2 hK2 => zcf ?_)
  have g2 := hσ 2
  have g3 := hσ 3
  simp +decide only [bE, Nat.reduceBeqDiff, BEq.rfl, Nat.reduceAdd, d2] at g2 g3
  rw [show m.door fx n l = (m.fs.tr x, true) by unfold Msg.door; rw [hrd]]
  refine ⟨.inr rfl, .tuple #[.agg cs.toArray, .bool true], ⟨_, _, ⟨_, g2, zpl hI r7 hrep6.len⟩, rfl, by rw [g3]⟩, cs, rfl, RepT.mod (G := NB w5.heap.size w6.heap.size) m7 (fun k hk => ⟨hk.2, fun o h => by have := hk.1; have : k = w.heap.size := h; omega, by have := hk.1; omega, by have := hk.2; omega⟩) _ hrep6, (m05.trans' m6).fresh m7 fun k o h => by have : k = w.heap.size := h; omega⟩
end
section
variable {P : Program} {N : Nums}
theorem zhv {Cw : World → Prop} {K : Env → Prop} {o : ROp} {r : List (ROp × Bool)} {ρ : Env} (v : Value) (hg : zcm ρ o.guard = true) (h : ∀ w, Cw w → (exec ρ o).run P w = .ok (.value v) w) (hr : zcs P Cw K r (put ρ o.dst v)) : zcs P Cw K ((o, true) :: r) ρ :=
 ⟨v, fun w hw => .inl ⟨hg, h w hw⟩, hr⟩
theorem zqv {Cw : World → Prop} {K : Env → Prop} {o : ROp} {r : List (ROp × Bool)} {ρ : Env} (hg : zcm ρ o.guard = false) (hr : zcs P Cw K r (put ρ o.dst undef)) : zcs P Cw K ((o, true) :: r) ρ :=
 ⟨undef, fun w hw => .inr ⟨hg, rfl⟩, hr⟩
theorem ziw.run_len (B : Base P N) {w : World} {v : Value} {l : List UInt8} (h : ziw w v l) {ty : TypeId} : (Builtin.len_ #[N.zb] ty #[v]).run P w = .ok (.int .i64 l.length) w := by
 rcases h with ⟨ad, c, rfl, rfl⟩ | ⟨a, c, rfl, _⟩
 ·exact B.Lu8.run_len
 ·exact B.Lu8.run_len
theorem zrj (B : Base P N) (F : Fns P N) (hN : N.zgx ≠ 0) (w : World) (n k : Int) (hk : IntKind.i64.wrap (k + 1) ≠ 0) : Call P N.zgx #[.int .u8 n, .int .i64 k] w fun v w' => v = .int .i64 ((IntKind.i64.wrap n).tmod (IntKind.i64.wrap (k + 1))) ∧ w' = w := by
 refine (F.version hN).call rfl fun loc N' hlo => ?_
 unfold zro
 refine zc fun K hK => zap (hK _ _ ?_)
 clear hK K
 obtain ⟨σ, hσ⟩ : ∃ σ, σ = upd (zcv #[.int .u8 n, .int .i64 k]) 2 (.int .i64 0) := ⟨_, rfl⟩
 have f0 : σ 0 = .int .u8 n := by rw [hσ, ze (by decide)]; rfl
 have f1 : σ 1 = .int .i64 k := by rw [hσ, ze (by decide)]; rfl
 rw [← hσ]
 clear hσ
 refine zc fun K hK => zad fun τ => ?_
 have hcv := fun {w : World} => zck (P := P) (w := w) (k' := .u8) B.uint8 B.int (n := n) ⟨_, rfl⟩
 simp +decide only [bK, bE, Nat.reduceBeqDiff, BEq.rfl, Nat.reduceAdd, Nat.zero_add, f0, f1, hcv, run_rem hk]
 refine hK _ _ (zg fun σ3 hσ => zcf ⟨.inr rfl, _, rfl, ?_⟩)
 have g2 := hσ 2
 simp +decide only [bE, BEq.rfl, Nat.reduceAdd] at g2
 exact ⟨g2, rfl⟩
theorem call_max {f : Nat} {k : Nat} (hf : FOk P f 1 (c_max k) [.var 1]) (w : World) (x : Value) : Call P f #[x] w fun v w' => v = .int .i16 k ∧ w' = w := by
 refine hf.call rfl fun loc N' hlo => ?_
 unfold c_max
 refine zho (by simp) ?_
 refine zau fun K hK => zap (hK _ _ ?_)
 refine zau fun K hK => zap (hK _ _ ?_)
 exact zau fun K hK => zcf ⟨.inr rfl, _, rfl, upd_same _ _ _, rfl⟩
theorem call_maxI (B : Base P N) {m : Msg} {fx : Bool} {d : zqe} (D : zti P N m fx d) {f mf k : Nat} (hmf : FOk P mf 1 (c_max k) [.var 1]) (hf : FOk P f 0 (c_maxI N m.pT d.newP mf) [.var 0]) (w : World) :
  Call P f #[] w fun v w' => v = .int .i64 (IntKind.i64.wrap k) ∧ Mod w w' zu := by
 refine hf.call rfl fun loc N' hlo => ?_
 unfold c_maxI
 refine zho (by simp) ?_
 refine zau fun K hK => zap (hK _ _ ?_)
 clear hK K
 refine zau fun K hK => zad fun τ => ?_
 simp +decide only [bK, bE, BEq.rfl]
 rw [zln D.newP.has]
 refine (call_new B D w).mono ?_
 rintro v w1 ⟨rfl, m1, _⟩
 have hcv := fun {w : World} => zck (P := P) (w := w) (k' := .i16) B.int16 B.int (n := k) ⟨_, rfl⟩
 rw [zak hmf.has]
 simp +decide only [bK, bE, BEq.rfl]
 refine (call_max hmf w1 _).mono ?_
 rintro _ _ ⟨rfl, rfl⟩
 simp +decide only [bK, hcv]
 refine hK _ _ (zg fun σ3 hσ => zau fun K2 hK2 => zcf ⟨.inr rfl, _, rfl, ?_⟩)
 have g2 := hσ 0
 simp +decide only [bE, BEq.rfl, Nat.zero_add] at g2
 exact ⟨g2, m1⟩
theorem zrc {tt tg lt lg : TypeId} (hT : zet P N tt tg lt lg) {w1 : World} {b : Nat} {cs : List Value} (hr : w1.rangeAt b 0 cs) (hl : cs.length = 5) : (Instr.loadAt tt (.pointer (some ⟨b, 0, none⟩))).run P w1 = .ok (.agg cs.toArray) w1 := by
 obtain ⟨fs, h⟩ := hT.ti
 have hlv : ∀ (f : Array Field) (x : List Value), ldv (.struct f) x = .agg x.toArray := fun _ _ => rfl
 have hl2 := h.run_load (w := w1) (b := b) (o := 0) hr hl (fun h => by cases h)
 rw [hl2, hlv]
def zpn (N : Nums) (tTB f k : Nat) : C := .ops [
 ⟨some 1, .move (V 0), 0, none, []⟩,
 ⟨some 2, .move (V 4), 0, none, []⟩,
 ⟨some 3, .call ⟨.value (.func N.zgx), #[T 1, T 2], #[N.zq, N.zt]⟩, N.zt, none, []⟩,
 ⟨some 4, .move (V 1), 0, none, []⟩,
 ⟨some 5, .call ⟨.value (.func f), #[T 3, T 4], #[N.zt, N.zb]⟩, tTB, none, []⟩,
 ⟨some 0, .move (T 5), 0, none, []⟩,
 ⟨some 6, .extract (T 0) 0, 0, none, []⟩,
 ⟨some 7, .extract (T 0) 1, 0, none, []⟩,
 ⟨some (k + 100), .alloc N.zp, 0, none, []⟩,
 ⟨none, .store N.zp (V k) (T 6), 0, none, []⟩,
 ⟨some ((k + 1) + 100), .assign (T 7), 0, none, []⟩]
def dSame (N : Nums) : List ROp := [
 ⟨some 0, .move (V 8), 0, none, []⟩,
 ⟨some 1, .move (V 10), 0, none, []⟩,
 ⟨some 2, .binOp .eql N.zbg (T 0) (T 1) N.zbg, 0, none, [0, 1]⟩,
 ⟨some 3, .move (T 2), 0, none, [2]⟩,
 ⟨some 4, .move (V 8), 0, some (some 3, true), [3]⟩,
 ⟨some 5, .unOp .not N.zbg (T 4), 0, some (some 3, true), [4, 3]⟩,
 ⟨some 6, .move (T 5), 0, some (some 3, true), [5, 3, 3]⟩,
 ⟨some 7, .load N.zp (V 7), 0, some (some 6, false), [6]⟩,
 ⟨some 8, .call ⟨.value (.func N.zlv), #[T 7], #[N.zp]⟩, N.zk, some (some 6, false), [7, 6, 6]⟩,
 ⟨some 9, .load N.zp (V 9), 0, some (some 6, false), [6]⟩,
 ⟨some 10, .call ⟨.value (.func N.zlv), #[T 9], #[N.zp]⟩, N.zk, some (some 6, false), [9, 8, 6]⟩,
 ⟨some 11, .call ⟨.value (.func N.zci), #[T 8, T 10], #[N.zk, N.zk]⟩, N.zbg, some (some 6, false), [8, 10, 10, 6]⟩,
 ⟨some 12, .pick (T 6) (.const (.bool true)) (T 11), 0, some (some 3, true), [6, 11, 3]⟩,
 ⟨some 13, .pick (T 3) (T 12) (.const (.bool false)), 0, none, [3, 12]⟩,
 ⟨some 102, .assign (T 13), 0, none, [13, 11, 0, 1, 2, 3, 4, 5, 6, 7, 8, 9, 10, 11, 12, 13]⟩]
def c_lawU (N : Nums) (tTB maxI tellI unsI : Nat) (bd : Int) : C := seqs [
 zeo 2 (.bool false),
 .seq (.ops [⟨some 0, .move (V 1), 0, none, []⟩, ⟨some 1, .call ⟨.builtin .len, #[T 0], #[N.zb]⟩, N.zt, none, []⟩, ⟨some 103, .binOp .gtr N.zt (T 1) (.const (.int .i64 2147483647)) N.zt, 0, none, []⟩]) (.cond 3 (.seq (zeo 2 (.bool true)) .ret) .skip),
 .ops [⟨some 0, .call ⟨.value (.func maxI), #[], #[]⟩, N.zt, none, []⟩, ⟨some 104, .assign (T 0), 0, none, []⟩],
 .seq (.ops [⟨some 0, .move (V 4), 0, none, []⟩, ⟨some 105, .binOp .lss N.zt (T 0) (.const (.int .i64 0)) N.zt, 0, none, []⟩]) (.cond 5 (.seq (zeo 2 (.bool false)) .ret) .skip),
 .seq (.ops [⟨some 0, .move (V 1), 0, none, []⟩, ⟨some 1, .call ⟨.builtin .len, #[T 0], #[N.zb]⟩, N.zt, none, []⟩, ⟨some 106, .binOp .gtr N.zt (T 1) (.const (.int .i64 bd)) N.zt, 0, none, []⟩]) (.cond 6 (.seq (zeo 2 (.bool true)) .ret) .skip),
 zpn N tTB tellI 7, zpn N tTB unsI 9, .draw (dSame N), .ret]
def Put (w : World) (b : Nat) (t : Tr) : Prop := ∃ cs, RepT w (fun k => k < b) t cs ∧ w.rangeAt b 0 cs ∧ b < w.heap.size
theorem Put.stay {w w' : World} (m : Mod w w' zu) {b : Nat} {t : Tr} (h : Put w b t) : Put w' b t := by
 obtain ⟨cs, h1, h2, h3⟩ := h
 exact ⟨cs, RepT.stay m t h1, m.rangeAt h3 (fun _ _ _ h => h) h2, Nat.lt_of_lt_of_le h3 m.size⟩
theorem W_door (B : Base P N) (F : Fns P N) (hI : zdx P N) (hV : N.zgx ≠ 0) {loc : List Nat} {N' tTB f k : Nat} {Q : Exit → Env → World → Prop} {σ : Env} {w : World} {v : Value} {n p : Int} (hf : zcr P f) (hp : IntKind.i64.wrap (p + 1) ≠ 0) {t : Int → Tr} {ok : Int → Bool}
  (hD : ∀ x : Int, Call P f #[.int .i64 x, v] w (Doored w (t x) (ok x)))
  (h0 : σ 0 = .int .u8 n) (h1 : σ 1 = v) (h4 : σ 4 = .int .i64 p)
  (hQ : ∀ (σ' : Env) (w' : World), (∀ i, i ≠ k → i ≠ k + 1 → σ' i = σ i) → σ' k = .pointer (some ⟨w'.heap.size - 1, 0, none⟩) → σ' (k + 1) = .bool (ok ((IntKind.i64.wrap n).tmod (IntKind.i64.wrap (p + 1)))) → Mod w w' zu →
   Put w' (w'.heap.size - 1) (t ((IntKind.i64.wrap n).tmod (IntKind.i64.wrap (p + 1)))) → Q .normal σ' w') :
  W P loc N' (zpn N tTB f k) Q σ w := by
 unfold zpn
 refine zad fun τ => ?_
 have hn : (k + 1 == k) = false := by simp
 have hn2 : (k == k + 1) = false := by simp
 simp +decide only [bK, bE, Nat.reduceBeqDiff, BEq.rfl, Nat.reduceAdd, Nat.zero_add, h0, h4]
 rw [zcn (F.version hV).has]
 simp +decide only [bK, bE, Nat.reduceBeqDiff, BEq.rfl]
 refine (zrj B F hV w n p hp).mono ?_
 rintro _ w0 ⟨rfl, hw0⟩
 obtain rfl := hw0.symm
 clear hw0
 simp +decide only [h1]
 rw [zcn hf]
 simp +decide only [bK, bE, Nat.reduceBeqDiff, BEq.rfl]
 refine (hD _).mono ?_
 rintro _ w1 ⟨cs, rfl, hrep, m1⟩
 obtain ⟨w2, hal, m2, s2, hres⟩ := zgs hI w1
 simp +decide only [bK, hal]
 obtain ⟨w3, hst, m3, s3, r3, t3⟩ := zjo hI hres.r rfl hres.t hrep.len hrep.one
 simp +decide only [bK, hst]
 refine zg (K := fun σ' w' => Q .normal σ' w') fun σ' hσ => hQ σ' w3 (fun i hi hi1 => ?_) ?_ ?_ ((m1.trans' m2).fresh m3 fun k o h => by have : k = w1.heap.size := h; have := m1.size; omega) ?_
 ·rw [hσ i]
  have e1 : (i + 100 == k + 1 + 100) = false := beq_eq_false_iff_ne.2 (by omega)
  have e2 : (i + 100 == k + 100) = false := beq_eq_false_iff_ne.2 (by omega)
  simp +decide only [bE, Nat.reduceBeqDiff, e1, e2]
 ·rw [hσ k]
  have e1 : (k + 100 == k + 1 + 100) = false := beq_eq_false_iff_ne.2 (by omega)
  simp +decide only [bE, BEq.rfl, Nat.add_sub_cancel, e1, s3, s2]
 ·rw [hσ (k + 1)]
  simp +decide only [bE, BEq.rfl]
 ·rw [s3, s2, Nat.add_sub_cancel]
  exact ⟨cs, RepT.mod (G := NB w.heap.size w1.heap.size) (m2.fresh m3 fun k o h => by have : k = w1.heap.size := h; omega) (fun k hk => ⟨hk.2, fun _ h => h, hk.2⟩) _ hrep, r3, by omega⟩
end
section
variable {P : Program} {N : Nums}
theorem door_short {m : Msg} {fx : Bool} {d : zqe} (D : zti P N m fx d) (x : Int) (l : List UInt8) : okS (m.door fx x l).1 ∧ okT (m.door fx x l).1 := by
 unfold Msg.door
 cases hrd : m.rd fx (IntKind.i16.wrap x) ⟨l, false, l.isEmpty⟩ with
 | none => exact zcx _ _ _ (by simp)
 | some y =>
  refine tr_short D.cnt D.shB ?_
  unfold Msg.rd at hrd
  split at hrd
  ·cases hrd
  ·rename_i l' s' h1
   split at hrd
   ·cases hrd
   ·cases hrd; exact Fds.rd_ok _ _ m.fs D.dok _ _ _ h1
theorem W_same (B : Base P N) (F : Fns P N) (hI : zdx P N) (hS : zet P N N.zk N.zbl N.zab N.zv) (hG : N.zlv ≠ 0) (hT : N.zci ≠ 0) {loc : List Nat} {N' : Nat} {Q : Exit → Env → World → Prop} {σ : Env} {w : World} {b1 b2 : Nat} {t : Tr} {ok : Bool}
  (h7 : σ 7 = .pointer (some ⟨b1, 0, none⟩)) (h8 : σ 8 = .bool ok) (h9 : σ 9 = .pointer (some ⟨b2, 0, none⟩)) (h10 : σ 10 = .bool ok) (p1 : Put w b1 t) (p2 : Put w b2 t) (ht : okS t ∧ okT t)
  (hQ : ∀ (σ' : Env) (w' : World), σ' 2 = .bool true → Mod w w' zu → Q .normal σ' w') : W P loc N' (.draw (dSame N)) Q σ w := by
 have md : Mod w w.drew zu := Mod.drew _ _
 obtain ⟨c1, q1, r1, l1⟩ := p1
 obtain ⟨c2, q2, r2, l2⟩ := p2
 refine zfv B.mixed [true, true, true, true, true, true, true, true, false, true, false, false, false, false, false] (by kernel_rfl) (fun w' => Mod w w' zu) md fun τ => ?_
 unfold dSame
 refine za (.bool ok) (fun w' hw => by
  rw [zax, ev_tmp]
  simp +decide only [bE, Nat.reduceAdd, h8]) rfl ?_
 refine za (.bool ok) (fun w' hw => by
  rw [zax, ev_tmp]
  simp +decide only [bE, Nat.reduceBeqDiff, Nat.reduceAdd, h10]) rfl ?_
 refine za (.bool true) (fun w' hw => zh (by
  simp +decide only [bE, Nat.reduceBeqDiff, BEq.rfl, ev_tmp, run_beql B.bool])) rfl ?_
 refine za (.bool true) (fun w' hw => by
  rw [zax, ev_tmp]
  simp +decide only [bE, BEq.rfl]) rfl ?_
 refine zhv (.bool ok) (by simp +decide only [zcm, bE, BEq.rfl]) (fun w' hw => by
  rw [zax, ev_tmp]
  simp +decide only [bE, Nat.reduceBeqDiff, Nat.reduceAdd, h8]) ?_
 refine zhv (.bool !ok) (by simp +decide only [zcm, bE, Nat.reduceBeqDiff, BEq.rfl]) (fun w' hw => zh (by
  simp +decide only [bE, BEq.rfl, ev_tmp, zsm])) ?_
 refine zhv (.bool !ok) (by simp +decide only [zcm, bE, Nat.reduceBeqDiff, BEq.rfl]) (fun w' hw => by
  rw [zax, ev_tmp]
  simp +decide only [bE, BEq.rfl]) ?_
 cases ok with
 | false =>
  refine zqv (by simp +decide only [zcm, bE, BEq.rfl, Bool.not_false]) ?_
  simp only []
  refine zqv (by simp +decide only [zcm, bE, Nat.reduceBeqDiff, BEq.rfl, Bool.not_false]) ?_
  simp only [zcs, zcu, List.zip_cons_cons, List.zip_nil_right, List.zipWith_cons_cons, List.zipWith_nil_right, List.filter, Bool.not_true, Bool.not_false, List.map, zdc]
  rw [zde (by simp +decide only [bE, Nat.reduceBeqDiff, BEq.rfl, Bool.not_false])]
  refine ⟨md, ?_⟩
  rw [zde (by simp +decide only [bE, Nat.reduceBeqDiff, BEq.rfl, Bool.not_false])]
  refine ⟨md, ?_⟩
  rw [zde (by simp +decide only [bE, Nat.reduceBeqDiff, BEq.rfl, Bool.not_false])]
  refine ⟨md, ?_⟩
  rw [zbi (b := true) (by simp +decide only [bE, Nat.reduceBeqDiff, BEq.rfl])]
  simp +decide only [bK, bE, Nat.reduceBeqDiff, BEq.rfl, if_true, zdy]
  refine ⟨md, ?_⟩
  refine ⟨md, ?_⟩
  refine zg fun σ' hσ => hQ σ' _ ?_ md
  have g2 := hσ 2
  simp +decide only [bE, BEq.rfl, Nat.reduceAdd] at g2
  exact g2
 | true =>
  refine zhv (.agg c1.toArray) (by simp +decide only [zcm, bE, BEq.rfl, Bool.not_true]) (fun w' hw => zh (by
   simp +decide only [bE, Nat.reduceBeqDiff, Nat.reduceAdd, ev_tmp, h7]
   exact zrc hI (hw.rangeAt l1 (fun _ _ _ h => h) r1) q1.len)) ?_
  simp only []
  refine zhv (.agg c2.toArray) (by simp +decide only [zcm, bE, Nat.reduceBeqDiff, BEq.rfl, Bool.not_true]) (fun w' hw => zh (by
   simp +decide only [bE, Nat.reduceBeqDiff, Nat.reduceAdd, ev_tmp, h9]
   exact zrc hI (hw.rangeAt l2 (fun _ _ _ h => h) r2) q2.len)) ?_
  simp only [zcs, zcu, List.zip_cons_cons, List.zip_nil_right, List.zipWith_cons_cons, List.zipWith_nil_right, List.filter, Bool.not_true, Bool.not_false, List.map, zdc]
  rw [zbi (b := false) (by simp +decide only [bE, Nat.reduceBeqDiff, BEq.rfl])]
  rw [zak (F.got hG).has]
  simp +decide only [bK, bE, Nat.reduceBeqDiff, BEq.rfl]
  refine (gotT B F hG hS hI t ht.1 w.drew (fun k => k < b1) c1 (fun k hk => Nat.lt_trans hk l1) (RepT.stay md t q1)).mono ?_
  rintro _ w3 ⟨d1, rfl, q3, m3⟩
  have m03 : Mod w w3 zu := md.trans' m3
  refine ⟨m03, ?_⟩
  rw [zbi (b := false) (by simp +decide only [bE, Nat.reduceBeqDiff, BEq.rfl])]
  rw [zak (F.got hG).has]
  simp +decide only [bK, bE, Nat.reduceBeqDiff, BEq.rfl]
  refine (gotT B F hG hS hI t ht.1 w3 (fun k => k < b2) c2 (fun k hk => Nat.lt_of_lt_of_le (Nat.lt_trans hk l2) m03.size) (RepT.stay m03 t q2)).mono ?_
  rintro _ w4 ⟨d2, rfl, q4, m4⟩
  have m04 : Mod w w4 zu := m03.trans' m4
  refine ⟨m04, ?_⟩
  rw [zbi (b := false) (by simp +decide only [bE, Nat.reduceBeqDiff, BEq.rfl])]
  rw [zcn (F.spec_SameTree hT).1.has]
  simp +decide only [bK, bE, Nat.reduceBeqDiff, BEq.rfl]
  refine (sameTree B F hT hS t ht.2 w4 _ _ d1 d2 (RepT.stay m4 t q3) q4).mono ?_
  rintro _ w5 ⟨rfl, m5⟩
  have m05 : Mod w w5 zu := m04.trans' m5
  refine ⟨m05, ?_⟩
  rw [zbi (b := true) (by simp +decide only [bE, Nat.reduceBeqDiff, BEq.rfl])]
  simp +decide only [bK, bE, Nat.reduceBeqDiff, BEq.rfl, if_false, if_true, zdy]
  refine ⟨m05, ?_⟩
  refine ⟨m05, ?_⟩
  refine zg fun σ' hσ => hQ σ' _ ?_ m05
  have g2 := hσ 2
  simp +decide only [bE, BEq.rfl, Nat.reduceAdd] at g2
  exact g2
end
structure LawT (P : Program) (N : Nums) (m : Msg) (fx : Bool) (d : zqe) (k : Nat) : Prop where
 D : zti P N m fx d
 rf : FOk P d.readF 2 (c_rf N m.pT d.readf false) [.var 2]
 uf : FOk P d.unsF 2 (c_rf N m.pT d.readf true) [.var 2]
 mv : FOk P d.maxV 1 (c_max k) [.var 1]
 mi : FOk P d.maxI 0 (c_maxI N m.pT d.newP d.maxV) [.var 0]
 ti : FOk P d.tellI 2 (c_door N m.pT d.newP d.setV d.readF d.tell) [.cell 2 N.zp, .var 3]
 ui : FOk P d.unsI 2 (c_door N m.pT d.newP d.setV d.unsF d.tell) [.cell 2 N.zp, .var 3]
 tn : d.tell ≠ 0
 k1 : IntKind.i64.wrap k = k
 k2 : IntKind.i64.wrap (k + 1) ≠ 0
section
variable {P : Program} {N : Nums}
theorem call_lawU (B : Base P N) (F : Fns P N) (hI : zdx P N) (hS : zet P N N.zk N.zbl N.zab N.zv) (hG : N.zlv ≠ 0) (hT : N.zci ≠ 0) (hV : N.zgx ≠ 0) {m : Msg} {fx : Bool} {d : zqe} {k : Nat} (L : LawT P N m fx d k) {f tTB : Nat} {bd : Int}
  (hf : FOk P f 2 (c_lawU N tTB d.maxI d.tellI d.unsI bd) [.var 2]) {w : World} {v : Value} {l : List UInt8} {n : Int} {te : TypeId} {ve : Value} (ha : ziw w v l) (he : w.cell? ⟨N.zd, 0, none⟩ = some (.iface te ve)) :
  Call P f #[.int .u8 n, v] w fun v' w' => v' = .bool true ∧ Mod w w' zu := by
 refine hf.call rfl fun loc N' hlo => ?_
 unfold c_lawU
 refine zho (by simp) ?_
 refine zau fun K hK => zap (hK _ _ ?_)
 clear hK K
 obtain ⟨σ, hσ⟩ : ∃ σ, σ = upd (zcv #[.int .u8 n, v]) 2 (.bool false) := ⟨_, rfl⟩
 have f0 : σ 0 = .int .u8 n := by rw [hσ, ze (by decide)]; rfl
 have f1 : σ 1 = v := by rw [hσ, ze (by decide)]; rfl
 rw [← hσ]
 clear hσ
 refine zau fun K hK => zc fun K1 hK1 => zad fun τ => ?_
 simp +decide only [bK, bE, BEq.rfl, Nat.reduceAdd, f1, ha.run_len B]
 refine hK1 _ _ (zg fun σ1 hσ => ?_)
 have a0 := hσ 0
 have a1 := hσ 1
 have a3 := hσ 3
 simp +decide only [bE, Nat.reduceBeqDiff, BEq.rfl, Nat.reduceAdd, Nat.zero_add, f0, f1] at a0 a1 a3
 clear hσ hK1 K1 f0 f1
 refine W_if hlo a3 ?_
 by_cases hlen : (l.length : Int) > 2147483647
 ·simp only [hlen, decide_true, if_true]
  exact zc fun K1 hK1 => zap (hK1 _ _ (zcf ⟨.inr rfl, _, rfl, upd_same _ _ _, .refl _ _⟩))
 simp only [hlen, decide_false, Bool.false_eq_true, if_false]
 refine zca (hK _ _ ?_)
 clear hK K
 have hl : l.length < 1099511627776 := by omega
 refine zau fun K hK => zad fun τ => ?_
 simp +decide only [bK]
 rw [zln L.mi.has]
 refine (call_maxI B L.D L.mv L.mi w).mono ?_
 rw [L.k1]
 rintro _ w1 ⟨rfl, m1⟩
 simp +decide only [bE, BEq.rfl]
 refine hK _ _ (zg fun σ2 hσ => ?_)
 have b0 := hσ 0
 have b1 := hσ 1
 have b4 := hσ 4
 simp +decide only [bE, Nat.reduceBeqDiff, BEq.rfl, Nat.reduceAdd, Nat.zero_add, a0, a1] at b0 b1 b4
 clear hσ hK K a0 a1 a3
 have ha1 : ziw w1 v l := ha.stay m1 fun a h => World.cell?_of_block (m1.block _ h fun _ h => h)
 refine zau fun K hK => zc fun K1 hK1 => zad fun τ => ?_
 simp +decide only [bK, bE, BEq.rfl, Nat.reduceAdd, b4]
 refine hK1 _ _ (zg fun σ3 hσ => ?_)
 have c0 := hσ 0
 have c1 := hσ 1
 have c4 := hσ 4
 have c5 := hσ 5
 simp +decide only [bE, Nat.reduceBeqDiff, BEq.rfl, Nat.reduceAdd, Nat.zero_add, b0, b1, b4] at c0 c1 c4 c5
 clear hσ hK1 K1 b0 b1 b4
 refine W_if hlo c5 ?_
 have hk0 : ¬ (k : Int) < 0 := by omega
 simp only [hk0, decide_false, Bool.false_eq_true, if_false]
 refine zca (hK _ _ ?_)
 clear hK K
 refine zau fun K hK => zc fun K1 hK1 => zad fun τ => ?_
 simp +decide only [bK, bE, BEq.rfl, Nat.reduceAdd, c1, ha1.run_len B]
 refine hK1 _ _ (zg fun σ4 hσ => ?_)
 have d0 := hσ 0
 have d1 := hσ 1
 have d4 := hσ 4
 have d6 := hσ 6
 simp +decide only [bE, Nat.reduceBeqDiff, BEq.rfl, Nat.reduceAdd, Nat.zero_add, c0, c1, c4] at d0 d1 d4 d6
 clear hσ hK1 K1 c0 c1 c4 c5
 refine W_if hlo d6 ?_
 by_cases hbd : (l.length : Int) > bd
 ·simp only [hbd, decide_true, if_true]
  exact zc fun K1 hK1 => zap (hK1 _ _ (zcf ⟨.inr rfl, _, rfl, upd_same _ _ _, m1⟩))
 simp only [hbd, decide_false, Bool.false_eq_true, if_false]
 refine zca (hK _ _ ?_)
 clear hK K
 have hgl : N.zd < w.heap.size := zag (by rw [he]; rfl)
 have he1 : w1.cell? ⟨N.zd, 0, none⟩ = some (.iface te ve) := by rw [m1.cell _ _ hgl fun h => h]; exact he
 refine zau fun K hK => W_door B F hI hV L.ti.has L.k2 (fun x => zrk B F hI L.D L.tn L.ti L.rf ha1 hl he1) d0 d1 d4 fun σ5 w5 e0 e7 e8 m5 p5 => hK _ _ ?_
 clear hK K
 have m05 : Mod w w5 zu := m1.trans' m5
 have ha5 : ziw w5 v l := ha1.stay m5 fun a h => World.cell?_of_block (m5.block _ h fun _ h => h)
 have he5 : w5.cell? ⟨N.zd, 0, none⟩ = some (.iface te ve) := by rw [m05.cell _ _ hgl fun h => h]; exact he
 refine zau fun K hK => W_door B F hI hV L.ui.has L.k2 (fun x => zrk B F hI L.D L.tn L.ui L.uf ha5 hl he5) ((e0 0 (by decide) (by decide)).trans d0) ((e0 1 (by decide) (by decide)).trans d1) ((e0 4 (by decide) (by decide)).trans d4) fun σ6 w6 g0 g9 g10 m6 p6 => hK _ _ ?_
 clear hK K
 refine zau fun K hK => W_same B F hI hS hG hT ((g0 7 (by decide) (by decide)).trans e7) ((g0 8 (by decide) (by decide)).trans e8) g9 g10 (p5.stay m6) p6 (door_short L.D _ l) fun σ7 w7 h2 m7 => hK _ _ ?_
 exact zau fun K2 hK2 => zcf ⟨.inr rfl, _, rfl, h2, (m05.trans' m6).trans' m7⟩
end
section
open Go Go.RowKit Go.ChangeShapes Go.WideShapes
theorem octet_of {z : Int} (h : (Lit.int .u8 z).wf = true) : Value.int .u8 z = zbo (UInt8.ofNat z.toNat) := by
 have h2 : 0 ≤ z ∧ z ≤ 255 := by
  simp [Lit.wf, IntKind.min, IntKind.max, IntKind.signed, IntKind.bits] at h
  omega
 unfold zbo
 congr 1
 rw [UInt8.toNat_ofNat']
 omega
theorem argOct_of {H : Type} {enc : TypeId × Value → H} {P : Program} {W : World} {t e : TypeId} {v : Value} {d : DataW H} {p : List MemPlace} {base : Nat}
  (ht : P.underlying t = some (.slice e)) (he : P.underlying e = some (.int .u8)) (hc : P.cellsOf e = 1) (hok : Value.okWide P W .any base t v) (h : DataW.Trod enc P W 0 (fun _ => true) true t v d p) : ∃ l, ziw W v l := by
 obtain ⟨a, len, cap, rfl⟩ := okWide_slice ht hok
 obtain ⟨fuel, hf⟩ := h
 rcases open_ints ht he hc hf with ⟨hcs, _⟩ | ⟨x, l, c, zs, hcs, _, hl, hm, hz, _, hcell, hwz⟩
 ·simp [Value.cells] at hcs
  obtain ⟨rfl, rfl, rfl⟩ := hcs
  exact ⟨[], .inl ⟨_, _, rfl, rfl⟩⟩
 ·simp [Value.cells] at hcs
  obtain ⟨rfl, rfl, rfl⟩ := hcs
  by_cases h0 : len = 0
  ·subst h0
   exact ⟨[], .inl ⟨_, _, rfl, rfl⟩⟩
  ·have hz : zs.length = cap := by simpa using hz
   have hll : ((zs.take len).map fun z : Int => UInt8.ofNat z.toNat).length = len := by simp; omega
   have hcl : ∀ j y, ((zs.take len).map fun z : Int => UInt8.ofNat z.toNat)[j]? = some y → W.cell? (x.add j) = some (zbo y) := by
    intro j y hj
    rw [List.getElem?_map] at hj
    cases hg : (zs.take len)[j]? with
    | none => rw [hg] at hj; simp at hj
    | some z =>
     rw [hg] at hj
     simp at hj
     subst hj
     have hjl : j < len := by
      have := (List.getElem?_eq_some_iff.1 hg).1
      rw [List.length_take] at this; omega
     rw [List.getElem?_take_of_lt hjl] at hg
     have hjz : j < zs.length := (List.getElem?_eq_some_iff.1 hg).1
     rw [hcell j hjz, List.getD, hg]
     exact congrArg some (octet_of (hwz z (List.mem_of_getElem? hg)))
   refine ⟨_, .inr ⟨x, cap, by rw [hll], by rw [hll]; exact hl, ?_, hcl⟩⟩
   have h1 := hcell 0 (by omega)
   have h2 : (W.cell? x).isSome = true := by
    have e : x.add 0 = x := by unfold Addr.add; simp
    rw [e] at h1; rw [h1]; rfl
   unfold World.cell? at h2
   cases hh : W.heap[x.block]? with
   | none => rw [hh] at h2; simp at h2
   | some o => exact (Array.getElem?_eq_some_iff.1 hh).1
theorem el_ti {P : Program} {N : Nums} {fx : Bool} (B : Base P N) (F : Fns P N) (e : El) (h : e.okB P N fx = true) (hd : e.dfs P N) : ∃ d by' z, TI P (e.ty N) d e.sz by' z := by
 obtain ⟨d, by', z, h, _⟩ := (El.ok_of B F e h hd).2.1
 exact ⟨d, by', z, h⟩
end
end Go.Kf
