/- A part of the calculus by which the claim's proof goes: over any program and any numbering of its functions; no condition beyond those that each theorem names. -/
import Derived.MapKept
import Derived.Deep.AppendSrc
import Derived.Great.BuildSlice
import Derived.Laws.IdiomStrings
import Derived.Laws.MakeOwn
import Derived.Maps.RangeRun
import Derived.Shelf.GgSortFunc.Whole
import Derived.Shelf.GgSortFunc.Tiny
import Derived.Sort.LotA
import Derived.ProofKit
import Derived.OpenShut
import Derived.ChangeSlices
import Derived.WideShapes
import Derived.Carry
import Derived.Test.YtgmhkfdpdbecmaaGreatDoorKb
set_option linter.unusedSimpArgs false
set_option linter.unusedVariables false
namespace Go.Kf
open Go Go.RowKit
section
variable {P : Program} {N : Nums}
theorem run_eqlMap {t a b : TypeId} (h : P.underlying t = some (.map a b)) {x y : Operand} {m : Option Nat} {w : World} :
  (do eqGuard .eql t x y (.map m) (.map none); binOp .eql t (.map m) (.map none) : Sem Value).run P w = .ok (.bool m.isNone) w := by
 have e : (Op.equal t (.map m) (.map none)).run P w = .ok m.isNone w := by
  unfold Op.equal Op.maxDepth
  rw [show (10000 : Nat) = 9999 + 1 from rfl]
  unfold Op.equalIn
  rw [Sem.run_bind, run_underlying h, Result.andThen_ok]
  cases m <;> rfl
 have e1 : (eqGuard .eql t x y (.map m) (.map none)).run P w = .ok () w := rfl
 rw [Sem.run_bind, e1, Result.andThen_ok]
 show ((do pure (.bool (← Op.equal t (.map m) (.map none))) : Sem Value)).run P w = _
 rw [Sem.run_bind, e, Result.andThen_ok]
 rfl
theorem Mod.setMap {w : World} {r : Nat} {es es' : Array MapEntry} {ck ck' : Nat} (h : w.heap[r]? = some (.map es ck)) : Mod w { w with heap := w.heap.setIfInBounds r (.map es' ck') } (blk r) := by
 obtain ⟨h1, h2⟩ := MapKept.heap_set (o' := .map es' ck') h
 refine ⟨rfl, rfl, rfl, by simp, fun k hk hn => h2 k fun e => hn 0 e, fun k o hk hn => ?_, fun k o hk => ?_, fun k o hk => ?_, fun k hk => ?_⟩
 ·exact World.cell?_of_block (h2 k fun e => hn e)
 ·by_cases e : k = r
  ·subst e
   simp only [World.cell?, h1, h]
  ·rw [World.cell?_of_block (h2 k e)]
 ·by_cases e : k = r
  ·subst e
   simp only [World.frozen?, h1, h]
  ·rw [World.frozen?_of_block (h2 k e)]
 ·by_cases e : k = r
  ·subst e
   simp only [World.shape?, h1, h]
  ·simp only [World.shape?, h2 k e]
def tagV (w : World) (G : Nat → Prop) (v : Value) (l : List UInt8) : Prop := (l = [] ∧ OctG w G v none) ∨ OctG w G v (some l)
theorem find_tag {w : World} {G : Nat → Prop} {k : Nat} {v : Value} {vl : List UInt8} (hv : tagV w G v vl) : ∀ (l : List (Nat × List UInt8)) (es : List MapEntry) (i0 : Nat), zbt w G l es → (l.map Prod.fst).Nodup →
  (∃ i val x, Instr.findNow (.int .u32) (.int .u32 k) es i0 = some (some (i0 + i, val)) ∧ es[i]? = some x ∧ x.key = .int .u32 k ∧ (l.map Prod.fst).contains k = true ∧
   zbt w G (l.map fun x => if x.1 = k then (k, vl) else x) (es.modify i fun e => { e with key := .int .u32 k, val := v })) ∨
  (Instr.findNow (.int .u32) (.int .u32 k) es i0 = some none ∧ (l.map Prod.fst).contains k = false)
 | [], es, i0, he, _ => by
  simp only [zbt] at he
  subst he
  exact .inr ⟨rfl, rfl⟩
 | (k', l') :: l, es, i0, he, hnd => by
  obtain ⟨v', b, rest, rfl, h2, h3⟩ := he
  simp only [List.map_cons, List.nodup_cons] at hnd
  by_cases hk : k' = k
  ·subst hk
   left
   refine ⟨0, v', ⟨.int .u32 k', v', b⟩, by simp [Instr.findNow, Instr.sameNow], rfl, rfl, by simp, ?_⟩
   have hrest : (l.map fun x => if x.1 = k' then (k', vl) else x) = l := by
    conv => rhs; rw [← List.map_id l]
    refine List.map_congr_left fun x hx => ?_
    have : x.1 ≠ k' := fun e => hnd.1 (List.mem_map.2 ⟨x, hx, e⟩)
    simp [this]
   simp only [List.map_cons, if_true, hrest, List.modify_zero_cons, zbt]
   exact ⟨v, b, rest, rfl, hv, h3⟩
  ·have hk2 : ((k : Int) == (k' : Int)) = false := by
    have : (k : Int) ≠ (k' : Int) := by omega
    simpa using this
   rcases find_tag hv l rest (i0 + 1) h3 hnd.2 with ⟨i, val, x, g1, g2, g3, g4, g5⟩ | ⟨g1, g2⟩
   ·left
    refine ⟨i + 1, val, x, ?_, by simpa using g2, g3, ?_, ?_⟩
    ·simp only [Instr.findNow, Instr.sameNow, if_true, hk2, g1]
     congr 3; omega
    ·simp only [List.map_cons, List.contains_cons, g4, Bool.or_true]
    ·simp only [List.map_cons, if_neg hk, List.modify_succ_cons, zbt]
     exact ⟨v', b, _, rfl, h2, g5⟩
   ·right
    refine ⟨by simp only [Instr.findNow, Instr.sameNow, if_true, hk2, g1], ?_⟩
    have : (k == k') = false := by simpa using fun e => hk e.symm
    simp only [List.map_cons, List.contains_cons, g2, this, Bool.or_false]
theorem zbt.append {w : World} {G : Nat → Prop} {k b : Nat} {v : Value} {vl : List UInt8} (hv : tagV w G v vl) : ∀ {l : List (Nat × List UInt8)} {es : List MapEntry}, zbt w G l es → zbt w G (l ++ [(k, vl)]) (es ++ [⟨.int .u32 k, v, b⟩])
 | [], es, he => by
  simp only [zbt] at he
  subst he
  exact ⟨v, b, [], rfl, hv, rfl⟩
 | (k', l') :: l, es, ⟨v', b', rest, h1, h2, h3⟩ => by
  subst h1
  exact ⟨v', b', _, rfl, h2, zbt.append hv h3⟩
theorem tput_keys {l : List (Nat × List UInt8)} {k : Nat} {v : List UInt8} (hn : (l.map Prod.fst).Nodup) : ((tput l k v).map Prod.fst).Nodup ∧ ∀ x ∈ tput l k v, x.1 = k ∨ x.1 ∈ l.map Prod.fst := by
 unfold tput
 split
 ·rename_i hc
  have e : (l.map fun x => if x.1 = k then (k, v) else x).map Prod.fst = l.map Prod.fst := by
   rw [List.map_map]
   refine List.map_congr_left fun x _ => ?_
   simp only [Function.comp]
   split
   ·rename_i h; exact h.symm
   ·rfl
  rw [e]
  refine ⟨hn, fun x hx => ?_⟩
  have : x.1 ∈ (l.map fun x => if x.1 = k then (k, v) else x).map Prod.fst := List.mem_map.2 ⟨x, hx, rfl⟩
  rw [e] at this
  exact .inr this
 ·rename_i hc
  refine ⟨?_, fun x hx => ?_⟩
  ·rw [List.map_append, List.nodup_append]
   refine ⟨hn, by simp, fun a ha b hb => ?_⟩
   simp at hb
   subst hb
   intro e
   subst e
   exact hc (by simpa using ha)
  ·rcases List.mem_append.1 hx with hx | hx
   ·exact .inr (List.mem_map.2 ⟨x, hx, rfl⟩)
   ·simp at hx; subst hx; exact .inl rfl
theorem run_setTag (B : Base P N) (hT : N.zdf ≠ 0) {w : World} {G : Nat → Prop} {mr : Nat} {l : List (Nat × List UInt8)} {es : Array MapEntry} {ck k : Nat} {v : Value} {vl : List UInt8} (hv : tagV w G v vl) (hk : k < 4294967296)
  (hb : w.heap[mr]? = some (.map es ck)) (h4 : ∀ e ∈ es.toList, e.born < ck) (h5 : (es.toList.map MapEntry.born).Nodup) (h6 : zbt w G l es.toList) (h7 : (l.map Prod.fst).Nodup) (h8 : ∀ x ∈ l, x.1 < 4294967296) :
  ∃ w' es' ck', (Instr.mapUpdate N.zp (.map (some mr)) (.int .u32 k) v).run P w = .ok () w' ∧ Mod w w' (blk mr) ∧ w'.heap.size = w.heap.size ∧ w'.heap[mr]? = some (.map es' ck') ∧ (∀ e ∈ es'.toList, e.born < ck') ∧ (es'.toList.map MapEntry.born).Nodup ∧
   zbt w G (tput l k vl) es'.toList ∧ ((tput l k vl).map Prod.fst).Nodup ∧ ∀ x ∈ tput l k vl, x.1 < 4294967296 := by
 obtain ⟨_, _, hmap⟩ := B.tags hT
 have hkeys := tput_keys (k := k) (v := vl) h7
 have hbound : ∀ x ∈ tput l k vl, x.1 < 4294967296 := fun x hx => by
  rcases hkeys.2 x hx with h | h
  ·omega
  ·obtain ⟨y, hy, e⟩ := List.mem_map.1 h
   rw [← e]; exact h8 y hy
 have hck := MapKept.run_checkKey (P := P) (w := w) (k := .int .u32 k) B.uint32.und rfl false 9999
 have hgo := MapKept.run_getObj_map (P := P) hb
 rcases find_tag (k := k) hv l es.toList 0 h6 h7 with ⟨i, val, x, g1, g2, g3, g4, g5⟩ | ⟨g1, g2⟩
 ·have hfk := MapKept.run_findKey (P := P) (w := w) (k := .int .u32 k) B.uint32.und g1
  have hks := MapKept.run_keyThatStays (P := P) (w := w) (d := .int .u32) (k := .int .u32 k) rfl
  have hi : es[i]? = some x := by simpa using g2
  have hold : (((es[i]?).map (·.key)).getD (.int .u32 k)) = .int .u32 k := by rw [hi]; simpa using g3
  have hso := MapKept.run_setObj_map (P := P) (.map (es.modify i fun e => { e with key := .int .u32 k, val := v }) ck) hb
  refine ⟨_, es.modify i (fun e => { e with key := .int .u32 k, val := v }), ck, ?_, Mod.setMap hb, by simp, (MapKept.heap_set hb).1, ?_, ?_, ?_, hkeys.1, hbound⟩
  ·simp only [Instr.mapUpdate, Sem.run_bind, hmap.run_und, Result.andThen_ok, hgo, hck, hfk, Nat.zero_add, hold, hks, hso]
  ·intro e he
   rw [Array.toList_modify] at he
   obtain ⟨j, hj⟩ := List.getElem?_of_mem he
   rw [List.getElem?_modify] at hj
   cases hx : es.toList[j]? with
   | none => rw [hx] at hj; simp at hj
   | some y =>
    rw [hx] at hj
    have hy := h4 y (List.mem_of_getElem? hx)
    simp at hj
    split at hj <;> (subst hj; exact hy)
  ·have : (es.modify i fun e => { e with key := .int .u32 k, val := v }).toList.map MapEntry.born = es.toList.map MapEntry.born := by
    rw [Array.toList_modify]
    apply List.ext_getElem?
    intro j
    rw [List.getElem?_map, List.getElem?_modify, List.getElem?_map]
    cases es.toList[j]? with
    | none => rfl
    | some y => simp; split <;> rfl
   rw [this]; exact h5
  ·unfold tput
   rw [if_pos g4, Array.toList_modify]
   exact g5
 ·have hfk := MapKept.run_findKey (P := P) (w := w) (k := .int .u32 k) B.uint32.und g1
  have hso := MapKept.run_setObj_map (P := P) (.map (es.push ⟨.int .u32 k, v, ck⟩) (ck + 1)) hb
  refine ⟨_, es.push ⟨.int .u32 k, v, ck⟩, ck + 1, ?_, Mod.setMap hb, by simp, (MapKept.heap_set hb).1, ?_, ?_, ?_, hkeys.1, hbound⟩
  ·simp only [Instr.mapUpdate, Sem.run_bind, hmap.run_und, Result.andThen_ok, hgo, hck, hfk, hso]
  ·intro e he
   simp at he
   rcases he with he | he
   ·have := h4 e (by simpa using he); omega
   ·subst he; simp
  ·simp only [Array.toList_push, List.map_append, List.map_cons, List.map_nil]
   rw [List.nodup_append]
   refine ⟨h5, by simp, fun a ha b hb' => ?_⟩
   simp at hb'
   subst hb'
   obtain ⟨y, hy, e⟩ := List.mem_map.1 ha
   have := h4 y hy
   omega
  ·unfold tput
   rw [if_neg (by rw [g2]; simp), Array.toList_push]
   exact zbt.append hv h6
end
section
variable {P : Program} {N : Nums}
theorem tagV.mod {w w' : World} {M : Nat → Nat → Prop} {G G' : Nat → Prop} (h : Mod w w' M) (hG : ∀ k, G k → k < w.heap.size ∧ (∀ o, ¬ M k o) ∧ G' k) {v : Value} {l : List UInt8} (hb : tagV w G v l) : tagV w' G' v l :=
 hb.imp (fun x => ⟨x.1, x.2.mod h hG⟩) fun x => x.mod h hG
def TagsC (w : World) (G : Nat → Prop) (c : Nat) (v : Value) (l : List (Nat × List UInt8)) : Prop :=
 (v = .map none ∧ l = []) ∨ ∃ m es ck, v = .map (some m) ∧ c ≤ m ∧ m < w.heap.size ∧ w.heap[m]? = some (.map es ck) ∧ (∀ e ∈ es.toList, e.born < ck) ∧ (es.toList.map MapEntry.born).Nodup ∧ zbt w G l es.toList ∧ (l.map Prod.fst).Nodup ∧ ∀ x ∈ l, x.1 < 4294967296
theorem call_Set (B : Base P N) (F : Fns P N) (hN : N.zhl ≠ 0) (hT : N.zdf ≠ 0) {w : World} {G : Nat → Prop} {b c k : Nat} {m v : Value} {l : List (Nat × List UInt8)} {vl : List UInt8}
  (hc : w.cell? ⟨b, 0, none⟩ = some m) (ht : w.there b 0 1) (htg : TagsC w G c m l) (hbc : b < c) (hcw : c ≤ w.heap.size) (hG : ∀ i, G i → i < c ∧ i ≠ b) (hv : tagV w G v vl) (hk : k < 4294967296) :
  Call P N.zhl #[.pointer (some ⟨b, 0, none⟩), .int .u32 k, v] w fun _ w' => ∃ m', w'.cell? ⟨b, 0, none⟩ = some m' ∧ m'.oneCell' = true ∧ TagsC w' G c m' (tput l k vl) ∧ Mod w w' fun i _ => i = b ∨ c ≤ i := by
 obtain ⟨_, hHF, hmap⟩ := B.tags hT
 have hb := zvc ht (by omega)
 refine (F.PTags_Set hN).call rfl fun loc N' hlo => ?_
 unfold ztc
 obtain ⟨σ, hσ⟩ : ∃ σ, σ = zcw #[.pointer (some ⟨b, 0, none⟩), .int .u32 k, v] := ⟨_, rfl⟩
 have f0 : σ 0 = .pointer (some ⟨b, 0, none⟩) := by rw [hσ]; rfl
 have f1 : σ 1 = .int .u32 k := by rw [hσ]; rfl
 have f2 : σ 2 = v := by rw [hσ]; rfl
 rw [← hσ]
 clear hσ
 have fin : ∀ {σ' : Env} {w1 : World} {mr : Nat} {l1 : List (Nat × List UInt8)}, Ag 3 σ σ' → w1.cell? ⟨b, 0, none⟩ = some (.map (some mr)) → TagsC w1 G c (.map (some mr)) l → c ≤ w1.heap.size → Mod w w1 (fun i _ => i = b ∨ c ≤ i) → tagV w1 G v vl →
   W P loc N' (.ops [⟨some 0, .move (V 0), 0, none, []⟩, ⟨some 1, .nilCheck (T 0), 0, none, []⟩, ⟨some 2, .fieldAddr N.zdf (T 1) 0, 0, none, []⟩, ⟨some 3, .load N.zp (T 2), 0, none, []⟩, ⟨some 4, .move (V 1), 0, none, []⟩, ⟨some 5, .move (V 2), 0, none, []⟩,
    ⟨none, .mapUpdate N.zp (T 3) (T 4) (T 5), 0, none, []⟩]) (retQ P [] fun _ w' => ∃ m', w'.cell? ⟨b, 0, none⟩ = some m' ∧ m'.oneCell' = true ∧ TagsC w' G c m' (tput l k vl) ∧ Mod w w' fun i _ => i = b ∨ c ≤ i) σ' w1 := by
  intro σ' w1 mr l1 ha hc1 ht1 hcw1 hm1 hv1
  rcases ht1 with ⟨h, _⟩ | ⟨m1, es, ck, e1, h1, h2, h3, h4, h5, h6, h7, h8⟩
  ·cases h
  ·cases e1
   obtain ⟨w2, es', ck', hrun, hm2, hs2, g1, g2, g3, g4, g5, g6⟩ := run_setTag B hT hv1 hk h3 h4 h5 h6 h7 h8
   have e0 := ha 0 (by omega)
   have e1 := ha 1 (by omega)
   have e2 := ha 2 (by omega)
   rw [f0] at e0
   rw [f1] at e1
   rw [f2] at e2
   refine zj fun τ => ?_
   simp +decide (disch := omega) only [bK, bE, Nat.reduceBeqDiff, BEq.rfl, Nat.reduceAdd, Nat.zero_add, e0]
   rw [zw rfl]
   simp +decide (disch := omega) only [bK, bE, Nat.reduceBeqDiff, BEq.rfl, Nat.add_zero, hHF.run, hmap.run_load1 rfl, hc1, e1, e2, zto, hrun]
   refine ⟨.inl rfl, .tuple #[], rfl, .map (some mr), ?_, rfl, .inr ⟨mr, es', ck', rfl, h1, by omega, g1, g2, g3, ?_, g5, g6⟩, hm1.trans hm2 fun i o _ h => h.elim id fun h => .inr (by have : i = mr := h; omega)⟩
   ·rw [hm2.cell _ _ (by omega) (fun h => by have : b = mr := h; omega)]; exact hc1
   ·exact g4.mod hm2 fun i hi => ⟨by have := hG i hi; omega, fun o h => by have : i = mr := h; have := hG i hi; omega, hi⟩
 refine zd fun K hK => zd fun K1 hK1 => zj fun τ => ?_
 simp +decide (disch := omega) only [bK, bE, BEq.rfl, Nat.reduceAdd, Nat.zero_add, f0]
 rw [zw rfl]
 have hml : ∃ mo, m = .map mo := by
  rcases htg with ⟨h, _⟩ | ⟨m1, es, ck, e1, _⟩
  ·exact ⟨_, h⟩
  ·exact ⟨_, e1⟩
 obtain ⟨mo, rfl⟩ := hml
 simp +decide (disch := omega) only [bK, bE, BEq.rfl, Nat.add_zero, hHF.run, hmap.run_load1 rfl, hc, run_eqlMap hmap.und]
 refine hK1 _ _ (zc fun σ1 hσ => ?_)
 have a1 : Ag 3 σ σ1 := fun i hi => by
  rw [hσ]
  match i, hi with
  | 0, _ => simp +decide only [bE, Nat.reduceBeqDiff, Nat.zero_add]
  | 1, _ => simp +decide only [bE, Nat.reduceBeqDiff, Nat.reduceAdd]
  | 2, _ => simp +decide only [bE, Nat.reduceBeqDiff, Nat.reduceAdd]
 have a3 := hσ 3
 simp +decide only [bE, BEq.rfl, Nat.reduceAdd] at a3
 clear hσ hK1 K1
 refine W_if hlo a3 ?_
 cases mo with
 | some mr =>
  refine zbe (hK _ _ (fin (l1 := l) a1 hc htg hcw (.refl _ _) hv))
 | none =>
  have hl : l = [] := by
   rcases htg with ⟨_, h⟩ | ⟨m1, es, ck, e1, _⟩
   ·exact h
   ·cases e1
  subst hl
  simp only [Option.isNone_none, if_true]
  have e0 := a1 0 (by omega)
  rw [f0] at e0
  have hmk : (Instr.makeMap N.zp none).run P w = .ok (.map (some w.heap.size)) (w.alloc (.map #[] 0)) := by
   simp [Instr.makeMap, newObj, Sem.run, bind, Sem.bind]
  obtain ⟨w1, hw1⟩ : ∃ w1, w1 = w.alloc (.map #[] 0) := ⟨_, rfl⟩
  have m1 : Mod w w1 zad := by rw [hw1]; exact Mod.alloc _ _ _
  have s1 : w1.heap.size = w.heap.size + 1 := by rw [hw1]; exact zau _ _
  have n1 : w1.heap[w.heap.size]? = some (.map #[] 0) := by rw [hw1]; exact zmq _ _
  have t1 : w1.there b 0 1 := m1.there hb ht
  have st := hmap.run_store1 (w := w1) (b := b) (o := 0) (v := .map (some w.heap.size)) rfl t1
  have c1 : w1.cell? ⟨b, 0, none⟩ = some (.map none) := by rw [m1.cell _ _ hb (fun h => h)]; exact hc
  refine zj fun τ => ?_
  rw [hw1] at st
  simp +decide (disch := omega) only [bK, bE, Nat.reduceBeqDiff, BEq.rfl, Nat.zero_add, Option.map_none, e0, zwy, hmk]
  rw [zw (a := ⟨b, 0, none⟩) (by simp +decide only [bK, bE, Nat.reduceBeqDiff, BEq.rfl])]
  simp +decide (disch := omega) only [bK, bE, Nat.reduceBeqDiff, BEq.rfl, Nat.add_zero, hHF.run, st, zao, locs_envOf]
  rw [← hw1]
  have m2 : Mod w1 (w1.setCell ⟨b, 0, none⟩ (.map (some w.heap.size))) (blk b) := Mod.setCell fun _ => rfl
  have m02 : Mod w (w1.setCell ⟨b, 0, none⟩ (.map (some w.heap.size))) (fun i _ => i = b ∨ c ≤ i) := m1.trans m2 fun i o _ h => h.elim False.elim fun h => .inl h
  have s2 : (w1.setCell ⟨b, 0, none⟩ (.map (some w.heap.size))).heap.size = w1.heap.size := by simp [World.setCell]
  refine hK _ _ (fin (l1 := []) a1 (World.cell?_setCell_same _ _ _ c1) (.inr ⟨w.heap.size, #[], 0, rfl, hcw, by omega, ?_, by simp, by simp, by simp [zbt], by simp, by simp⟩) (by omega) m02 ?_)
  ·rw [m2.block _ (by omega) (fun o h => by have : w.heap.size = b := h; omega)]; exact n1
  ·exact hv.mod m02 fun i hi => ⟨by have := hG i hi; omega, fun o h => by have := hG i hi; omega, hi⟩
structure TRnd (lo hi r b1 b2 : Nat) (s0 : RS) (w0 : World) (n : Nat) (σ : Env) (w : World) : Prop where
 f0 : σ 0 = .pointer (some ⟨r, 0, none⟩)
 f1 : σ 1 = .pointer (some ⟨b1, 0, none⟩)
 f2 : σ 2 = .pointer (some ⟨b2, 0, none⟩)
 f3 : σ 3 = .int .u32 n
 lt : n < 4294967296
 st : ∃ l s m, RdAt w lo hi r s ∧ ztn n l s = ztm s0 ∧ w.cell? ⟨b2, 0, none⟩ = some m ∧ m.oneCell' = true ∧ TagsC w (fun k => lo ≤ k ∧ k < hi) (b2 + 1) m l
 t1 : w.there b1 0 1
 t2 : w.there b2 0 1
 c1 : w.cell? ⟨b1, 0, none⟩ = some (.map none)
 mod : Mod w0 w (fun i _ => i = r ∨ b2 ≤ i)
 size : b2 + 1 ≤ w.heap.size
theorem tagsOk (B : Base P N) (F : Fns P N) (hN : N.zdg ≠ 0) (hT : N.zdf ≠ 0) : TagsOk P N := by
 have hF := F.internalReadTags hN
 have hU := hF.2.2.1
 have hS := hF.2.1
 have hSet := hF.2.2.2
 refine ⟨hF.1.has, fun w lo hi r s hr => hF.1.call rfl fun loc N' hlo => ?_⟩
 obtain ⟨⟨fs, htg⟩, hHF, hmap⟩ := B.tags hT
 have hrlt := hr.lt
 have hhi := hr.hi_le
 unfold zjv
 refine zd fun K hK => zj fun τ => ?_
 simp +decide only [bK, Nat.reduceAdd, htg.run_alloc, zk, locs_envOf]
 refine hK _ _ ?_
 clear hK K
 obtain ⟨w1, hw1⟩ : ∃ w1, w1 = w.alloc (.cells (Value.cells (.agg #[.map none])) N.zdf) := ⟨_, rfl⟩
 rw [← hw1]
 have m1 : Mod w w1 zad := by rw [hw1]; exact Mod.alloc _ _ _
 have s1 : w1.heap.size = w.heap.size + 1 := by rw [hw1]; exact zau _ _
 have r1 : w1.rangeAt w.heap.size 0 [.map none] := by rw [hw1]; exact zz w _ _ _
 have t1 : w1.there w.heap.size 0 1 := by rw [hw1]; exact zbz w _ _
 clear hw1
 refine zd fun K hK => zj fun τ => ?_
 simp +decide only [bK, Nat.reduceAdd, htg.run_alloc, zk, locs_envOf]
 refine hK _ _ ?_
 clear hK K
 obtain ⟨w2, hw2⟩ : ∃ w2, w2 = w1.alloc (.cells (Value.cells (.agg #[.map none])) N.zdf) := ⟨_, rfl⟩
 rw [← hw2]
 have m2 : Mod w1 w2 zad := by rw [hw2]; exact Mod.alloc _ _ _
 have s2 : w2.heap.size = w1.heap.size + 1 := by rw [hw2]; exact zau _ _
 have r2 : w2.rangeAt w1.heap.size 0 [.map none] := by rw [hw2]; exact zz w1 _ _ _
 have t2 : w2.there w1.heap.size 0 1 := by rw [hw2]; exact zbz w1 _ _
 clear hw2
 have m02 : Mod w w2 zad := m1.trans' m2
 have hr2 : RdAt w2 lo hi r s := hr.mod m02 (fun _ h => h) (fun _ _ _ _ h => h)
 obtain ⟨σ, hσ⟩ : ∃ σ, σ = upd (upd (zcw #[.pointer (some ⟨r, 0, none⟩)]) 1 (.pointer (some ⟨w.heap.size, 0, none⟩))) 2 (.pointer (some ⟨w1.heap.size, 0, none⟩)) := ⟨_, rfl⟩
 have f0 : σ 0 = .pointer (some ⟨r, 0, none⟩) := by rw [hσ, zh (by decide), zh (by decide)]; rfl
 have f1 : σ 1 = .pointer (some ⟨w.heap.size, 0, none⟩) := by rw [hσ, zh (by decide)]; exact upd_same _ _ _
 have f2 : σ 2 = .pointer (some ⟨w1.heap.size, 0, none⟩) := by rw [hσ]; exact upd_same _ _ _
 rw [← hσ]
 clear hσ
 refine zd fun K hK => zd fun K1 hK1 => zj fun τ => ?_
 simp +decide (disch := omega) only [bK, bE, Nat.reduceAdd, Nat.zero_add, f0]
 rw [zar (F.PReader_Uvarint hU).1.has]
 simp +decide (disch := omega) only [bK, bE, BEq.rfl]
 refine (zki B F hU w2 lo hi r s hr2).mono ?_
 rintro v w3 ⟨rfl, hr3, hm3⟩
 simp +decide (disch := omega) only [zk, zao, locs_envOf]
 have hs3 := hm3.size
 have hlt := zrv s
 refine hK1 _ _ (zeg (zpk (TRnd lo hi r w.heap.size w1.heap.size s w) (n := (uvN s).1) ⟨by rw [zh (by decide)]; exact f0, by rw [zh (by decide)]; exact f1, by rw [zh (by decide)]; exact f2, upd_same _ _ _, hlt, ⟨[], (uvN s).2, .map none, hr3, rfl, ?_, rfl, .inl ⟨rfl, rfl⟩⟩, hm3.there (by omega) (m2.there (by omega) t1), hm3.there (by omega) t2, ?_, (m02.trans hm3 fun i o _ h => h.elim False.elim .inl), by omega⟩ ?_))
 ·rw [hm3.cell _ _ (by omega) (fun h => by have : w1.heap.size = r := h; omega)]; exact r2 0 _ rfl
 ·rw [hm3.cell _ _ (by omega) (fun h => by have : w.heap.size = r := h; omega), m2.cell _ _ (by omega) (fun h => h)]; exact r1 0 _ rfl
 clear hK1 K1
 intro n σ1 w4 hI
 obtain ⟨l, s4, m, hr4, hrest, hc, hone, htc⟩ := hI.st
 have hsz4 := hI.size
 have hapr : ∀ k, lo ≤ k → k < hi → k < w.heap.size ∧ k ≠ r := fun k h1 h2 => ⟨by omega, by have := hr.apart; omega⟩
 refine zd fun K2 hK2 => zd fun K3 hK3 => zj fun τ => ?_
 have e3 := hI.f3
 simp +decide (disch := omega) only [bK, bE, BEq.rfl, Nat.reduceAdd, e3, zk, zao, locs_envOf]
 refine hK3 _ _ (W_if hlo (upd_same _ _ _) ?_)
 clear hK3 K3
 cases n with
 | zero =>
  rw [if_neg (by simp)]
  refine znt ?_
  simp only [zfr, inB, if_true]
  refine hK _ _ ?_
  simp only [ztn] at hrest
  obtain ⟨σ5, hσ5⟩ : ∃ σ5, σ5 = upd σ1 4 (.bool (decide (((0 : Nat) : Int) > 0))) := ⟨_, rfl⟩
  have g1 : σ5 1 = .pointer (some ⟨w.heap.size, 0, none⟩) := by rw [hσ5, zh (by decide)]; exact hI.f1
  have g2 : σ5 2 = .pointer (some ⟨w1.heap.size, 0, none⟩) := by rw [hσ5, zh (by decide)]; exact hI.f2
  have hgen : ∀ {c : C} {Q : Exit → Env → World → Prop}, W P loc N' c Q σ5 w4 → W P loc N' c Q (upd σ1 4 (.bool (decide (((0 : Nat) : Int) > 0)))) w4 := fun h => hσ5 ▸ h
  refine hgen ?_
  clear hgen hσ5
  refine zd fun K4 hK4 => zj fun τ => ?_
  have hld := htg.run_load (w := w4) (b := w1.heap.size) (o := 0) (cs := [m]) (zje.2 hc) rfl (fun h => by cases h)
  have hlv : ldv (.struct fs) [m] = .agg #[m] := rfl
  have hst := htg.run_store (w := w4) (b := w.heap.size) (o := 0) (v := .agg #[m]) (cs := [m]) rfl rfl hI.t1 (fun c hc => by simp at hc; subst hc; exact hone)
  simp +decide (disch := omega) only [bK, bE, Nat.reduceBeqDiff, BEq.rfl, Nat.reduceAdd, g1, g2, hld, hlv, hst]
  refine hK4 _ _ (zc fun σ6 hσ => zay ⟨.inr rfl, .agg #[m], ⟨⟨w.heap.size, 0, none⟩, ?_, ?_⟩, ?_⟩)
  ·have := hσ 1
   simp +decide only [bE, Nat.reduceBeqDiff, Nat.reduceAdd, g1] at this
   exact this
  ·have h2 := zaw [m] 0 w4 _ (zje.2 hI.c1) (Nat.le_refl _)
   have hl2 := htg.run_load (w := w4.setCells w.heap.size 0 [m]) (b := w.heap.size) (o := 0) (cs := [m]) (by simpa using h2) rfl (fun h => by cases h)
   simpa [Instr.loadAt, Instr.sureAddr, Sem.run_bind, hlv] using hl2
  ·have m5 : Mod w4 (w4.setCells w.heap.size 0 [m]) (blk w.heap.size) := Mod.setCells _ 0 _ fun _ _ _ _ => rfl
   have s5 : (w4.setCells w.heap.size 0 [m]).heap.size = w4.heap.size := by simp [World.setCells, World.setCell]
   have hs0 := hI.mod.size
   rw [← hrest]
   refine ⟨m, rfl, hone, ?_, hr4.mod m5 (fun o h => by have : r = w.heap.size := h; omega) (fun k o h1 h2 h => by have : k = w.heap.size := h; omega), ?_⟩
   ·rcases htc with ⟨e1, e2⟩ | ⟨mm, es, ck, e1, h1, h2, h3, h4, h5, h6, h7, h8⟩
    ·exact .inl ⟨e1, e2⟩
    ·refine .inr ⟨mm, es, ck, e1, .inr ⟨by omega, by omega⟩, ?_, h4, h5, ?_, h7, h8⟩
     ·rw [m5.block _ h2 (fun o h => by have : mm = w.heap.size := h; omega)]; exact h3
     ·exact h6.mod m5 fun k hk => ⟨by omega, fun o h => by have : k = w.heap.size := h; omega, .inl hk⟩
   ·refine (hI.mod.trans m5 (M := fun i _ => i = r ∨ w.heap.size ≤ i) fun i o _ h => h.elim (fun h => h.imp id fun h => by omega) (fun h => .inr (by have : i = w.heap.size := h; omega))).mono fun i o hi h => h.elim id fun h => by omega
 | succ n =>
  rw [show decide (((n + 1 : Nat) : Int) > 0) = true from by simp, if_pos rfl]
  refine zbe (hK2 _ _ ?_)
  clear hK2 K2
  obtain ⟨σ5, hσ5⟩ : ∃ σ5, σ5 = upd σ1 4 (.bool true) := ⟨_, rfl⟩
  have g0 : σ5 0 = .pointer (some ⟨r, 0, none⟩) := by rw [hσ5, zh (by decide)]; exact hI.f0
  have g1 : σ5 1 = .pointer (some ⟨w.heap.size, 0, none⟩) := by rw [hσ5, zh (by decide)]; exact hI.f1
  have g2 : σ5 2 = .pointer (some ⟨w1.heap.size, 0, none⟩) := by rw [hσ5, zh (by decide)]; exact hI.f2
  have g3 : σ5 3 = .int .u32 ((n + 1 : Nat) : Int) := by rw [hσ5, zh (by decide)]; exact hI.f3
  rw [← hσ5]
  clear hσ5
  refine zd fun K2 hK2 => zeg (zd fun K3 hK3 => zj fun τ => ?_)
  simp +decide (disch := omega) only [bK, bE, Nat.reduceBeqDiff, Nat.reduceAdd, Nat.zero_add, g0]
  rw [zar (F.PReader_Uvarint hU).1.has]
  simp +decide (disch := omega) only [bK, bE, Nat.reduceBeqDiff, BEq.rfl]
  refine (zki B F hU w4 lo hi r s4 hr4).mono ?_
  rintro v w5 ⟨rfl, hr5, hm5⟩
  simp +decide (disch := omega) only [g0]
  rw [zar (F.PReader_Uvarint hU).1.has]
  simp +decide (disch := omega) only [bK, bE, Nat.reduceBeqDiff, BEq.rfl]
  refine (zki B F hU w5 lo hi r _ hr5).mono ?_
  rintro v w6 ⟨rfl, hr6, hm6⟩
  simp +decide (disch := omega) only []
  refine hK3 _ _ (zc fun σ6 hσ => ?_)
  have p0 := hσ 0
  have p1 := hσ 1
  have p2 := hσ 2
  have p3 := hσ 3
  have p5 := hσ 5
  have p6 := hσ 6
  simp +decide only [bE, Nat.reduceBeqDiff, BEq.rfl, Nat.reduceAdd, Nat.zero_add, g0, g1, g2, g3] at p0 p1 p2 p3 p5 p6
  clear hσ hK3 K3
  have hklt := zrv s4
  have hzlt := zrv (uvN s4).2
  refine zj fun τ => ?_
  have e1 : IntKind.i64.wrap ((uvN (uvN s4).2).1 : Int) = ((uvN (uvN s4).2).1 : Int) := wrap_i64 (by omega) (by omega)
  simp +decide (disch := omega) only [bK, bE, Nat.reduceBeqDiff, BEq.rfl, Nat.reduceAdd, Nat.zero_add, p0, p5, p6, zaq B.uint32 B.int ⟨_, rfl⟩, e1]
  rw [zan (F.PReader_Span hS).has]
  simp +decide (disch := omega) only [bK, bE, Nat.reduceBeqDiff, BEq.rfl]
  refine (zpf B F hS (n := ((uvN (uvN s4).2).1 : Int)) hr6).mono ?_
  rintro v w7 ⟨hb7, hr7, hm7⟩
  rw [zix (F.PTags_Set hSet).has]
  simp +decide (disch := omega) only [bK, bE, Nat.reduceBeqDiff, BEq.rfl, Nat.reduceAdd, p2]
  have hm47 : Mod w4 w7 (blk r) := (hm5.trans' hm6).trans' hm7
  have hs7 := hm47.size
  have hc7 : w7.cell? ⟨w1.heap.size, 0, none⟩ = some m := by rw [hm47.cell _ _ (by omega) (fun h => by have : w1.heap.size = r := h; omega)]; exact hc
  have htc7 : TagsC w7 (fun k => lo ≤ k ∧ k < hi) (w1.heap.size + 1) m l := by
   rcases htc with h | ⟨mm, es, ck, e1, h1, h2, h3, h4, h5, h6, h7, h8⟩
   ·exact .inl h
   ·refine .inr ⟨mm, es, ck, e1, h1, by omega, ?_, h4, h5, ?_, h7, h8⟩
    ·rw [hm47.block _ h2 (fun o h => by have : mm = r := h; omega)]; exact h3
    ·exact h6.mod hm47 fun k hk => ⟨by omega, fun o h => (hapr k hk.1 hk.2).2 h, hk⟩
  have hv7 : tagV w7 (fun k => lo ≤ k ∧ k < hi) v (zed ((uvN (uvN s4).2).1 : Int) (uvN (uvN s4).2).2) := by
   rcases hb7 with ⟨h0, h1, h2⟩ | ⟨b, o, c, h0, h1, h2, h3, h4⟩
   ·exact .inl ⟨h2, h1⟩
   ·exact .inr ⟨b, o, c, h1, h2, h3, h4⟩
  refine (call_Set B F hSet hT (c := w1.heap.size + 1) hc7 (hm47.there (by omega) hI.t2) htc7 (by omega) (by omega) (fun i hi => by omega) hv7 hklt).mono ?_
  rintro _ w8 ⟨m', hc8, hone8, htc8, hm8⟩
  have hs8 := hm8.size
  refine zc (K := fun σ' w' => inB 1 (zfr K2 _) .normal σ' w') fun σ8 hσ => hK2 _ _ ?_
  have q0 := hσ 0
  have q1 := hσ 1
  have q2 := hσ 2
  have q3 := hσ 3
  simp +decide only [bE, Nat.reduceBeqDiff, Nat.reduceAdd, Nat.zero_add, p0, p1, p2, p3] at q0 q1 q2 q3
  clear hσ hK2 K2
  refine zj fun τ => ?_
  have hw : IntKind.u32.wrap (((n + 1 : Nat) : Int) - 1) = (n : Int) := by
   have := hI.lt
   rw [show (((n + 1 : Nat) : Int) - 1) = ((n : Nat) : Int) by omega]
   exact zgr n (by omega)
  simp +decide (disch := omega) only [bK, bE, BEq.rfl, Nat.reduceAdd, q3, hw, zk, zao, locs_envOf]
  have hm48 : Mod w4 w8 (fun i _ => i = r ∨ w1.heap.size ≤ i) := hm47.trans hm8 fun i o _ h => h.elim (fun h => .inl h) fun h => .inr (by omega)
  refine ⟨n, by omega, by rw [zh (by decide)]; exact q0, by rw [zh (by decide)]; exact q1, by rw [zh (by decide)]; exact q2, upd_same _ _ _, by have := hI.lt; omega,
   ⟨_, _, m', hr7.mod hm8 (fun o h => by omega) (fun k o h1 h2 h => by omega), hrest, hc8, hone8, htc8⟩, hm48.there (by omega) hI.t1, hm48.there (by omega) hI.t2, ?_, hI.mod.trans' hm48, by omega⟩
  rw [hm48.cell _ _ (by omega) (fun h => by omega)]
  exact hI.c1
end
def dEq : TypeDesc → TypeDesc → Bool
 | .int a, .int b => decide (a = b)
 | .bool, .bool => true
 | .string, .string => true
 | .slice a, .slice b => Nat.beq a b
 | .pointer a, .pointer b => Nat.beq a b
 | .map a b, .map c d => Nat.beq a c && Nat.beq b d
 | .array a b, .array c d => Nat.beq a c && Nat.beq b d
 | _, _ => false
theorem dEq_ok {a b : TypeDesc} (h : dEq a b = true) : a = b := by
 cases a <;> cases b <;> simp_all [dEq]
def vEq1 : Value → Value → Bool
 | .int a n, .int b m => decide (a = b) && decide (n = m)
 | .bool a, .bool b => a == b
 | .string a, .string b => decide (a.data = #[]) && decide (b.data = #[])
 | .slice none 0 0, .slice none 0 0 => true
 | .pointer none, .pointer none => true
 | .map none, .map none => true
 | .nilIface, .nilIface => true
 | _, _ => false
theorem vEq1_ok {a b : Value} (h : vEq1 a b = true) : a = b := by
 unfold vEq1 at h
 split at h
 ·simp at h; rw [h.1, h.2]
 ·simp at h; rw [h]
 ·rename_i a b
  simp at h
  obtain ⟨a⟩ := a
  obtain ⟨b⟩ := b
  simp at h
  rw [h.1, h.2]
 ·rfl
 ·rfl
 ·rfl
 ·rfl
 ·cases h
def vEqL : List Value → List Value → Bool
 | [], [] => true
 | a :: l, b :: m => vEq1 a b && vEqL l m
 | _, _ => false
theorem vEqL_ok : ∀ {l m : List Value}, vEqL l m = true → l = m
 | [], [], _ => rfl
 | a :: l, b :: m, h => by
  simp only [vEqL, Bool.and_eq_true] at h
  rw [vEq1_ok h.1, vEqL_ok h.2]
 | [], _ :: _, h => by simp [vEqL] at h
 | _ :: _, [], h => by simp [vEqL] at h
def vEq : Value → Value → Bool
 | .agg a, .agg b => vEqL a.toList b.toList
 | a, b => vEq1 a b
theorem vEq_ok {a b : Value} (h : vEq a b = true) : a = b := by
 unfold vEq at h
 split at h
 ·have := vEqL_ok h
  rw [Array.toList_inj] at this
  rw [this]
 ·exact vEq1_ok h
def infoB (P : Program) (t : TypeId) (sz by' : Nat) (z : Value) : Bool :=
 match P.info? t with
 | some i => Nat.beq i.size sz && Nat.beq i.bytes by' && (match i.zero with | some z' => vEq z' z | none => false)
 | none => false
theorem zro {P : Program} {t : TypeId} {sz by' : Nat} {z : Value} (h : infoB P t sz by' z = true) : ∃ i, P.info? t = some i ∧ i.size = sz ∧ i.bytes = by' ∧ i.zero = some z := by
 unfold infoB at h
 split at h
 ·rename_i i hi
  simp only [Bool.and_eq_true] at h
  obtain ⟨⟨h1, h2⟩, h3⟩ := h
  refine ⟨i, hi, by simpa using h1, by simpa using h2, ?_⟩
  split at h3
  ·rename_i z' hz; rw [hz, vEq_ok h3]
  ·cases h3
 ·cases h
def tiB (P : Program) (t : TypeId) (d : TypeDesc) (sz by' : Nat) (z : Value) : Bool :=
 (match P.underlying t with | some d' => dEq d' d | none => false) && infoB P t sz by' z
theorem zij {P : Program} {t : TypeId} {d : TypeDesc} {sz by' : Nat} {z : Value} (h : tiB P t d sz by' z = true) : TI P t d sz by' z := by
 unfold tiB at h
 rw [Bool.and_eq_true] at h
 refine ⟨?_, zro h.2⟩
 have h1 := h.1
 split at h1
 ·rename_i d' hd; rw [hd, dEq_ok h1]
 ·cases h1
def tsB (P : Program) (t : TypeId) (sz by' : Nat) (z : Value) : Bool :=
 (match P.underlying t with | some (.struct _) => true | _ => false) && infoB P t sz by' z
theorem tsB_ok {P : Program} {t : TypeId} {sz by' : Nat} {z : Value} (h : tsB P t sz by' z = true) : ∃ fs, TI P t (.struct fs) sz by' z := by
 unfold tsB at h
 rw [Bool.and_eq_true] at h
 have h1 := h.1
 split at h1
 ·rename_i fs hfs; exact ⟨fs, hfs, zro h.2⟩
 ·cases h1
def hfB (P : Program) (t : TypeId) (k off : Nat) : Bool :=
 match P.underlying t with
 | some (.struct fs) => (match fs[k]? with
  | some f => Nat.beq f.offset off && (match P.info? f.type with | some i => !Nat.beq i.size 0 | none => false)
  | none => false)
 | _ => false
theorem zun {P : Program} {t : TypeId} {k off : Nat} (h : hfB P t k off = true) : HF P t k off := by
 unfold hfB at h
 split at h
 ·rename_i fs hfs
  split at h
  ·rename_i f hf
   rw [Bool.and_eq_true] at h
   have h2 := h.2
   split at h2
   ·rename_i i hi
    exact ⟨fs, f, i, hfs, hf, by simpa using h.1, hi, fun e => by rw [e] at h2; cases h2⟩
   ·cases h2
  ·cases h
 ·cases h
def placesB (P : Program) (t : TypeId) (l : List (Nat × Nat)) : Bool :=
 match P.underlying t with
 | some (.struct fs) => (match fs.toList.mapM (fun f => (P.info? f.type).map fun i => (f.offset, i.size)) with
  | some l' => decide (l' = l)
  | none => false)
 | _ => false
def sfB (P : Program) (t : TypeId) (places : List (Nat × Nat)) (by' : Nat) (z : List Value) : Bool := tsB P t z.length by' (.agg z.toArray) && placesB P t places
theorem sfB_ok {P : Program} {t : TypeId} {places : List (Nat × Nat)} {by' : Nat} {z : List Value} (h : sfB P t places by' z = true) : SF P t places by' z := by
 unfold sfB at h
 rw [Bool.and_eq_true] at h
 obtain ⟨fs, ht⟩ := tsB_ok h.1
 refine ⟨fs, ht, ?_⟩
 have h2 := h.2
 unfold placesB at h2
 rw [ht.und] at h2
 simp only at h2
 split at h2
 ·rename_i l' hl; rw [hl]; simpa using h2
 ·cases h2
def ifB (n : Nat) (b : Bool) : Bool := Nat.beq n 0 || b
theorem zxp {n : Nat} {b : Bool} (h : ifB n b = true) (hn : n ≠ 0) : b = true := by
 unfold ifB at h
 rw [Bool.or_eq_true] at h
 rcases h with h | h
 ·exact absurd (by simpa using h) hn
 ·exact h
def errB (P : Program) (t : TypeId) : Bool := (match P.underlying t with | some (.interface _) => true | _ => false) && infoB P t 1 16 .nilIface
theorem errB_ok {P : Program} {t : TypeId} (h : errB P t = true) : ∃ ms, TI P t (.interface ms) 1 16 .nilIface := by
 unfold errB at h
 rw [Bool.and_eq_true] at h
 have h1 := h.1
 split at h1
 ·rename_i fs hfs; exact ⟨fs, hfs, zro h.2⟩
 ·cases h1
def bigB (P : Program) (t : TypeId) : Bool := (match P.underlying t with | some (.struct fs) => decide (fs.size = 0) | _ => false) && infoB P t 0 0 (.agg #[])
theorem bigB_ok {P : Program} {t : TypeId} (h : bigB P t = true) : TI P t (.struct #[]) 0 0 (.agg #[]) := by
 unfold bigB at h
 rw [Bool.and_eq_true] at h
 have h1 := h.1
 split at h1
 ·rename_i fs hfs
  have : fs = #[] := Array.eq_empty_of_size_eq_zero (by simpa using h1)
  subst this
  exact ⟨hfs, zro h.2⟩
 ·cases h1
def base1B (P : Program) (N : Nums) : Bool :=
 tiB P N.zwv (.int .i8) 1 1 (.int .i8 0) && (tiB P N.zbp (.int .i16) 1 2 (.int .i16 0) && (tiB P N.zcg (.int .i32) 1 4 (.int .i32 0) && (tiB P N.zde (.int .i64) 1 8 (.int .i64 0) && (tiB P N.ze (.int .i64) 1 8 (.int .i64 0) &&
 (tiB P N.zg (.int .u8) 1 1 (.int .u8 0) && (tiB P N.zes (.int .u16) 1 2 (.int .u16 0) && (tiB P N.zb (.int .u32) 1 4 (.int .u32 0) && (tiB P N.zaa (.int .u64) 1 8 (.int .u64 0) && tiB P N.zav .bool 1 1 (.bool false)))))))))
def base2B (P : Program) (N : Nums) : Bool :=
 tiB P N.zai .string 1 16 (.string ⟨#[]⟩) && (tiB P N.za (.slice N.zg) 1 24 (.slice none 0 0) && (bigB P N.zbj && (errB P N.zhi && (sfB P N.zq [(0, 1), (1, 1)] 32 [.slice none 0 0, .bool false] && (hfB P N.zq 0 0 && (hfB P N.zq 1 1 &&
 (ifB N.zu (tiB P N.zu (.array 16 N.zg) 16 16 (.agg (Array.replicate 16 (.int .u8 0)))) && (ifB N.zbm (tiB P N.zbm (.pointer N.zai) 1 8 (.pointer none)) &&
 (ifB N.zdf (tsB P N.zdf 1 8 (.agg #[.map none])) && (ifB N.zdf (hfB P N.zdf 0 0) && ifB N.zdf (tiB P N.zp (.map N.zb N.za) 1 8 (.map none))))))))))))
theorem base_ok {P : Program} {N : Nums} (hm : P.follows .mixedOrders = true) (h1 : base1B P N = true) (h2 : base2B P N = true) : Base P N := by
 unfold base1B at h1
 unfold base2B at h2
 simp only [Bool.and_eq_true] at h1 h2
 obtain ⟨a1, a2, a3, a4, a5, a6, a7, a8, a9, a10⟩ := h1
 obtain ⟨b1, b2, b3, b4, b5, b6, b7, b8, b9, b10, b11, b12⟩ := h2
 exact { mixed := hm, int8 := zij a1, int16 := zij a2, int32 := zij a3, int64 := zij a4, int := zij a5, uint8 := zij a6, uint16 := zij a7, uint32 := zij a8, uint64 := zij a9, bool := zij a10, string := zij b1, Lu8 := zij b2, big := bigB_ok b3, error := .inr (errB_ok b4), reader := sfB_ok b5, reader0 := zun b6, reader1 := zun b7, uuid := fun h => zij (zxp b8 h), pstring := fun h => zij (zxp b9 h), tags := fun h => ⟨tsB_ok (zxp b10 h), zun (zxp b11 h), zij (zxp b12 h)⟩ }
def dB (k : PK) : Option Value → Bool
 | none => true
 | some d => k != .uuid && d.oneCell'
def lenB (N : Nums) (fx : Bool) : Bool := !Nat.beq N.zcl 0 && !Nat.beq N.zex 0 && !Nat.beq N.zbd 0 && (!fx || !Nat.beq N.zbn 0)
def prB (N : Nums) (k : PK) : Bool := !Nat.beq (k.f N) 0 && (k != .uuid || !Nat.beq N.zu 0)
def txB (N : Nums) (fx : Bool) (k : Txt) : Bool := (k.fns N fx).all (fun f => !Nat.beq f 0) && (k != .nstr || !Nat.beq N.zbm 0)
def bytesOf (P : Program) (t : TypeId) : Nat := match P.info? t with | some i => i.bytes | none => 0
section
variable (P : Program) (N : Nums) (fx : Bool)
mutual
def Ty.okB : Ty → Bool
 | .pr k d => prB N k && dB k d
 | .txt k => txB N fx k
 | .arr st _ e => tiB P st (.slice (e.ty N)) 1 24 (.slice none 0 0) && (lenB N fx && e.okB)
 | _ => false
def El.okB : El → Bool
 | .pr k => prB N k
 | .txt k => txB N fx k
 | .row T _ _ fs => tsB P T fs.sz (bytesOf P T) (.agg fs.zero.toArray) && (Nat.ble (bytesOf P T) 131072 && (Nat.blt 0 fs.sz && fs.okB T 0 0))
def Fds.okB (Tt : TypeId) : Fds → Nat → Nat → Bool
 | .nil, _, _ => true
 | .tags, idx, off => fx && (hfB P Tt idx off && (!Nat.beq N.zdf 0 && !Nat.beq N.zdg 0))
 | .cons _ t r, idx, off => hfB P Tt idx off && (t.okB && r.okB Tt (idx + 1) (off + t.sz))
end
end
section
variable (P : Program) (N : Nums)
mutual
def Ty.dfs : Ty → Prop
 | .arr _ _ e => e.dfs
 | _ => True
def El.dfs : El → Prop
 | .row T _ f fs => FOk P f 1 (seqs (fs.dfl N T 0)) [] ∧ fs.dfs
 | _ => True
def Fds.dfs : Fds → Prop
 | .cons _ t r => t.dfs ∧ r.dfs
 | _ => True
end
end
theorem nbeq {n : Nat} (h : (!Nat.beq n 0) = true) : n ≠ 0 := fun e => by rw [e] at h; cases h
section
variable {P : Program} {N : Nums} {fx : Bool}
theorem prB_ok {k : PK} (h : prB N k = true) : k.f N ≠ 0 ∧ (k = .uuid → N.zu ≠ 0) := by
 unfold prB at h
 rw [Bool.and_eq_true, Bool.or_eq_true] at h
 refine ⟨nbeq h.1, fun e => ?_⟩
 rcases h.2 with h2 | h2
 ·subst e; simp at h2
 ·exact nbeq h2
theorem txB_ok {k : Txt} (h : txB N fx k = true) : (∀ f ∈ k.fns N fx, f ≠ 0) ∧ (k = .nstr → N.zbm ≠ 0) := by
 unfold txB at h
 rw [Bool.and_eq_true, Bool.or_eq_true, List.all_eq_true] at h
 refine ⟨fun f hf => nbeq (h.1 f hf), fun e => ?_⟩
 rcases h.2 with h2 | h2
 ·subst e; simp at h2
 ·exact nbeq h2
theorem dB_ok {k : PK} {d : Option Value} (h : dB k d = true) : (d.getD k.zero).cells.toList.length = k.sz ∧ ∀ x, d = some x → k ≠ .uuid ∧ x.oneCell' = true := by
 cases d with
 | none => exact ⟨zhj k, fun x hx => by cases hx⟩
 | some d =>
  simp only [dB, Bool.and_eq_true, bne_iff_ne, ne_eq] at h
  refine ⟨?_, fun x hx => by cases hx; exact h⟩
  simp only [Option.getD_some]
  rw [zet h.2, pk_sz h.1]; rfl
theorem pk_bytes (B : Base P N) {k : PK} (hu : k = .uuid → N.zu ≠ 0) : ∃ d by', TI P (k.t N) d k.sz by' k.zero ∧ by' ≤ 131072 := by
 cases k with
 | bool => exact ⟨_, _, B.bool, by decide⟩
 | i8 => exact ⟨_, _, B.int8, by decide⟩
 | i16 => exact ⟨_, _, B.int16, by decide⟩
 | u16 => exact ⟨_, _, B.uint16, by decide⟩
 | i32 => exact ⟨_, _, B.int32, by decide⟩
 | i64 => exact ⟨_, _, B.int64, by decide⟩
 | uuid => exact ⟨_, _, B.uuid (hu rfl), by decide⟩
theorem tx_bytes (B : Base P N) {k : Txt} (hp : k = .nstr → N.zbm ≠ 0) : ∃ d by', TI P (k.t N) d 1 by' k.zero ∧ by' ≤ 131072 := by
 cases k with
 | str => exact ⟨_, _, B.string, by decide⟩
 | nstr => exact ⟨_, _, B.pstring (hp rfl), by decide⟩
 | byt => exact ⟨_, _, B.Lu8, by decide⟩
 | nbyt => exact ⟨_, _, B.Lu8, by decide⟩
def ElT (P : Program) (N : Nums) (e : El) : Prop := (∃ d by' z, TI P (e.ty N) d e.sz by' z ∧ z.cells.toList = e.zero ∧ by' ≤ 131072) ∧ 0 < e.sz ∧ e.zero.length = e.sz
mutual
theorem Ty.ok_of (B : Base P N) (F : Fns P N) : ∀ (t : Ty), t.okB P N fx = true → t.dfs P N → TyOk P N fx t ∧ t.dok
 | .pr k d, h, _ => by
  simp only [Ty.okB, Bool.and_eq_true] at h
  obtain ⟨h1, h2⟩ := prB_ok h.1
  exact ⟨tyOk_pr B F h1 h2 (dB_ok h.2).1, (dB_ok h.2).1⟩
 | .txt k, h, _ => by
  simp only [Ty.okB] at h
  obtain ⟨h1, h2⟩ := txB_ok h
  exact ⟨tyOk_txt B F h1 h2, trivial⟩
 | .arr st nul e, h, hd => by
  simp only [Ty.okB, Bool.and_eq_true, lenB, Bool.or_eq_true] at h
  obtain ⟨h1, ⟨⟨⟨⟨l1, l2⟩, l3⟩, l4⟩, h3⟩⟩ := h
  obtain ⟨he, ht, hs, hz⟩ := El.ok_of B F e h3 hd
  refine ⟨tyOk_arr B F nul ⟨zij h1, ht, hs, hz, nbeq l1, nbeq l2, nbeq l3⟩ (fun e => ?_) he, trivial⟩
  rcases l4 with l4 | l4
  ·rw [e] at l4; cases l4
  ·exact nbeq l4
 | .row .., h, _ => by simp only [Ty.okB] at h; cases h
theorem El.ok_of (B : Base P N) (F : Fns P N) : ∀ (e : El), e.okB P N fx = true → e.dfs P N → ElOk P N fx e ∧ ElT P N e
 | .pr k, h, _ => by
  simp only [El.okB] at h
  obtain ⟨h1, h2⟩ := prB_ok h
  obtain ⟨d, by', ht, hb⟩ := pk_bytes B h2
  exact ⟨elOk_pr B F h1 h2 (zhj k), ⟨d, by', _, ht, rfl, hb⟩, by cases k <;> decide, zhj k⟩
 | .txt k, h, _ => by
  simp only [El.okB] at h
  obtain ⟨h1, h2⟩ := txB_ok h
  obtain ⟨d, by', ht, hb⟩ := tx_bytes B h2
  exact ⟨elOk_txt B F h1 h2, ⟨d, by', _, ht, by cases k <;> rfl, hb⟩, Nat.one_pos, rfl⟩
 | .row T pT f fs, h, hd => by
  simp only [El.okB, Bool.and_eq_true] at h
  obtain ⟨h1, h2, h3, h4⟩ := h
  obtain ⟨fs', ht⟩ := tsB_ok h1
  obtain ⟨g1, g2, g3, g4⟩ := Fds.ok_of B F fs h4 hd.2
  have hdf := dfOk B hd.1 g4 g2
  exact ⟨elOk_row ht hdf g1 g2, ⟨_, _, _, ht, by simp [Value.cells, El.zero], by simpa using h2⟩, by simpa [El.sz] using h3, Fds.zero_length fs⟩
theorem Fds.ok_of (B : Base P N) (F : Fns P N) : ∀ (fs : Fds) {Tt : TypeId} {idx off : Nat}, fs.okB P N fx Tt idx off = true → fs.dfs P N → zys P N fx fs ∧ fs.hf P Tt idx off ∧ fs.dok ∧ fs.plain
 | .nil, _, _, _, _, _ => ⟨fdsOk_nil, trivial, trivial, trivial⟩
 | .tags, Tt, idx, off, h, _ => by
  simp only [Fds.okB, Bool.and_eq_true] at h
  obtain ⟨h1, h2, h3, h4⟩ := h
  subst h1
  exact ⟨fdsOk_tags B (nbeq h3) (tagsOk B F (nbeq h4) (nbeq h3)), zun h2, trivial, trivial⟩
 | .cons g t r, Tt, idx, off, h, hd => by
  simp only [Fds.okB, Bool.and_eq_true] at h
  obtain ⟨h1, h2, h3⟩ := h
  obtain ⟨g1, g2⟩ := Ty.ok_of B F t h2 hd.1
  obtain ⟨k1, k2, k3, k4⟩ := Fds.ok_of B F r h3 hd.2
  refine ⟨fdsOk_cons g1 g2 k1, ⟨zun h1, k2⟩, ⟨g2, k3⟩, ?_⟩
  cases t with
  | pr k d =>
   cases d with
   | none => exact k4
   | some d =>
    simp only [Ty.okB, Bool.and_eq_true] at h2
    obtain ⟨a, b⟩ := (dB_ok h2.2).2 d rfl
    exact ⟨a, b, k4⟩
  | txt k => exact k4
  | arr st nul e => exact k4
  | row T' pT f fs => simp only [Ty.okB] at h2; cases h2
end
theorem msgT_of (B : Base P N) (F : Fns P N) {m : Msg} (h : m.fs.okB P N fx m.tT 1 1 = true) (h0 : hfB P m.tT 0 0 = true) (hc : (!Nat.beq N.zbd 0) = true) (hd : m.fs.dfs P N) (hD : FOk P m.dflt 1 (seqs (m.fs.dfl N m.tT 1)) []) : MsgT P N m fx := by
 obtain ⟨k1, k2, k3, k4⟩ := Fds.ok_of B F m.fs h hd
 exact ⟨k2, zun h0, k4, hD, k1, nbeq hc⟩
end
def anyC (P : Program) (Cw : World → Prop) (l : List ROp) (rd : Nat → Bool) (K : Env → World → Prop) : Nat → List Nat → Env → World → Prop
 | 0, _, ρ, w => K ρ w
 | f + 1, C, ρ, w => ∀ i, readyP l C i → zcn P (l.getD i default) ρ w fun ρ w => (zra l rd i = true ∨ Cw w) ∧ anyC P Cw l rd K f (C.erase i) ρ w
def pairB2 (l : List ROp) (rd : Nat → Bool) (i j : Nat) : Bool :=
 match (l.getD i default).dst with
 | none => true
 | some d =>
  if i == j then !(zgj (l.getD j default)).contains d
  else (match (l.getD j default).dst with | some d' => !(Nat.beq d' d) | none => true) &&
   (!(zgj (l.getD j default)).contains d || ((l.getD j default).after.contains i && (!rd j || rd i)))
def zsk (l : List ROp) (rd : Nat → Bool) : Bool :=
 ztw l && l.all (fun r => !isSel r.op) && (List.range l.length).all fun i => (List.range l.length).all fun j => pairB2 l rd i j
section
variable {P : Program} {l : List ROp} {rd : Nat → Bool}
theorem zxj (h : zsk l rd = true) {i : Nat} (hi : i < l.length) : isSel (l.getD i default).op = false := by
 unfold zsk at h
 simp only [Bool.and_eq_true, List.all_eq_true] at h
 have := h.1.2 l[i] (List.getElem_mem hi)
 simpa [List.getD, hi] using this
theorem zpv (h : zsk l rd = true) : ztw l = true := by
 unfold zsk at h
 simp only [Bool.and_eq_true] at h
 exact h.1.1
theorem zzi (h : zsk l rd = true) {i j d : Nat} (hi : i < l.length) (hj : j < l.length) (hd : (l.getD i default).dst = some d) :
  (i = j → d ∉ zgj (l.getD j default)) ∧ (i ≠ j → (l.getD j default).dst ≠ some d ∧ (d ∈ zgj (l.getD j default) → i ∈ (l.getD j default).after ∧ (rd j = true → rd i = true))) := by
 have h1 : pairB2 l rd i j = true := by
  unfold zsk at h
  rw [Bool.and_eq_true, List.all_eq_true] at h
  have h1 := h.2 i (List.mem_range.2 hi)
  rw [List.all_eq_true] at h1
  exact h1 j (List.mem_range.2 hj)
 unfold pairB2 at h1
 rw [hd] at h1
 simp only at h1
 refine ⟨fun e => ?_, fun e => ?_⟩
 ·have : (i == j) = true := by simpa using e
  rw [this] at h1; simpa using h1
 ·have : (i == j) = false := by simpa using e
  rw [this] at h1
  simp only [Bool.false_eq_true, if_false, Bool.and_eq_true] at h1
  refine ⟨fun hc => ?_, fun hm => ?_⟩
  ·rw [hc] at h1; simp at h1
  ·have h2 := h1.2
   simp only [Bool.or_eq_true, Bool.not_eq_true', List.contains_eq_mem, decide_eq_true_eq, Bool.and_eq_true, decide_eq_false_iff_not] at h2
   rcases h2 with h2 | h2
   ·exact absurd hm h2
   ·refine ⟨h2.1, fun hr => ?_⟩
    rcases h2.2 with h3 | h3
    ·rw [hr] at h3; cases h3
    ·exact h3
theorem zod (hp : zsk l rd = true) {Cw : World → Prop} {K : Env → Prop} : ∀ (is : List Nat) (ρ : Env), is.Pairwise (· < ·) → (∀ i ∈ is, i < l.length) → zjd P Cw l rd K is ρ →
  ∃ ρ1, K ρ1 ∧ (∀ t, (∀ i ∈ is, rd i = true → (l.getD i default).dst ≠ some t) → ρ1 t = ρ t) ∧
   ∀ i ∈ is, rd i = true → ∃ v, (∀ d, (l.getD i default).dst = some d → ρ1 d = v) ∧ ∀ w, Cw w → zkw P (l.getD i default) ρ1 w v
 | [], ρ, _, _, h => ⟨ρ, h, fun _ _ => rfl, fun _ hi => by cases hi⟩
 | i :: is, ρ, hs, hlt, h => by
  have hs' := List.pairwise_cons.1 hs
  have hi := hlt i (by simp)
  have hlt' : ∀ j ∈ is, j < l.length := fun j hj => hlt j (by simp [hj])
  unfold zjd at h
  by_cases hr : rd i = true
  ·rw [if_pos hr] at h
   obtain ⟨v, hy, h⟩ := h
   obtain ⟨ρ1, hK, hrest, hall⟩ := zod hp is _ hs'.2 hlt' h
   refine ⟨ρ1, hK, fun t ht => ?_, fun j hj hrj => ?_⟩
   ·rw [hrest t fun j hj hrj => ht j (by simp [hj]) hrj]
    have := ht i (by simp) hr
    cases hd : (l.getD i default).dst with
    | none => rfl
    | some d =>
     simp only [put]
     rw [if_neg (fun e => this (by rw [hd, e]))]
   ·rcases List.mem_cons.1 hj with rfl | hj'
    ·have hval : ∀ d, (l.getD j default).dst = some d → ρ1 d = v := fun d hd => by
      rw [hrest d fun k hk hrk hdk => by
       have hne : j ≠ k := by have := hs'.1 k hk; omega
       exact ((zzi hp hi (hlt' k hk) hd ).2 hne).1 hdk]
      rw [hd]; simp [put]
     refine ⟨v, hval, fun w hw => zio (zxj hp hi) (fun t ht => ?_) (hy w hw)⟩
     have hnd : (l.getD j default).dst ≠ some t := fun hd => (zzi hp hi hi hd ).1 rfl ht
     rw [hrest t fun k hk hrk hdk => by
      have hk' := hlt' k hk
      have hne : k ≠ j := by have := hs'.1 k hk; omega
      have := ((zzi hp hk' hi hdk).2 hne).2 ht
      have := zks (zpv hp) hi this.1
      have := hs'.1 k hk; omega]
     cases hd : (l.getD j default).dst with
     | none => rfl
     | some d =>
      simp only [put]
      rw [if_neg (fun e => hnd (by rw [hd, e]))]
    ·exact hall j hj' hrj
  ·rw [if_neg hr] at h
   obtain ⟨ρ1, hK, hrest, hall⟩ := zod hp is _ hs'.2 hlt' h
   refine ⟨ρ1, hK, fun t ht => hrest t fun j hj hrj => ht j (by simp [hj]) hrj, fun j hj hrj => ?_⟩
   rcases List.mem_cons.1 hj with rfl | hj'
   ·exact absurd hrj hr
   ·exact hall j hj' hrj
theorem zwh (hp : zsk l rd = true) {Cw : World → Prop} {K : Env → World → Prop} {ρ1 : Env}
  (hread : ∀ i, i < l.length → rd i = true → ∃ v, (∀ d, (l.getD i default).dst = some d → ρ1 d = v) ∧ ∀ w, Cw w → zkw P (l.getD i default) ρ1 w v) :
  ∀ (f : Nat) (pend : List Nat) (ρ : Env) (w : World), pend.length = f → pend.Pairwise (· < ·) → (∀ i ∈ pend, i < l.length) →
   (∀ j, j < l.length → j ∉ pend → ∀ e ∈ (l.getD j default).after, e ∉ pend) →
   (∀ t, (∀ j, j < l.length → j ∉ pend → rd j = false → (l.getD j default).dst ≠ some t) → zfo l rd ρ1 pend ρ t = ρ1 t) →
   ((∃ i ∈ pend, rd i = true) → Cw w) →
   anyC P Cw l rd K (pend.filter fun i => !rd i).length (pend.filter fun i => !rd i) (zfo l rd ρ1 pend ρ) w → anyP P l K f pend ρ w := by
 intro f
 induction f with
 | zero =>
  intro pend ρ w hf _ _ _ _ _ hc
  have hnil : pend = [] := List.length_eq_zero_iff.1 hf
  subst hnil
  have : zfo l rd ρ1 [] ρ = ρ := funext fun t => zdj (fun i hi => by cases hi)
  rw [this] at hc
  exact hc
 | succ f ih =>
  intro pend ρ w hf hs hlt hcl hinv hCw hc i hready
  obtain ⟨hi, hall⟩ := hready
  have hil := hlt i hi
  have hnd : pend.Nodup := hs.imp (fun h => Nat.ne_of_lt h)
  have hlook : ∀ t ∈ zgj (l.getD i default), zfo l rd ρ1 pend ρ t = ρ t := fun t ht => zdj fun k hk hrk hdk => by
   have hkl := hlt k hk
   by_cases hki : k = i
   ·subst hki; exact (zzi hp hkl hkl hdk).1 rfl ht
   ·exact hall k (((zzi hp hkl hil hdk).2 hki).2 ht).1 hk
  have hsel := zxj hp hil
  have hs' : (pend.erase i).Pairwise (· < ·) := hs.sublist List.erase_sublist
  have hlt' : ∀ j ∈ pend.erase i, j < l.length := fun j hj => hlt j (List.mem_of_mem_erase hj)
  have hlen' : (pend.erase i).length = f := by rw [List.length_erase_of_mem hi]; omega
  have hmem : ∀ j, j ∈ pend.erase i ↔ j ≠ i ∧ j ∈ pend := fun j => hnd.mem_erase_iff
  have hcl' : ∀ j, j < l.length → j ∉ pend.erase i → ∀ e ∈ (l.getD j default).after, e ∉ pend.erase i := fun j hj hjp e he hep => by
   have hep' := (hmem e).1 hep
   by_cases hji : j = i
   ·subst hji; exact hall e he hep'.2
   ·exact hcl j hj (fun h => hjp ((hmem j).2 ⟨hji, h⟩)) e he hep'.2
  by_cases hr : rd i = true
  ·
   obtain ⟨v, hv, hy⟩ := hread i hil hr
   have heq : ∀ t ∈ zgj (l.getD i default), ρ1 t = ρ t := fun t ht => by
    rw [← hlook t ht]
    refine (hinv t fun j hj hjp hrj hdj => ?_).symm
    by_cases hji : j = i
    ·subst hji; rw [hr] at hrj; cases hrj
    ·have := (((zzi hp hj hil hdj).2 hji).2 ht).2 hr
     rw [hrj] at this; cases this
   have hy' := zio hsel heq (hy w (hCw ⟨i, hi, hr⟩))
   have hfill : zfo l rd ρ1 (pend.erase i) (put ρ (l.getD i default).dst v) = zfo l rd ρ1 pend ρ := by
    funext t
    by_cases ht : ∃ k ∈ pend.erase i, rd k = true ∧ (l.getD k default).dst = some t
    ·obtain ⟨k, hk, hrk, hdk⟩ := ht
     rw [zfe hk hrk hdk, zfe ((hmem k).1 hk).2 hrk hdk]
    ·rw [zdj fun k hk hrk hdk => ht ⟨k, hk, hrk, hdk⟩]
     cases hd : (l.getD i default).dst with
     | none =>
      simp only [put]
      exact (zdj fun k hk hrk hdk => by
       by_cases hki : k = i
       ·subst hki; rw [hd] at hdk; cases hdk
       ·exact ht ⟨k, (hmem k).2 ⟨hki, hk⟩, hrk, hdk⟩).symm
     | some d =>
      simp only [put]
      by_cases htd : t = d
      ·subst htd
       rw [if_pos rfl, zfe hi hr hd, hv t hd]
      ·rw [if_neg htd]
       exact (zdj fun k hk hrk hdk => by
        by_cases hki : k = i
        ·subst hki; rw [hd] at hdk; exact htd (Option.some.inj hdk).symm
        ·exact ht ⟨k, (hmem k).2 ⟨hki, hk⟩, hrk, hdk⟩).symm
   have hfil : (pend.erase i).filter (fun j => !rd j) = pend.filter fun j => !rd j := by
    rw [hnd.erase_eq_filter, List.filter_filter]
    refine List.filter_congr fun j hj => ?_
    by_cases hji : j = i
    ·subst hji; simp [hr]
    ·simp [hji]
   have hgo : anyP P l K f (pend.erase i) (put ρ (l.getD i default).dst v) w := by
    refine ih _ _ _ hlen' hs' hlt' hcl' (fun t ht => ?_) (fun ⟨k, hk, hrk⟩ => hCw ⟨k, ((hmem k).1 hk).2, hrk⟩) (by rw [hfil, hfill]; exact hc)
    ·rw [hfill]
     refine hinv t fun j hj hjp hrj => ht j hj (fun h => hjp ((hmem j).1 h).2) hrj
   unfold zcn
   rcases hy' with ⟨hw, hrun⟩ | ⟨hw, rfl⟩
   ·rw [if_pos hw, hrun]; exact hgo
   ·rw [if_neg (by rw [hw]; simp)]; exact hgo
  ·
   have hr' : rd i = false := by simpa using hr
   have hiC : i ∈ pend.filter fun j => !rd j := List.mem_filter.2 ⟨hi, by simp [hr']⟩
   have hfil : (pend.erase i).filter (fun j => !rd j) = (pend.filter fun j => !rd j).erase i := by
    have hndC : (pend.filter fun j => !rd j).Nodup := hnd.sublist List.filter_sublist
    rw [hnd.erase_eq_filter, hndC.erase_eq_filter, List.filter_filter, List.filter_filter]
    refine List.filter_congr fun j _ => Bool.and_comm _ _
   have hlenC : (pend.filter fun j => !rd j).length = ((pend.filter fun j => !rd j).erase i).length + 1 := by
    have := List.length_erase_of_mem hiC
    have := List.length_pos_of_mem hiC
    omega
   rw [hlenC] at hc
   have hc := hc i ⟨hiC, fun e he hec => hall e he (List.mem_filter.1 hec).1⟩
   have hown : ∀ k ∈ pend.erase i, rd k = true → ∀ d, (l.getD i default).dst = some d → (l.getD k default).dst ≠ some d := fun k hk hrk d hd hdk => by
    have hkl := hlt' k hk
    exact ((zzi hp hil hkl hd).2 (fun e => ((hmem k).1 hk).1 e.symm)).1 hdk
   have hfill : ∀ v, zfo l rd ρ1 (pend.erase i) (put ρ (l.getD i default).dst v) = put (zfo l rd ρ1 pend ρ) (l.getD i default).dst v := by
    intro v
    have hsame : ∀ t, (l.getD i default).dst ≠ some t → zfo l rd ρ1 (pend.erase i) (put ρ (l.getD i default).dst v) t = zfo l rd ρ1 pend ρ t := by
     intro t hti
     by_cases ht : ∃ k ∈ pend.erase i, rd k = true ∧ (l.getD k default).dst = some t
     ·obtain ⟨k, hk, hrk, hdk⟩ := ht
      rw [zfe hk hrk hdk, zfe ((hmem k).1 hk).2 hrk hdk]
     ·rw [zdj fun k hk hrk hdk => ht ⟨k, hk, hrk, hdk⟩]
      rw [zdj (pend := pend) fun k hk hrk hdk => by
       by_cases hki : k = i
       ·subst hki; rw [hr'] at hrk; cases hrk
       ·exact ht ⟨k, (hmem k).2 ⟨hki, hk⟩, hrk, hdk⟩]
      cases hd : (l.getD i default).dst with
      | none => rfl
      | some d =>
       simp only [put]
       rw [if_neg (fun e => hti (by rw [hd, e]))]
    funext t
    by_cases hti : (l.getD i default).dst = some t
    ·rw [zdj fun k hk hrk => hown k hk hrk t hti, hti]
     simp [put]
    ·rw [hsame t hti]
     cases hd : (l.getD i default).dst with
     | none => rfl
     | some d =>
      simp only [put]
      rw [if_neg (fun e => hti (by rw [hd, e]))]
   have hgo : ∀ v w', ((zra l rd i = true ∨ Cw w') ∧ anyC P Cw l rd K ((pend.filter fun j => !rd j).erase i).length ((pend.filter fun j => !rd j).erase i) (put (zfo l rd ρ1 pend ρ) (l.getD i default).dst v) w') → anyP P l K f (pend.erase i) (put ρ (l.getD i default).dst v) w' := by
    rintro v w' ⟨hlast, hch⟩
    refine ih _ _ _ hlen' hs' hlt' hcl' (fun t ht => ?_) (fun ⟨k, hk, hrk⟩ => ?_) (by rw [hfil, hfill]; exact hch)
    ·rw [hfill]
     have hti := ht i hil (fun h => ((hmem i).1 h).1 rfl) hr'
     have h1 : put (zfo l rd ρ1 pend ρ) (l.getD i default).dst v t = zfo l rd ρ1 pend ρ t := by
      cases hd : (l.getD i default).dst with
      | none => rfl
      | some d => simp only [put]; rw [if_neg (fun e => hti (by rw [hd, e]))]
     rw [h1]
     exact hinv t fun j hj hjp hrj => ht j hj (fun h => hjp ((hmem j).1 h).2) hrj
    ·rcases hlast with hlast | hcw
     ·unfold zra at hlast
      rw [List.all_eq_true] at hlast
      have := hlast k (List.mem_range.2 (hlt' k hk))
      simp only [hrk, Bool.not_true, Bool.false_or] at this
      exact absurd ((hmem k).1 hk).2 (zpr (zpv hp) hcl _ i k hil hall this)
     ·exact hcw
   have hexec : exec (zfo l rd ρ1 pend ρ) (l.getD i default) = exec ρ (l.getD i default) := zqb hsel hlook
   have hwant : zef (zfo l rd ρ1 pend ρ) (l.getD i default).guard = zef ρ (l.getD i default).guard := zky hlook
   unfold zcn at hc ⊢
   rw [hexec, hwant] at hc
   by_cases hw : zef ρ (l.getD i default).guard = true
   ·rw [if_pos hw] at hc ⊢
    exact upon_map hgo hc
   ·rw [if_neg hw] at hc ⊢
    exact hgo _ _ hc
theorem zzy (hp : zsk l rd = true) {Cw : World → Prop} {K : Env → World → Prop} {ρ : Env} {w : World} (hw : Cw w)
  (h : zjd P Cw l rd (fun ρ1 => anyC P Cw l rd K ((List.range l.length).filter fun i => !rd i).length ((List.range l.length).filter fun i => !rd i) ρ1 w) (List.range l.length) ρ) : anyP P l K l.length (List.range l.length) ρ w := by
 obtain ⟨ρ1, hK, hrest, hall⟩ := zod hp _ _ List.pairwise_lt_range (fun i hi => List.mem_range.1 hi) h
 have hfill : zfo l rd ρ1 (List.range l.length) ρ = ρ1 := by
  funext t
  by_cases ht : ∃ k ∈ List.range l.length, rd k = true ∧ (l.getD k default).dst = some t
  ·obtain ⟨k, hk, hrk, hdk⟩ := ht
   exact zfe hk hrk hdk
  ·rw [zdj fun k hk hrk hdk => ht ⟨k, hk, hrk, hdk⟩]
   exact (hrest t fun k hk hrk hdk => ht ⟨k, hk, hrk, hdk⟩).symm
 refine zwh hp (ρ1 := ρ1) (fun i hi hr => ?_) l.length _ ρ w (by simp) List.pairwise_lt_range (fun i hi => List.mem_range.1 hi) (fun j hj hjp => absurd (List.mem_range.2 hj) hjp)
  (fun t _ => by rw [hfill]) (fun _ => hw) (by rw [hfill]; exact hK)
 exact hall i (List.mem_range.2 hi) hr
def seqB (l : List ROp) : List Nat → Bool
 | [] => true
 | i :: C => C.all (fun j => (l.getD j default).after.any fun e => (i :: C).contains e) && seqB l C
theorem zpj {Cw : World → Prop} {K : Env → World → Prop} : ∀ (C : List Nat) (ρ : Env) (w : World), seqB l C = true → C.Nodup → (∀ j, C.getLast? = some j → zra l rd j = true) →
  znn P Cw K (C.map fun j => l.getD j default) ρ w → anyC P Cw l rd K C.length C ρ w
 | [], _, _, _, _, _, h => h
 | i :: C, ρ, w, hs, hnd, hlast, h => by
  simp only [seqB, Bool.and_eq_true, List.all_eq_true] at hs
  intro j hj
  have hji : j = i := by
   rcases List.mem_cons.1 hj.1 with e | he
   ·exact e
   ·have h1 := hs.1 j he
    rw [List.any_eq_true] at h1
    obtain ⟨e, he1, he2⟩ := h1
    exact absurd (by simpa using he2) (hj.2 e he1)
  subst hji
  rw [List.erase_cons_head]
  cases C with
  | nil =>
   refine ziy (fun ρ w hk => ⟨.inl (hlast j rfl), ?_⟩) h
   exact hk
  | cons k C =>
   refine ziy (fun ρ w hk => ⟨.inr hk.1, ?_⟩) h
   exact zpj (k :: C) ρ w hs.2 (List.nodup_cons.1 hnd).2 (fun j' h' => hlast j' (by simpa using h')) hk.2
end
def restI (l : List ROp) (rd : List Bool) : List Nat := (List.range l.length).filter fun i => !rdOf rd i
theorem W_drawC {P : Program} {loc : List Nat} {N : Nat} {Q : Exit → Env → World → Prop} {σ : Env} {w : World} {l : List ROp} (hm : P.follows .mixedOrders = true) (rd : List Bool) (hl : rd.length = l.length) (hp : zsk l (rdOf rd) = true) (Cw : World → Prop) (hw : Cw w.drew)
  (h : ∀ τ, zhu P Cw (fun ρ1 => anyC P Cw l (rdOf rd) (fun ρ w => Q .normal (locs ρ) w) (restI l rd).length (restI l rd) ρ1 w.drew) (l.zip rd) (znf σ τ)) : W P loc N (.draw l) Q σ w := by
 have hzl : (l.zip rd).length = l.length := by simp [hl]
 have hz : ∀ i p, (l.zip rd)[i]? = some p → l.getD (0 + i) default = p.1 ∧ rdOf rd (0 + i) = p.2 := by
  intro i p hi
  rw [List.getElem?_zip_eq_some] at hi
  simp [List.getD, rdOf, hi.1, hi.2]
 refine W_draw hm (zpv hp) fun τ => zzy hp (Cw := Cw) hw ?_
 have e : List.range l.length = List.range' 0 (l.zip rd).length := by rw [hzl, List.range_eq_range']
 have h2 := zkz (P := P) (Cw := Cw) (l := l) (rd := rdOf rd) (l.zip rd) 0 _ hz (h τ)
 rw [← e] at h2
 exact h2
def planM (l : List ROp) (rd : List Bool) : Bool :=
 Nat.beq rd.length l.length && zsk l (rdOf rd) && seqB l (restI l rd) && (match (restI l rd).getLast? with
  | some j => zra l (rdOf rd) j
  | none => true)
theorem W_drawM {P : Program} {loc : List Nat} {N : Nat} {Q : Exit → Env → World → Prop} {σ : Env} {w : World} {l : List ROp} (hm : P.follows .mixedOrders = true) (rd : List Bool) (hB : planM l rd = true) (Cw : World → Prop) (hw : Cw w.drew)
  (h : ∀ τ, zhu P Cw (fun ρ1 => znn P Cw (fun ρ w => Q .normal (locs ρ) w) (zho l rd) ρ1 w.drew) (l.zip rd) (znf σ τ)) : W P loc N (.draw l) Q σ w := by
 unfold planM at hB
 rw [Bool.and_eq_true, Bool.and_eq_true, Bool.and_eq_true] at hB
 obtain ⟨⟨⟨hl, hp⟩, hs⟩, hlast⟩ := hB
 have hl : rd.length = l.length := by simpa using hl
 have hz : ∀ i p, (l.zip rd)[i]? = some p → l.getD (0 + i) default = p.1 ∧ rdOf rd (0 + i) = p.2 := by
  intro i p hi
  rw [List.getElem?_zip_eq_some] at hi
  simp [List.getD, rdOf, hi.1, hi.2]
 have hcs := zna (l := l) (rd := rdOf rd) (l.zip rd) 0 hz
 rw [show (l.zip rd).length = l.length by simp [hl], ← List.range_eq_range'] at hcs
 refine W_drawC hm rd hl hp Cw hw fun τ => ?_
 have mono : ∀ (r : List (ROp × Bool)) (ρ : Env) (K K' : Env → Prop), (∀ ρ, K ρ → K' ρ) → zhu P Cw K r ρ → zhu P Cw K' r ρ := by
  intro r
  induction r with
  | nil => intro ρ K K' hk h; exact hk _ h
  | cons p r ih =>
   intro ρ K K' hk h
   obtain ⟨o, b⟩ := p
   cases b with
   | true => obtain ⟨v, hv, h⟩ := h; exact ⟨v, hv, ih _ _ _ hk h⟩
   | false => exact ih _ _ _ hk h
 refine mono _ _ _ _ (fun ρ1 hc => ?_) (h τ)
 refine zpj _ _ _ hs (List.nodup_range.sublist List.filter_sublist) (fun j hj => ?_) ?_
 ·rw [hj] at hlast; exact hlast
 ·have e : (restI l rd).map (fun j => l.getD j default) = zho l rd := hcs
  rw [e]; exact hc
section
variable {P : Program} {N : Nums} {loc : List Nat} {N' : Nat} {Q : Exit → Env → World → Prop} {σ : Env} {w : World}
def zqx (N : Nums) (i l c k : Nat) (body : C) : C :=
 .block k (.loop (.seq (.ops [⟨some (c + 100), .binOp .lss N.ze (V i) (V l) N.ze, 0, none, []⟩]) (.seq (.cond c .skip (.exit k)) (.seq (.block (k + 1) body)
  (.ops [⟨some 0, .binOp .add N.ze (V i) (.const (.int .i64 1)) N.ze, 0, none, []⟩, ⟨some (i + 100), .move (T 0), 0, none, []⟩])))))
theorem zwl (hlo : zfv loc N') {i l c k L : Nat} {body : C} (hL : L < 4611686018427387904) (I : Nat → Env → World → Prop)
  (hI : ∀ j σ w, I j σ w → σ i = .int .i64 j ∧ σ l = .int .i64 L ∧ j ≤ L) (hc : ∀ j σ w b, I j σ w → I j (upd σ c (.bool b)) w)
  (h0 : I 0 σ w) (hend : ∀ σ w, I L σ w → Q .normal σ w)
  (hb : ∀ j σ w, j < L → I j σ w → W P loc N' body (fun e σ' w' => match e with
   | .normal => σ' i = .int .i64 j ∧ I (j + 1) (upd σ' i (.int .i64 ((j + 1 : Nat) : Int))) w'
   | .ret => Q .ret σ' w'
   | _ => False) σ w) : W P loc N' (zqx N i l c k body) Q σ w := by
 unfold zqx
 refine zeg (zpk (fun m σ w => ∃ j, m = L - j ∧ I j σ w) (n := L) ⟨0, by omega, h0⟩ ?_)
 rintro m σ1 w1 ⟨j, rfl, hj⟩
 obtain ⟨f1, f2, f3⟩ := hI j σ1 w1 hj
 refine zd fun K hK => zj fun τ => ?_
 simp +decide (disch := omega) only [bK, bE, f1, f2, zk, locs_envOf]
 refine hK _ _ ?_
 clear hK K
 refine zd fun K hK => W_if hlo (upd_same _ _ _) ?_
 by_cases hlt : (j : Int) < L
 ·rw [decide_eq_true hlt, if_pos rfl]
  refine zbe (hK _ _ ?_)
  clear hK K
  have hj2 := hc j σ1 w1 true hj
  refine zd fun K hK => zeg (zin (hb j _ w1 (by omega) hj2) ?_)
  rintro e σ2 w2 hq
  cases e with
  | normal =>
   obtain ⟨g1, g2⟩ := hq
   refine hK _ _ (zj fun τ => ?_)
   have hw : IntKind.i64.wrap ((j : Int) + 1) = (((j + 1 : Nat) : Int)) := by
    rw [show ((j : Int) + 1) = ((j + 1 : Nat) : Int) by omega]
    exact wrap_i64 (by omega) (by omega)
   simp +decide (disch := omega) only [bK, bE, BEq.rfl, g1, hw, zk, zao, locs_envOf]
   exact ⟨L - (j + 1), by omega, j + 1, rfl, g2⟩
  | ret => exact hq
  | _ => exact hq.elim
 ·rw [decide_eq_false hlt, if_neg (by simp)]
  refine znt ?_
  simp only [zfr, inB, if_true]
  have hjL : j = L := by omega
  subst hjL
  exact hend _ _ (hc _ _ _ _ hj)
end
theorem zls {P : Program} {w : World} {K : Env → Prop} : ∀ (r : List ROp) (ρ : Env), (∀ o ∈ r, zou o.op = true) → zik P w K r ρ → zhu P (· = w) K (r.map fun o => (o, true)) ρ
 | [], _, _, h => h
 | o :: r, ρ, hp, h => by
  obtain ⟨v, w', hor, hw', hs⟩ := zue (hp o (by simp)) h
  refine ⟨v, fun w1 e => ?_, zls r _ (fun o ho => hp o (by simp [ho])) hs⟩
  subst e
  rcases hor with ⟨ha, hb⟩ | ⟨ha, hb, _⟩
  ·left; refine ⟨ha, ?_⟩; rw [hb, hw']
  ·right; exact ⟨ha, hb⟩
def stillB (l : List ROp) : Bool := planM l (l.map fun _ => true) && l.all fun o => zou o.op
theorem zxv (l : List ROp) : zho l (l.map fun _ => true) = [] := by
 unfold zho
 have : (l.zip (l.map fun _ => true)).filter (fun p => !p.2) = [] := by
  rw [List.filter_eq_nil_iff]
  intro p hp
  have := (List.of_mem_zip hp).2
  rw [List.mem_map] at this
  obtain ⟨_, _, e⟩ := this
  simp [← e]
 rw [this]; rfl
theorem zip_true (l : List ROp) : l.zip (l.map fun _ => true) = l.map fun o => (o, true) := by
 induction l with
 | nil => rfl
 | cons o l ih => simp only [List.map_cons, List.zip_cons_cons, ih]
theorem zwk {P : Program} {loc : List Nat} {N : Nat} {Q : Exit → Env → World → Prop} {σ : Env} {w : World} {l : List ROp} (hm : P.follows .mixedOrders = true) (hB : stillB l = true)
  (h : ∀ τ, zik P w.drew (fun ρ => Q .normal (locs ρ) w.drew) l (znf σ τ)) : W P loc N (.draw l) Q σ w := by
 unfold stillB at hB
 rw [Bool.and_eq_true, List.all_eq_true] at hB
 refine W_drawM hm (l.map fun _ => true) hB.1 (· = w.drew) rfl fun τ => ?_
 rw [zip_true, zxv]
 exact zls l _ hB.2 (h τ)
section
variable {P : Program} {N : Nums}
theorem zam {w w' : World} (h : Mod w w' zad) {b o : Nat} {cs : List Value} (hr : w.rangeAt b o cs) : w'.rangeAt b o cs := fun j v hj => by
 have h1 := hr j v hj
 rw [h.cell b (o + j) (zfj (by rw [h1]; rfl)) (fun h => h)]
 exact h1
end
inductive Tr where
 | mk (n : Int) (s : List UInt8) (nl : Bool) (l : List Tr) (u : List (Nat × List UInt8))
def UsG (w : World) (G : Nat → Prop) : List (Nat × List UInt8) → List Value → Prop
 | [], cs => cs = []
 | (k, l) :: r, cs => ∃ v rest, cs = .int .u32 k :: v :: rest ∧ tagV w G v l ∧ UsG w G r rest
def RepU (w : World) (G : Nat → Prop) (v : Value) (u : List (Nat × List UInt8)) : Prop :=
 (v = .slice none 0 0 ∧ u = []) ∨ ∃ b c cs, v = .slice (some ⟨b, 0, none⟩) u.length c ∧ u.length ≤ c ∧ (u ≠ [] → G b) ∧ UsG w G u cs ∧ w.rangeAt b 0 cs
mutual
def RepT (w : World) (G : Nat → Prop) : Tr → List Value → Prop
 | .mk n s nl l u, cs => ∃ vs vl vu, cs = [.int .i64 n, vs, .bool nl, vl, vu] ∧ tagV w G vs s ∧
   ((vl = .slice none 0 0 ∧ l = []) ∨ ∃ b c css, vl = .slice (some ⟨b, 0, none⟩) l.length c ∧ l.length ≤ c ∧ (l ≠ [] → G b) ∧ zaac w G l css ∧ w.rangeAt b 0 css.flatten) ∧ RepU w G vu u
def zaac (w : World) (G : Nat → Prop) : List Tr → List (List Value) → Prop
 | [], css => css = []
 | t :: l, css => ∃ c r, css = c :: r ∧ RepT w G t c ∧ zaac w G l r
end
theorem zld {w : World} {b n : Nat} : ∀ {css : List (List Value)} {o j : Nat} {c : List Value}, w.rangeAt b o css.flatten → (∀ x ∈ css, x.length = n) → css[j]? = some c → w.rangeAt b (o + j * n) c
 | [], o, j, c, _, _, hj => by simp at hj
 | x :: css, o, 0, c, h, hn, hj => by
  simp at hj; subst hj
  rw [List.flatten_cons, zae] at h
  simpa using h.1
 | x :: css, o, j + 1, c, h, hn, hj => by
  rw [List.flatten_cons, zae] at h
  have := zld (j := j) h.2 (fun y hy => hn y (by simp [hy])) (by simpa using hj)
  rw [hn x (by simp)] at this
  rwa [show o + n + j * n = o + (j + 1) * n by rw [Nat.succ_mul]; omega] at this
structure zrd (P : Program) (N : Nums) (tt tg lt lg : TypeId) : Prop where
 tree : SF P tt [(0, 1), (1, 1), (2, 1), (3, 1), (4, 1)] 88 [.int .i64 0, .slice none 0 0, .bool false, .slice none 0 0, .slice none 0 0]
 tag : SF P tg [(0, 1), (1, 1)] 32 [.int .u32 0, .slice none 0 0]
 h0 : HF P tt 0 0
 h1 : HF P tt 1 1
 h2 : HF P tt 2 2
 h3 : HF P tt 3 3
 h4 : HF P tt 4 4
 g0 : HF P tg 0 0
 g1 : HF P tg 1 1
 lt : TI P lt (.slice tt) 1 24 (.slice none 0 0)
 lg : TI P lg (.slice tg) 1 24 (.slice none 0 0)
section
variable {P : Program} {N : Nums}
theorem zoc {P : Program} {K : Env → World → Prop} : ∀ (a b : List ROp) (ρ : Env) (w : World), runR P a ρ w (fun ρ w => runR P b ρ w K) → runR P (a ++ b) ρ w K
 | [], _, _, _, h => h
 | o :: a, b, ρ, w, h => by
  show zcn P o ρ w fun ρ w => runR P (a ++ b) ρ w K
  exact ziy (fun ρ w hk => zoc a b ρ w hk) h
end
section
variable {P : Program} {N : Nums}
end
section
variable {P : Program} {N : Nums}
end
section
variable {P : Program} {N : Nums}
end
def Own (w : World) (lo sz : Nat) (v : Value) (n : Nat) (cs : List Value) : Prop :=
 (v = .slice none 0 0 ∧ n = 0 ∧ cs = []) ∨ ∃ b c, v = .slice (some ⟨b, 0, none⟩) n c ∧ lo ≤ b ∧ b < w.heap.size ∧ n ≤ c ∧ w.there b 0 (c * sz) ∧ w.rangeAt b 0 cs ∧ cs.length = n * sz
def zby (v : Value) (k : Nat) : Prop := ∀ b o s n c, v = .slice (some ⟨b, o, s⟩) n c → k ≠ b
section
variable {P : Program} {N : Nums}
theorem zsg {st et ty : TypeId} {a b sz by' : Nat} {z z' : Value} {d : TypeDesc} (hS : TI P st (.slice et) a b z') (ht : TI P et d sz by' z) {w : World} {lo n bs cb m : Nat} {v : Value} {cs new : List Value} (ho : Own w lo sz v n cs)
  (hn : w.rangeAt bs 0 new) (hnl : new.length = m * sz) (h1 : ∀ c ∈ new, c.oneCell' = true) (hlo : lo ≤ w.heap.size) (hz : z.cells.size = sz) (hold : ∀ c ∈ cs, c.oneCell' = true)
  (hbig : n + m < 1099511627776) (hby : by' ≤ 128) (hm : 0 < m) :
  ∃ v' w', (Builtin.append_ #[st, st] ty #[v, .slice (some ⟨bs, 0, none⟩) m cb]).run P w = .ok v' w' ∧ Own w' lo sz v' (n + m) (cs ++ new) ∧ Mod w w' (fun i _ => ¬ zby v i) ∧ v'.oneCell' = true ∧ (∀ k, k < w.heap.size → zby v k → zby v' k) := by
 obtain ⟨i, hi, hsz, hbytes, hzero⟩ := ht.info
 subst hsz
 have hsrc : Src P i.size st (.slice (some ⟨bs, 0, none⟩) m cb) m new w := Src.ofSlice w hS.und ⟨bs, 0, none⟩ m cb new hnl (fun j u hj => by rw [Addr.add_mid]; exact hn j u hj) h1
 have fits : ∀ c, c < n + m → Builtin.nextslicecap (n + m) c * i.bytes ≤ 281474976710656 := by
  intro c hc
  have h1 := nextslicecap_le hc
  have h2 : Builtin.nextslicecap (n + m) c * i.bytes ≤ (2 * (n + m)) * 128 := Nat.mul_le_mul h1 (by omega)
  omega
 have grown : ∀ (base : Option Addr) (c : Nat), v = .slice base n c → c < n + m → (Builtin.firstCells i.size n (.slice base n c)).run P w.drew = .ok cs.toArray w.drew → cs.length = n * i.size →
   ∃ v' w', (Builtin.append_ #[st, st] ty #[v, .slice (some ⟨bs, 0, none⟩) m cb]).run P w = .ok v' w' ∧ Own w' lo i.size v' (n + m) (cs ++ new) ∧ Mod w w' (fun i _ => ¬ zby v i) ∧ v'.oneCell' = true ∧ (∀ k, k < w.heap.size → zby v k → zby v' k) := by
  intro base c hv hc hold' hcl
  have hrun := run_append_grow_src (P := P) w st st ty et i z hS.und hi hzero base n c cs hold' (.slice (some ⟨bs, 0, none⟩) m cb) m new hsrc hc (by omega) (fits c hc)
  refine ⟨_, _, by rw [hv]; exact hrun, .inr ⟨w.heap.size, _, rfl, hlo, by rw [zau]; exact Nat.lt_succ_self _, grownCap_ge w (n + m) c et, ?_, ?_, by rw [List.length_append, hcl, hnl, Nat.add_mul]⟩, (Mod.drew w _).trans' (Mod.alloc _ _ _), rfl, fun k hk _ b o s n c e => by injection e with e1 _ _; injection e1 with e2; injection e2 with e3; omega⟩
  ·have ht2 := zbz w.drew ((cs ++ new).toArray ++ Builtin.zeroCells z.cells (grownCap w (n + m) c et - (n + m))) et
   intro j hj
   refine ht2 j ?_
   have hzc : (Builtin.zeroCells z.cells (grownCap w (n + m) c et - (n + m))).size = (grownCap w (n + m) c et - (n + m)) * i.size := by simp [Builtin.zeroCells, hz]
   rw [Array.size_append, hzc, List.size_toArray, List.length_append, hcl, hnl, ← Nat.add_mul, ← Nat.add_mul]
   have hge := grownCap_ge w (n + m) c et
   rwa [show n + m + (grownCap w (n + m) c et - (n + m)) = grownCap w (n + m) c et by omega]
  ·have hr := zz w.drew ((cs ++ new).toArray ++ Builtin.zeroCells z.cells (grownCap w (n + m) c et - (n + m))) et (0, 0)
   exact (zae.1 (by simpa using hr)).1
 rcases ho with ⟨hv, hn0, hcs⟩ | ⟨b, c, hv, hb1, hb2, hnc, hth, hrg, hcl⟩
 ·subst hcs
  exact grown none 0 (by rw [hv, hn0]) (by omega) (by rw [hn0]; rfl) (by rw [hn0]; simp)
 ·by_cases hroom : n + m ≤ c
  ·have hle : n * i.size + new.length ≤ c * i.size := by
    rw [hnl, ← Nat.add_mul]; exact Nat.mul_le_mul_right _ hroom
   have hrun := run_append_room_src (P := P) w st st ty et i hS.und hi b 0 n c (.slice (some ⟨bs, 0, none⟩) m cb) m new hsrc hroom (fun j hj => by
    have := (hth (n * i.size + j) (by omega)).1; simpa [Nat.add_assoc] using this) (fun j hj => by
    have := (hth (n * i.size + j) (by omega)).2; simpa [Nat.add_assoc] using this)
   have ms : Mod w (w.setCells b (0 + n * i.size) new) (rng b (0 + n * i.size) new.length) := Mod.setCells _ _ _ fun _ k h1 h2 => ⟨rfl, h1, h2⟩
   refine ⟨_, _, by rw [hv]; exact hrun, .inr ⟨b, c, rfl, hb1, Nat.lt_of_lt_of_le hb2 ms.size, hroom, ms.there hb2 hth, ?_, by rw [List.length_append, hcl, hnl, Nat.add_mul]⟩, ms.mono (fun k o _ h hn => hn b 0 none n c hv h.1), rfl, fun k hk hn b' o' s' n' c' e => by
    injection e with e1 _ _; injection e1 with e2; injection e2 with e3; subst e3; exact hn b 0 none n c hv⟩
   rw [zae]
   refine ⟨ms.rangeAt hb2 (fun k h1 h2 h => by have := h.2.1; omega) hrg, ?_⟩
   rw [hcl]
   have hset : ∀ (l : List Value) (o : Nat) (w : World), (∀ j, j < l.length → (w.cell? ⟨b, o + j, none⟩).isSome = true) → (w.setCells b o l).rangeAt b o l := by
    intro l o w hl
    have hex : ∃ old : List Value, old.length = l.length ∧ w.rangeAt b o old := by
     refine ⟨(List.range l.length).map fun j => (w.cell? ⟨b, o + j, none⟩).getD undef, by simp, fun j v hj => ?_⟩
     rw [List.getElem?_map] at hj
     cases hr : (List.range l.length)[j]? with
     | none => rw [hr] at hj; simp at hj
     | some k =>
      rw [hr] at hj
      have hk : k = j := by
       have := List.getElem?_eq_some_iff.1 hr
       obtain ⟨h1, h2⟩ := this
       simpa using h2.symm
      subst hk
      have hlt : k < l.length := by have := (List.getElem?_eq_some_iff.1 hr).1; simpa using this
      have hs := hl k hlt
      simp only [Option.map_some, Option.some.injEq] at hj
      cases hc : w.cell? ⟨b, o + k, none⟩ with
      | none => rw [hc] at hs; cases hs
      | some x => rw [hc] at hj; simp at hj; rw [hj]
    obtain ⟨old, ho1, ho2⟩ := hex
    have := zaw l o w old ho2 (by omega)
    rwa [List.drop_of_length_le (by omega), List.append_nil] at this
   exact hset new _ w (fun j hj => by have := (hth (n * i.size + j) (by omega)).1; simpa [Nat.add_assoc] using this)
  ·have hfc : (Builtin.firstCells i.size n (.slice (some ⟨b, 0, none⟩) n c)).run P w.drew = .ok cs.toArray w.drew :=
    run_firstCells_some w.drew i.size n ⟨b, 0, none⟩ n c cs hcl (fun j u hj => by rw [Addr.add_mid]; exact hrg j u hj)
   exact grown (some ⟨b, 0, none⟩) c hv (by omega) hfc hcl
end
theorem zpx : ∀ (l : List Value) (k : Nat) (arr : Array Value), k + l.length ≤ arr.size →
  ((l.zipIdx k).foldl (fun cs (x : Value × Nat) => cs.setIfInBounds x.2 x.1) arr).toList = arr.toList.take k ++ l ++ arr.toList.drop (k + l.length)
 | [], k, arr, _ => by simp
 | v :: l, k, arr, h => by
  simp only [List.length_cons] at h
  rw [List.zipIdx_cons, List.foldl_cons, zpx l (k + 1) _ (by simp; omega)]
  simp only [Array.toList_setIfInBounds, List.length_cons]
  have hk : k < arr.toList.length := by simp; omega
  rw [List.set_eq_take_append_cons_drop, if_pos hk]
  have e1 : (arr.toList.take k ++ v :: arr.toList.drop (k + 1)).take (k + 1) = arr.toList.take k ++ [v] := by
   rw [List.take_append, List.length_take, Nat.min_eq_left (by omega)]
   rw [List.take_of_length_le (by simp; omega)]
   simp
  have e2 : (arr.toList.take k ++ v :: arr.toList.drop (k + 1)).drop (k + 1 + l.length) = arr.toList.drop (k + (l.length + 1)) := by
   rw [List.drop_append, List.length_take, Nat.min_eq_left (by omega)]
   rw [List.drop_of_length_le (by simp; omega)]
   simp only [List.nil_append]
   rw [show k + 1 + l.length - k = l.length + 1 by omega, List.drop_succ_cons, List.drop_drop]
   congr 1; omega
  rw [e1, e2]
  simp
section
variable {P : Program}
theorem zvq {st et : TypeId} {a b sz by' : Nat} {z z' : Value} {d : TypeDesc} (hS : TI P st (.slice et) a b z') (ht : TI P et d sz by' z) {w : World} {v : Value} {cs : List Value} (hv : v.cells = cs.toArray) (hl : cs.length = sz) (h0 : 0 < sz) (hsz : sz ≤ 16777216) :
  (Instr.buildSlice st 1 #[(0, v)]).run P w = .ok (.slice (some ⟨w.heap.size, 0, none⟩) 1 1) (w.alloc (.cells cs.toArray et)) := by
 obtain ⟨i, hi, h1, h2, h3⟩ := ht.info
 refine run_buildSlice w st et 1 _ cs.toArray i z hS.und hi h3 (by omega) (by omega) ?_
 have hsz2 : ((Array.range (1 * i.size)).map (z.cells[· % z.cells.size]!)).size = sz := by simp [h1]
 have hv2 : v.cells.size = sz := by rw [hv]; simpa using hl
 simp only [Instr.fill, h1, hv2, Nat.zero_mul, Nat.zero_add]
 rw [if_neg (by simp [h1] at hsz2 ⊢)]
 congr 1
 apply Array.ext'
 have := zpx cs 0 ((Array.range (1 * i.size)).map (z.cells[· % z.cells.size]!)) (by rw [hsz2]; omega)
 rw [h1] at this
 rw [hv]
 have e : cs.toArray.zipIdx = (cs.zipIdx 0).toArray := by simp
 rw [e, List.foldl_toArray]
 rw [this]
 simp
 omega
end
theorem zfa {b : Nat} : ∀ (vs : List Value) (o : Nat) (w : World), (w.setCells b o vs).heap.size = w.heap.size
 | [], _, _ => rfl
 | v :: vs, o, w => by
  show ((w.setCell ⟨b, o, none⟩ v).setCells b (o + 1) vs).heap.size = _
  rw [zfa vs (o + 1)]
  simp [World.setCell]
section
variable {P : Program} {N : Nums}
def zT : List Value := [.int .i64 0, .slice none 0 0, .bool false, .slice none 0 0, .slice none 0 0]
def zU : List Value := [.int .u32 0, .slice none 0 0]
theorem zrd.ti {tt tg lt lg : TypeId} (h : zrd P N tt tg lt lg) : ∃ fs, TI P tt (.struct fs) 5 88 (.agg zT.toArray) := by
 obtain ⟨fs, h, _⟩ := h.tree.out
 exact ⟨fs, h⟩
theorem zrd.tu {tt tg lt lg : TypeId} (h : zrd P N tt tg lt lg) : ∃ fs, TI P tg (.struct fs) 2 32 (.agg zU.toArray) := by
 obtain ⟨fs, h, _⟩ := h.tag.out
 exact ⟨fs, h⟩
theorem Own.stay {w w' : World} {M : Nat → Nat → Prop} (h : Mod w w' M) {lo sz n : Nat} {v : Value} {cs : List Value} (hM : ∀ k o, ¬ zby v k → ¬ M k o) (ho : Own w lo sz v n cs) : Own w' lo sz v n cs := by
 rcases ho with ho | ⟨b, c, e, h1, h2, h3, h4, h5, h6⟩
 ·exact .inl ho
 ·have hb : ¬ zby v b := fun hn => hn b 0 none n c e rfl
  exact .inr ⟨b, c, e, h1, Nat.lt_of_lt_of_le h2 h.size, h3, h.there h2 h4, h.rangeAt h2 (fun i _ _ => hM b i hb) h5, h6⟩
theorem Own.blk {w : World} {lo sz n : Nat} {v : Value} {cs : List Value} (ho : Own w lo sz v n cs) {k : Nat} (hk : ¬ zby v k) : lo ≤ k ∧ k < w.heap.size := by
 rcases ho with ⟨e, _, _⟩ | ⟨b, c, e, h1, h2, _⟩
 ·exact absurd (fun b o s n c e' => by rw [e] at e'; cases e') hk
 ·by_cases hkb : k = b
  ·subst hkb; exact ⟨h1, h2⟩
  ·refine absurd (fun b' o' s' n' c' e' => ?_) hk
   rw [e] at e'
   injection e' with e1 _ _; injection e1 with e2; injection e2 with e3
   intro hh; exact hkb (hh.trans e3.symm)
end
section
variable {P : Program} {N : Nums}
end
section
variable {P : Program} {N : Nums}
end
section
variable {P : Program} {N : Nums}
theorem UsG.mono {w : World} {G G' : Nat → Prop} (hG : ∀ k, G k → G' k) : ∀ {u : List (Nat × List UInt8)} {cs : List Value}, UsG w G u cs → UsG w G' u cs
 | [], _, hu => hu
 | (k, l) :: r, _, ⟨v, rest, h1, h2, h3⟩ => ⟨v, rest, h1, h2.imp (fun x => ⟨x.1, x.2.mono hG⟩) (fun x => x.mono hG), UsG.mono hG h3⟩
theorem RepU.mono {w : World} {G G' : Nat → Prop} (hG : ∀ k, G k → G' k) {v : Value} {u : List (Nat × List UInt8)} (hu : RepU w G v u) : RepU w G' v u :=
 hu.imp id fun ⟨b, c, cs, h1, h2, h3, h4, h5⟩ => ⟨b, c, cs, h1, h2, fun h => hG b (h3 h), h4.mono hG, h5⟩
mutual
theorem RepT.mono {w : World} {G G' : Nat → Prop} (hG : ∀ k, G k → G' k) : ∀ (t : Tr) {cs : List Value}, RepT w G t cs → RepT w G' t cs
 | .mk n s nl l u, _, ⟨vs, vl, vu, h1, h2, h3, h4⟩ => ⟨vs, vl, vu, h1, h2.imp (fun x => ⟨x.1, x.2.mono hG⟩) (fun x => x.mono hG), h3.imp id fun ⟨b, c, css, g1, g2, g3, g4, g5⟩ => ⟨b, c, css, g1, g2, fun h => hG b (g3 h), zaac.mono hG l g4, g5⟩, h4.mono hG⟩
theorem zaac.mono {w : World} {G G' : Nat → Prop} (hG : ∀ k, G k → G' k) : ∀ (l : List Tr) {css : List (List Value)}, zaac w G l css → zaac w G' l css
 | [], _, hr => hr
 | t :: l, _, ⟨c, r, h1, h2, h3⟩ => ⟨c, r, h1, RepT.mono hG t h2, zaac.mono hG l h3⟩
end
end
def NB (a b : Nat) : Nat → Prop := fun k => a ≤ k ∧ k < b
section
variable {P : Program} {N : Nums}
theorem zob {st ty et : TypeId} {a b sz by' : Nat} {z z' : Value} {d : TypeDesc} (hS : TI P st (.slice et) a b z') (ht : TI P et d sz by' z) {w : World} {ad : Option Addr} {c : Nat} :
  (Builtin.append_ #[st, st] ty #[.slice none 0 0, .slice ad 0 c]).run P w = .ok (.slice none 0 0) w := by
 obtain ⟨i, hi, _, _, _⟩ := ht.info
 cases ad with
 | none => simp [Builtin.append_, run_underlying hS.und, sizeOf, typeInfo, hi, Builtin.lenOf, Builtin.firstCells]
 | some a =>
  have : (loadCells a 0).run P w = .ok #[] w := by
   have := run_loadCells_list (P := P) w a [] (fun j v hj => by simp at hj)
   simpa using this
  simp [Builtin.append_, run_underlying hS.und, sizeOf, typeInfo, hi, Builtin.lenOf, Builtin.firstCells, this]
theorem byteV_ones (l : List UInt8) : ∀ c ∈ l.map zy, c.oneCell' = true := fun c hc => by
 obtain ⟨x, _, rfl⟩ := List.mem_map.1 hc
 rfl
def zso (n : Int) (s : List UInt8) (nl : Bool) : Tr := .mk n s nl [] []
def Told (w : World) (t : Tr) (v : Value) (w' : World) : Prop := ∃ cs, v = .agg cs.toArray ∧ RepT w' (NB w.heap.size w'.heap.size) t cs ∧ Mod w w' zad
theorem ret_tree {tt tg lt lg : TypeId} (hT : zrd P N tt tg lt lg) {w1 : World} {b : Nat} {cs : List Value} (hr : w1.rangeAt b 0 cs) (hl : cs.length = 5) : (loadVar tt ⟨b, 0, none⟩).run P w1 = .ok (.agg cs.toArray) w1 := by
 obtain ⟨fs, h⟩ := hT.ti
 have hlv : ∀ (f : Array Field) (x : List Value), ldv (.struct f) x = .agg x.toArray := fun _ _ => rfl
 have hl2 := h.run_load (w := w1) (b := b) (o := 0) hr hl (fun h => by cases h)
 simpa [Instr.loadAt, Instr.sureAddr, Sem.run_bind, hlv] using hl2
theorem put_tree {tt tg lt lg : TypeId} (hT : zrd P N tt tg lt lg) {w : World} {b : Nat} {old cs : List Value} (hr : w.rangeAt b 0 old) (ho : old.length = 5) (ht : w.there b 0 5) (hl : cs.length = 5) (h1 : ∀ c ∈ cs, c.oneCell' = true) :
  ∃ w', (Instr.storeAt tt (.pointer (some ⟨b, 0, none⟩)) (.agg cs.toArray)).run P w = .ok () w' ∧ Mod w w' (blk b) ∧ w'.heap.size = w.heap.size ∧ w'.rangeAt b 0 cs ∧ w'.there b 0 5 := by
 obtain ⟨fs, h⟩ := hT.ti
 have m : Mod w (w.setCells b 0 cs) (blk b) := Mod.setCells cs 0 w fun _ _ _ _ => rfl
 refine ⟨_, h.run_store (w := w) (b := b) (o := 0) (v := .agg cs.toArray) (cs := cs) rfl hl ht h1, m, zfa _ _ _, ?_, m.there (zvc ht (by decide)) ht⟩
 have := zaw cs 0 w _ hr (by omega)
 rwa [List.drop_of_length_le (by omega), List.append_nil] at this
theorem build0 {tt tg lt lg : TypeId} (hT : zrd P N tt tg lt lg) (w : World) : (Instr.build tt #[]).run P w = .ok (.agg zT.toArray) w :=
 hT.tree.run_build (by simp [Instr.fill, zT])
end
section
variable {P : Program} {N : Nums}
theorem run_eqlP {t a : TypeId} (h : P.underlying t = some (.pointer a)) {x y : Operand} {m : Option Addr} {w : World} :
  (do eqGuard .eql t x y (.pointer m) (.pointer none); binOp .eql t (.pointer m) (.pointer none) : Sem Value).run P w = .ok (.bool m.isNone) w := by
 have e : (Op.equal t (.pointer m) (.pointer none)).run P w = .ok m.isNone w := by
  unfold Op.equal Op.maxDepth
  rw [show (10000 : Nat) = 9999 + 1 from rfl]
  unfold Op.equalIn
  rw [Sem.run_bind, run_underlying h, Result.andThen_ok]
  cases m <;> rfl
 have e1 : (eqGuard .eql t x y (.pointer m) (.pointer none)).run P w = .ok () w := rfl
 rw [Sem.run_bind, e1, Result.andThen_ok]
 show ((do pure (.bool (← Op.equal t (.pointer m) (.pointer none))) : Sem Value)).run P w = _
 rw [Sem.run_bind, e, Result.andThen_ok]
 rfl
theorem run_eqlS {t a : TypeId} (h : P.underlying t = some (.slice a)) {x y : Operand} {m : Option Addr} {n c : Nat} {w : World} :
  (do eqGuard .eql t x y (.slice m n c) (.slice none 0 0); binOp .eql t (.slice m n c) (.slice none 0 0) : Sem Value).run P w = .ok (.bool m.isNone) w := by
 have e : (Op.equal t (.slice m n c) (.slice none 0 0)).run P w = .ok m.isNone w := by
  unfold Op.equal Op.maxDepth
  rw [show (10000 : Nat) = 9999 + 1 from rfl]
  unfold Op.equalIn
  rw [Sem.run_bind, run_underlying h, Result.andThen_ok]
  cases m <;> rfl
 have e1 : (eqGuard .eql t x y (.slice m n c) (.slice none 0 0)).run P w = .ok () w := rfl
 rw [Sem.run_bind, e1, Result.andThen_ok]
 show ((do pure (.bool (← Op.equal t (.slice m n c) (.slice none 0 0))) : Sem Value)).run P w = _
 rw [Sem.run_bind, e, Result.andThen_ok]
 rfl
end
section
variable {P : Program} {N : Nums}
end
section
variable {P : Program} {N : Nums}
theorem call_less (B : Base P N) (F : Fns P N) (hN : N.zda ≠ 0) {st : TI P N.zbf (.slice N.zb) 1 24 (.slice none 0 0)} {w : World} {bv blk n c : Nat} (hv : w.cell? ⟨bv, 0, none⟩ = some (.slice (some ⟨blk, 0, none⟩) n c)) {g : Nat → Int}
  (hc : ∀ t, t < n → w.cell? ⟨blk, t, none⟩ = some (.int .u32 (g t))) {i j : Nat} (hi : i < n) (hj : j < n) :
  Call P N.zda #[.int .i64 i, .int .i64 j, .pointer (some ⟨bv, 0, none⟩)] w fun v w' => v = .bool (decide (g i < g j)) ∧ w' = w.drew := by
 refine (F.PTags_Each_1 hN).call rfl fun loc N' hlo => ?_
 unfold znq
 refine zd fun K hK => zak (hK _ _ ?_)
 clear hK K
 obtain ⟨σ, hσ⟩ : ∃ σ, σ = upd (zcw #[.int .i64 i, .int .i64 j, .pointer (some ⟨bv, 0, none⟩)]) 3 (.bool false) := ⟨_, rfl⟩
 have f0 : σ 0 = .int .i64 i := by rw [hσ, zh (by decide)]; rfl
 have f1 : σ 1 = .int .i64 j := by rw [hσ, zh (by decide)]; rfl
 have f2 : σ 2 = .pointer (some ⟨bv, 0, none⟩) := by rw [hσ, zh (by decide)]; rfl
 rw [← hσ]
 clear hσ
 have hv' : w.drew.cell? ⟨bv, 0, none⟩ = some (.slice (some ⟨blk, 0, none⟩) n c) := hv
 have ci : w.drew.cell? ⟨blk, i, none⟩ = some (.int .u32 (g i)) := hc i hi
 have cj : w.drew.cell? ⟨blk, j, none⟩ = some (.int .u32 (g j)) := hc j hj
 refine zd fun K hK => zwk B.mixed (by kernel_rfl) fun τ => ?_
 simp +decide only [bK, bE, zik, Nat.reduceBeqDiff, BEq.rfl, Nat.reduceAdd, Nat.zero_add, Nat.mul_one, true_and, f0, f1, f2, st.run_load1 rfl, hv', zbv st B.uint32 hi, zbv st B.uint32 hj, B.uint32.run_load1 rfl, ci, cj]
 refine hK _ _ (zc fun σ4 hσ => zay ⟨.inr rfl, _, rfl, ?_, rfl⟩)
 have := hσ 3
 simp +decide only [bE, BEq.rfl, Nat.reduceAdd] at this
 exact this
end
open Go.ChangeMaps (setBlock)
theorem nodup_le : ∀ (l m : List Nat), l.Nodup → (∀ x ∈ l, x ∈ m) → l.length ≤ m.length
 | [], _, _, _ => Nat.zero_le _
 | x :: l, m, hn, hs => by
  have hx := hs x (by simp)
  have hn2 := List.nodup_cons.1 hn
  have h1 := nodup_le l (m.erase x) hn2.2 fun y hy => (List.mem_erase_of_ne fun e => by subst e; exact hn2.1 hy).2 (hs y (by simp [hy]))
  rw [List.length_erase_of_mem hx] at h1
  have := List.length_pos_of_mem hx
  simp only [List.length_cons]
  omega
theorem zut {l : List MapEntry} (h : (l.map MapEntry.born).Nodup) : l.Nodup := List.Pairwise.of_map MapEntry.born (fun _ _ h e => h (by rw [e])) h
section
variable {P : Program} {N : Nums}
theorem zse {t a b : TypeId} (h : P.underlying t = some (.map a b)) {ty : TypeId} {w : World} : (Builtin.len_ #[t] ty #[.map none]).run P w = .ok (.int .i64 0) w := by
 simp [Builtin.len_, run_underlying h, goInt]
theorem zpp {t a b : TypeId} (h : P.underlying t = some (.map a b)) {ty : TypeId} {w : World} {m : Nat} {es : Array MapEntry} {ck : Nat} (hm : w.heap[m]? = some (.map es ck)) : (Builtin.len_ #[t] ty #[.map (some m)]).run P w = .ok (.int .i64 es.size) w := by
 simp [Builtin.len_, run_underlying h, MapKept.run_getObj_map hm, goInt]
theorem Mod.setIter {w : World} {r : Nat} {m m' : Option Nat} {a a' c c' : Nat} {s s' : Array Nat} (h : w.heap[r]? = some (.mapIter m a s c)) : Mod w (setBlock w r (.mapIter m' a' s' c')) (blk r) ∧ (setBlock w r (.mapIter m' a' s' c')).heap[r]? = some (.mapIter m' a' s' c') ∧ (setBlock w r (.mapIter m' a' s' c')).heap.size = w.heap.size := by
 have hlt : r < w.heap.size := (Array.getElem?_eq_some_iff.1 h).1
 have h1 : (setBlock w r (.mapIter m' a' s' c')).heap[r]? = some (.mapIter m' a' s' c') := by simp [setBlock, hlt]
 have h2 : ∀ k, k ≠ r → (setBlock w r (.mapIter m' a' s' c')).heap[k]? = w.heap[k]? := fun k hk => by
  simp only [setBlock]
  rw [Array.getElem?_setIfInBounds_ne (fun e => hk e.symm)]
 refine ⟨⟨rfl, rfl, rfl, by simp [setBlock], fun k hk hn => h2 k fun e => hn 0 e, fun k o hk hn => ?_, fun k o hk => ?_, fun k o hk => ?_, fun k hk => ?_⟩, h1, by simp [setBlock]⟩
 ·exact World.cell?_of_block (h2 k fun e => hn e)
 ·by_cases e : k = r
  ·subst e; simp only [World.cell?, h1, h]
  ·rw [World.cell?_of_block (h2 k e)]
 ·by_cases e : k = r
  ·subst e; simp only [World.frozen?, h1, h]
  ·rw [World.frozen?_of_block (h2 k e)]
 ·by_cases e : k = r
  ·subst e; simp only [World.shape?, h1, h]
  ·simp only [World.shape?, h2 k e]
theorem zxc {st et : TypeId} {a b sz by' : Nat} {z z' : Value} {d : TypeDesc} (hS : TI P st (.slice et) a b z') (ht : TI P et d sz by' z) (hz : z.cells.size = sz) {w : World} {n : Nat} (hn : by' * n ≤ 281474976710656) (hn2 : n < 4611686018427387904) :
  ∃ w', (Instr.makeSlice st (.int .i64 0) (.int .i64 n)).run P w = .ok (.slice (some ⟨w.heap.size, 0, none⟩) 0 n) w' ∧ Own w' w.heap.size sz (.slice (some ⟨w.heap.size, 0, none⟩) 0 n) 0 [] ∧ Mod w w' zad ∧ w'.heap.size = w.heap.size + 1 := by
 obtain ⟨i, hi, hsz, hbytes, hzero⟩ := ht.info
 have hb : (i.bytes : Int) * (n : Int) ≤ 281474976710656 := by
  have : ((i.bytes * n : Nat) : Int) ≤ 281474976710656 := by rw [hbytes]; omega
  rwa [Int.natCast_mul] at this
 have hr := run_make (P := P) w st et i z hS.und hi hzero .i64 .i64 0 n (Int.le_refl _) (by omega) hb (by omega)
 simp only [Int.toNat_zero, Int.toNat_natCast] at hr
 refine ⟨_, hr, .inr ⟨w.heap.size, n, rfl, Nat.le_refl _, by rw [zau]; exact Nat.lt_succ_self _, Nat.zero_le _, ?_, fun j v hj => by simp at hj, by simp⟩, Mod.alloc _ _ _, zau _ _⟩
 have := zbz w (madeCells z.cells (n * i.size)) et
 rw [size_madeCells, hsz] at this
 rw [hsz]
 exact this
structure LU (P : Program) (N : Nums) : Prop where
 lu : TI P N.zbf (.slice N.zb) 1 24 (.slice none 0 0)
structure EC (es : List MapEntry) (ck mr : Nat) (w0 : World) (lo b3 rI : Nat) (v0 v1 : Value) (picked : List MapEntry) (σ : Env) (w : World) : Prop where
 f0 : σ 0 = v0
 f1 : σ 1 = v1
 f3 : σ 3 = .pointer (some ⟨b3, 0, none⟩)
 f4 : σ 4 = .pointer (some ⟨rI, 0, none⟩)
 mod : Mod w0 w zad
 map : w.heap[mr]? = some (.map es.toArray ck)
 iter : ∃ seen, w.heap[rI]? = some (.mapIter (some mr) ck seen ck) ∧ seen.toList = picked.map MapEntry.born
 mem : ∀ e ∈ picked, e ∈ es
 nd : (picked.map MapEntry.born).Nodup
 row : ∃ v, w.cell? ⟨b3, 0, none⟩ = some v ∧ w.there b3 0 1 ∧ Own w lo 1 v picked.length (picked.map MapEntry.key) ∧ zby v b3 ∧ zby v rI
 lt : b3 < w.heap.size ∧ rI < w.heap.size ∧ w0.heap.size ≤ b3 ∧ w0.heap.size ≤ rI ∧ mr < w0.heap.size ∧ w0.heap.size ≤ lo ∧ lo ≤ w.heap.size ∧ b3 ≠ rI
def cCollect (N : Nums) : C :=
 .seq (.ops [⟨some 0, .next (V 4) false, N.t_, none, []⟩, ⟨some (5+100), .extract (T 0) 0, 0, none, []⟩])
  (.seq (.cond 5 .skip (.exit 0))
   (.block 1 (.seq (.ops [⟨some 0, .entry (V 4), 0, none, []⟩, ⟨some 1, .extract (T 0) 0, 0, none, []⟩, ⟨some (6+100), .assign (T 1), 0, none, []⟩])
    (.ops [⟨some 0, .load N.zbf (V 3), 0, none, []⟩, ⟨some 1, .move (V 6), 0, none, []⟩, ⟨some 2, .buildSlice N.zbf 1 #[(0, (T 1))], 0, none, []⟩,
     ⟨some 3, .call ⟨.builtin .append, #[T 0, T 2], #[N.zbf, N.zbf]⟩, N.zbf, none, []⟩, ⟨none, .store N.zbf (V 3) (T 3), 0, none, []⟩]))))
theorem zvp {a b c : Value} {w : World} : (Instr.extract (.tuple #[a, b, c]) 0).run P w = .ok a w := rfl
theorem ztp {a : Value} {w : World} : (Instr.extract (.tuple #[a]) 0).run P w = .ok a w := rfl
theorem zvy (B : Base P N) (hL : LU P N) {loc : List Nat} {N' : Nat} (hlo : zfv loc N') {Q : Exit → Env → World → Prop} {es : List MapEntry} {ck mr : Nat} {w0 w : World} {lo b3 rI : Nat} {v0 v1 : Value} {picked : List MapEntry} {σ : Env}
  (hes : ∀ e ∈ es, e.born < ck) (hnd : (es.map MapEntry.born).Nodup) (hkey : ∀ e ∈ es, e.key.oneCell' = true) (hsz : es.length < 1099511627776)
  (h : EC es ck mr w0 lo b3 rI v0 v1 picked σ w)
  (hend : ∀ σ' w', EC es ck mr w0 lo b3 rI v0 v1 picked σ' w' → picked.Perm es → Q (.exit 0) σ' w')
  (hstep : ∀ σ' w' e, picked.length < es.length → EC es ck mr w0 lo b3 rI v0 v1 (picked ++ [e]) σ' w' → Q .normal σ' w') : W P loc N' (cCollect N) Q σ w := by
 obtain ⟨f0, f1, f3, f4, mod, map, ⟨seen, iter, hseen⟩, mem, nd, ⟨v, hc, ht, ho, nb3, nbI⟩, l1, l2, l3, l4, l5, l6, l7, l8⟩ := h
 have hnx := run_next_at (P := P) w N.t_ rI mr ck ck seen es.toArray ck iter map (by simpa using hes) (Nat.le_refl _)
 unfold cCollect
 rcases hnx with ⟨h0, hrun⟩ | ⟨e, he, w1, hw1, hrun⟩
 ·
  refine zd fun K hK => zj fun τ => ?_
  simp +decide only [bK, bE, BEq.rfl, Nat.reduceAdd, f4, zwx, hrun, ztp]
  refine hK _ _ (zc fun σ' hσ => ?_)
  have g0 := hσ 0
  have g1 := hσ 1
  have g3 := hσ 3
  have g4 := hσ 4
  have g5 := hσ 5
  simp +decide only [bE, Nat.reduceBeqDiff, BEq.rfl, Nat.reduceAdd, Nat.zero_add, f0, f1, f3, f4] at g0 g1 g3 g4 g5
  clear hσ hK K
  refine zd fun K hK => W_if hlo g5 ?_
  rw [if_neg (by simp)]
  refine znt ?_
  refine hend _ _ ⟨g0, g1, g3, g4, mod, map, ⟨seen, iter, hseen⟩, mem, nd, ⟨v, hc, ht, ho, nb3, nbI⟩, l1, l2, l3, l4, l5, l6, l7, l8⟩ ?_
  have hall := all_seen es.toArray seen h0
  have ndp : picked.Nodup := zut nd
  have nde : es.Nodup := zut hnd
  rw [List.perm_ext_iff_of_nodup ndp nde]
  intro x
  refine ⟨mem x, fun hx => ?_⟩
  have hb := hall x (by simpa using hx)
  have hb2 : x.born ∈ picked.map MapEntry.born := by
   rw [← hseen]; simpa using hb
  obtain ⟨y, hy, hyb⟩ := List.mem_map.1 hb2
  have := born_inj hnd (mem y hy) hx hyb
  rw [← this]; exact hy
 ·
  obtain ⟨hem, hns⟩ := mem_left he
  have hem' : e ∈ es := by simpa using hem
  have iter1 : w1.heap[rI]? = some (.mapIter (some mr) ck seen ck) := by rcases hw1 with rfl | rfl <;> exact iter
  have m1 : Mod w w1 zad := by
   rcases hw1 with rfl | rfl
   ·exact .refl _ _
   ·exact Mod.drew _ _
  have s1 : w1.heap.size = w.heap.size := by rcases hw1 with rfl | rfl <;> rfl
  obtain ⟨m2, it2, s2⟩ := Mod.setIter (m' := some mr) (a' := ck) (s' := seen.push e.born) (c' := ck) iter1
  obtain ⟨w2, hw2⟩ : ∃ w2, w2 = setBlock w1 rI (.mapIter (some mr) ck (seen.push e.born) ck) := ⟨_, rfl⟩
  rw [← hw2] at hrun m2 it2 s2
  clear hw2
  have m02 : Mod w w2 (blk rI) := (m1.mono fun _ _ _ h => h.elim).trans' m2
  have map2 : w2.heap[mr]? = some (.map es.toArray ck) := by rw [m02.block _ (by omega) (fun o h => by have : mr = rI := h; omega)]; exact map
  have hent := run_entry_at (P := P) w2 rI mr ck seen es.toArray ck e it2 map2 hem (by simpa using hnd)
  refine zd fun K hK => zj fun τ => ?_
  simp +decide only [bK, bE, BEq.rfl, Nat.reduceAdd, f4, zwx, hrun, zvp]
  refine hK _ _ (zc fun σ2 hσ => ?_)
  have g0 := hσ 0
  have g1 := hσ 1
  have g3 := hσ 3
  have g4 := hσ 4
  have g5 := hσ 5
  simp +decide only [bE, Nat.reduceBeqDiff, BEq.rfl, Nat.reduceAdd, Nat.zero_add, f0, f1, f3, f4] at g0 g1 g3 g4 g5
  clear hσ hK K
  refine zd fun K hK => W_if hlo g5 ?_
  rw [if_pos rfl]
  refine zbe (hK _ _ (zeg ?_))
  clear hK K
  refine zd fun K hK => zj fun τ => ?_
  simp +decide only [bK, bE, BEq.rfl, Nat.reduceAdd, g4, step_entry, hent]
  refine hK _ _ (zc fun σ3 hσ => ?_)
  have p0 := hσ 0
  have p1 := hσ 1
  have p3 := hσ 3
  have p4 := hσ 4
  have p6 := hσ 6
  simp +decide only [bE, Nat.reduceBeqDiff, BEq.rfl, Nat.reduceAdd, Nat.zero_add, g0, g1, g3, g4] at p0 p1 p3 p4 p6
  clear hσ hK K
  have hcw2 : w2.cell? ⟨b3, 0, none⟩ = some v := by rw [m02.cell _ _ (by omega) (fun h => by have : b3 = rI := h; omega)]; exact hc
  have hbs := zvq (w := w2) (v := e.key) (cs := [e.key]) hL.lu B.uint32 (zet (hkey e hem')) rfl (by decide) (by decide)
  have e9 : ∀ ρ : Env, (#[(0, T 1)] : Array (Nat × Operand)).map (fun p => (p.1, ev ρ p.2)) = #[(0, ρ 1)] := fun ρ => by simp
  refine zj fun τ => ?_
  simp +decide only [bK, bE, Nat.reduceBeqDiff, BEq.rfl, Nat.reduceAdd, p3, p6, hL.lu.run_load1 rfl, hcw2, e9, hbs]
  obtain ⟨w7, hw7⟩ : ∃ w7, w7 = w2.alloc (.cells [e.key].toArray N.zb) := ⟨_, rfl⟩
  have m7 : Mod w2 w7 zad := by rw [hw7]; exact Mod.alloc _ _ _
  have s7 : w7.heap.size = w2.heap.size + 1 := by rw [hw7]; exact zau _ _
  have r7 : w7.rangeAt w2.heap.size 0 [e.key] := by rw [hw7]; exact zz w2 _ _ _
  rw [← hw7]
  clear hw7 hbs
  have m07 : Mod w w7 (blk rI) := m02.trans' (m7.mono fun _ _ _ h => h.elim)
  have ho7 : Own w7 lo 1 v picked.length (picked.map MapEntry.key) := ho.stay m07 fun k o hk e => hk (by have e : k = rI := e; rw [e]; exact nbI)
  have ndE : ((picked ++ [e]).map MapEntry.born).Nodup := by
   rw [List.map_append, List.nodup_append]
   refine ⟨nd, by simp, fun a ha b hb => ?_⟩
   simp at hb
   subst hb
   intro hab
   subst hab
   rw [← hseen] at ha
   have : seen.contains e.born = true := by simpa using ha
   rw [this] at hns; cases hns
  have hple : picked.length < es.length := by
   have := nodup_le ((picked ++ [e]).map MapEntry.born) (es.map MapEntry.born) ndE fun x hx => by
    obtain ⟨y, hy, rfl⟩ := List.mem_map.1 hx
    refine List.mem_map.2 ⟨y, ?_, rfl⟩
    rcases List.mem_append.1 hy with hy | hy
    ·exact mem y hy
    ·simp at hy; subst hy; exact hem'
   simp at this
   omega
  obtain ⟨v', w8, happ, ho8, m8, hone', hnb⟩ := zsg (P := P) (ty := N.zbf) (m := 1) (cb := 1) hL.lu B.uint32 ho7 r7 rfl (fun c hc => by simp at hc; subst hc; exact hkey e hem') (by omega) rfl (fun c hc => by
   obtain ⟨x, hx, rfl⟩ := List.mem_map.1 hc; exact hkey x (mem x hx)) (by omega) (by decide) (by decide)
  have s8 := m8.size
  have t8 : w8.there b3 0 1 := m8.there (by omega) (m07.there (by omega) ht)
  have hsto := hL.lu.run_store1 (w := w8) (b := b3) (o := 0) (v := v') hone' t8
  simp +decide only [bK, happ, hsto]
  clear happ
  obtain ⟨w9, hw9⟩ : ∃ w9, w9 = w8.setCell ⟨b3, 0, none⟩ v' := ⟨_, rfl⟩
  have m9 : Mod w8 w9 (blk b3) := by rw [hw9]; exact Mod.setCell fun _ => rfl
  have s9 : w9.heap.size = w8.heap.size := by rw [hw9]; simp [World.setCell]
  have c8 : w8.cell? ⟨b3, 0, none⟩ = some v := by
   rw [m8.cell _ _ (by omega) (fun h => h nb3), m7.cell _ _ (by omega) (fun h => h)]; exact hcw2
  have c9 : w9.cell? ⟨b3, 0, none⟩ = some v' := by rw [hw9]; exact World.cell?_setCell_same _ _ _ c8
  rw [← hw9]
  clear hw9 hsto
  have hb3' : zby v' b3 := hnb b3 (by omega) nb3
  have hI' : zby v' rI := hnb rI (by omega) nbI
  have nbm : zby v mr := Classical.byContradiction fun h => by have := (ho.blk h).1; omega
  have m09 : Mod w w9 (fun k _ => k = rI ∨ ¬ zby v k ∨ k = b3) := ((m07.mono fun _ _ _ h => .inl h).trans' (m8.mono fun _ _ _ h => .inr (.inl h))).trans' (m9.mono fun _ _ _ h => .inr (.inr h))
  refine zc (K := fun σ' w' => inB 1 Q .normal σ' w') fun σ9 hσ => hstep _ _ e hple ?_
  have q0 := hσ 0
  have q1 := hσ 1
  have q3 := hσ 3
  have q4 := hσ 4
  simp +decide only [bE, Nat.reduceBeqDiff, Nat.reduceAdd, Nat.zero_add, p0, p1, p3, p4] at q0 q1 q3 q4
  refine ⟨q0, q1, q3, q4, mod.trans m09 fun k o hk h => ?_, ?_, ⟨seen.push e.born, ?_, by simp [hseen]⟩, fun x hx => ?_, ?_, ⟨v', c9, m9.there (by omega) t8, ?_, hb3', hI'⟩, by omega, by omega, l3, l4, l5, l6, by omega, l8⟩
  ·rcases h with h | h | h | h
   ·exact h
   ·omega
   ·have := (ho.blk h).1; omega
   ·omega
  ·rw [m09.block mr (by omega) (fun o h => by
    rcases h with h | h | h
    ·omega
    ·exact h nbm
    ·omega)]
   exact map
  ·rw [m9.block rI (by omega) (fun o h => by have : rI = b3 := h; omega), m8.block rI (by omega) (fun o h => h nbI), m7.block rI (by omega) (fun o h => h)]; exact it2
  ·rcases List.mem_append.1 hx with hx | hx
   ·exact mem x hx
   ·simp at hx; subst hx; exact hem'
  ·exact ndE
  ·have := ho8.stay m9 (fun k o h e => h (by have e : k = b3 := e; rw [e]; exact hb3'))
   simpa using this
end
def zdi (l : List (Nat × List UInt8)) : List (Nat × List UInt8) := l.mergeSort fun x y => decide (x.1 ≤ y.1)
theorem zir (l : List (Nat × List UInt8)) : (zdi l).Perm l := List.mergeSort_perm l _
theorem zza (l : List (Nat × List UInt8)) : ((zdi l).map Prod.fst).Pairwise (· ≤ ·) := by
 have := List.pairwise_mergeSort (le := fun x y : Nat × List UInt8 => decide (x.1 ≤ y.1)) (fun a b c h1 h2 => by simp at *; omega) (fun a b => by simp; omega) l
 rw [List.pairwise_map]
 exact this.imp fun h => by simpa using h
theorem zxa : ∀ {l m : List Nat}, l.Perm m → l.Pairwise (· ≤ ·) → m.Pairwise (· ≤ ·) → l = m
 | [], m, h, _, _ => by rw [List.nil_perm.1 h]
 | x :: l, [], h, _, _ => by simp at h
 | x :: l, y :: m, h, h1, h2 => by
  have a := List.pairwise_cons.1 h1
  have b := List.pairwise_cons.1 h2
  have hxy : x = y := by
   have hx : x ∈ y :: m := h.mem_iff.1 (by simp)
   have hy : y ∈ x :: l := h.mem_iff.2 (by simp)
   rcases List.mem_cons.1 hx with e | hx
   ·exact e
   ·rcases List.mem_cons.1 hy with e | hy
    ·exact e.symm
    ·have := a.1 y hy; have := b.1 x hx; omega
  subst hxy
  rw [zxa (List.perm_cons x |>.1 h) a.2 b.2]
def keyV (k : Nat) : Value := .int .u32 (k : Int)
structure SortOk (P : Program) (N : Nums) : Prop where
 has : zcs P N.zgo
 ok : ∀ (w : World) (bv bs c : Nat) (ks : List Nat), w.cell? ⟨bv, 0, none⟩ = some (.slice (some ⟨bs, 0, none⟩) ks.length c) → bv ≠ bs → bs < w.heap.size → ks ≠ [] → ks.length < 4611686018427387904 → w.rangeAt bs 0 (ks.map keyV) → w.there bs 0 ks.length →
  Call P N.zgo #[.iface N.zbf (.slice (some ⟨bs, 0, none⟩) ks.length c), .func (.func N.zda) #[] #[.pointer (some ⟨bv, 0, none⟩)]] w fun _ w' =>
   ∃ ks' : List Nat, ks'.Perm ks ∧ ks'.Pairwise (· ≤ ·) ∧ w'.rangeAt bs 0 (ks'.map keyV) ∧ Mod w w' (blk bs)
section
variable {P : Program} {N : Nums}
theorem find_val {w : World} {G : Nat → Prop} {k : Nat} {vl : List UInt8} : ∀ (l : List (Nat × List UInt8)) (es : List MapEntry) (i0 : Nat), zbt w G l es → (l.map Prod.fst).Nodup → (k, vl) ∈ l →
  ∃ i val, Instr.findNow (.int .u32) (.int .u32 k) es i0 = some (some (i, val)) ∧ tagV w G val vl
 | [], es, i0, he, _, hm => by simp at hm
 | (k', l') :: l, es, i0, he, hnd, hm => by
  obtain ⟨v', b, rest, rfl, h2, h3⟩ := he
  simp only [List.map_cons, List.nodup_cons] at hnd
  by_cases hk : k' = k
  ·subst hk
   have e : l' = vl := by
    rcases List.mem_cons.1 hm with e | hm
    ·injection e with _ e; exact e.symm
    ·exact absurd (List.mem_map.2 ⟨_, hm, rfl⟩) hnd.1
   subst e
   exact ⟨i0, v', by simp [Instr.findNow, Instr.sameNow], h2⟩
  ·have hk2 : ((k : Int) == (k' : Int)) = false := by
    have : (k : Int) ≠ (k' : Int) := by omega
    simpa using this
   have hm' : (k, vl) ∈ l := by
    rcases List.mem_cons.1 hm with e | hm
    ·injection e with e _; exact absurd e.symm hk
    ·exact hm
   obtain ⟨i, val, g1, g2⟩ := find_val l rest (i0 + 1) h3 hnd.2 hm'
   exact ⟨i, val, by simp only [Instr.findNow, Instr.sameNow, if_true, hk2, g1], g2⟩
theorem zvo (B : Base P N) (hT : N.zdf ≠ 0) {w : World} {G : Nat → Prop} {mr k : Nat} {l : List (Nat × List UInt8)} {es : Array MapEntry} {ck : Nat} {vl : List UInt8} (hb : w.heap[mr]? = some (.map es ck)) (h6 : zbt w G l es.toList) (h7 : (l.map Prod.fst).Nodup) (hm : (k, vl) ∈ l) :
  ∃ val, (Instr.lookup N.zp (.map (some mr)) (.int .u32 k) false).run P w = .ok val w ∧ tagV w G val vl := by
 obtain ⟨_, _, hmap⟩ := B.tags hT
 obtain ⟨i, val, g1, g2⟩ := find_val (k := k) l es.toList 0 h6 h7 hm
 have hck := MapKept.run_checkKey (P := P) (w := w) (k := .int .u32 k) B.uint32.und rfl es.isEmpty 9999
 have hgo := MapKept.run_getObj_map (P := P) hb
 have hfk := MapKept.run_findKey (P := P) (w := w) (k := .int .u32 k) B.uint32.und g1
 refine ⟨val, ?_, g2⟩
 simp only [Instr.lookup, Sem.run_bind, hmap.run_und, Result.andThen_ok, hgo, Sem.run_pure, hck, hfk]
 rfl
theorem zzd (hL : LU P N) {w : World} {v : Value} : (Instr.makeInterface N.zbf v).run P w = .ok (.iface N.zbf v) w := by
 simp only [Instr.makeInterface, Sem.run_bind, hL.lu.run_und, Result.andThen_ok]
 rfl
theorem zug {fn : Fn} {a b : Array Value} {w : World} : (Instr.makeFunc fn a b).run P w = .ok (.func fn a b) w := rfl
structure ET (S : List (Nat × List UInt8)) (wS : World) (lo : Nat) (Mo : Nat → Nat → Prop) (I : Nat → List (Nat × List UInt8) → World → Prop) (v0 v1 vr : Value) (j : Nat) (σ : Env) (w : World) : Prop where
 f0 : σ 0 = v0
 f1 : σ 1 = v1
 f7 : σ 7 = vr
 f8 : σ 8 = .int .i64 S.length
 f9 : σ 9 = .int .i64 j
 le : j ≤ S.length
 mod : Mod wS w fun k o => Mo k o ∨ lo ≤ k
 inv : I lo (S.take j) w
def cTellTag (N : Nums) : C :=
 .seq (.ops [⟨some 0, .indexAddr N.zbf (V 7) (V 9), 0, none, []⟩, ⟨some 1, .load N.zb (T 0), 0, none, []⟩, ⟨some (11+100), .assign (T 1), 0, none, []⟩])
  (.ops [⟨some 0, .move (V 1), 0, none, []⟩, ⟨some 1, .move (V 11), 0, none, []⟩, ⟨some 2, .move (V 0), 0, none, []⟩, ⟨some 3, .nilCheck (T 2), 0, none, []⟩, ⟨some 4, .fieldAddr N.zdf (T 3) 0, 0, none, []⟩,
   ⟨some 5, .load N.zp (T 4), 0, none, []⟩, ⟨some 6, .move (V 11), 0, none, []⟩, ⟨some 7, .lookup N.zp (T 5) (T 6) false, 0, none, []⟩, ⟨some 8, .call ⟨.value (T 0), #[T 1, T 7], #[N.zb, N.za]⟩, N.t_, none, []⟩])
def CbOk (P : Program) (f : FuncId) (cap : Value) (lo : Nat) (G : Nat → Prop) (Mo : Nat → Nat → Prop) (I : Nat → List (Nat × List UInt8) → World → Prop) (S : List (Nat × List UInt8)) : Prop :=
 ∀ (j : Nat) (x : Nat × List UInt8) (w1 : World) (v : Value), S[j]? = some x → I lo (S.take j) w1 → lo ≤ w1.heap.size → tagV w1 G v x.2 → Call P f #[.int .u32 x.1, v, cap] w1 fun _ w2 => I lo (S.take (j + 1)) w2 ∧ Mod w1 w2 fun k o => Mo k o ∨ lo ≤ k
theorem tell_round (B : Base P N) (hT : N.zdf ≠ 0) (hL : LU P N) {loc : List Nat} {N' : Nat} {Q : Exit → Env → World → Prop} {S l : List (Nat × List UInt8)} {wS w : World} {lo : Nat} {Mo : Nat → Nat → Prop} {I : Nat → List (Nat × List UInt8) → World → Prop} {G : Nat → Prop}
  {b o bs c mr f j : Nat} {es : Array MapEntry} {ck : Nat} {cap : Value} {σ : Env}
  (hS : ∀ x ∈ S, x ∈ l) (hf : zcs P f) (hcb : CbOk P f cap lo G Mo I S) (hloS : lo ≤ wS.heap.size) (hbs : bs < lo) (hMbs : ∀ o, ¬ Mo bs o) (hblt : b < lo) (hMb : ¬ Mo b o) (hmr : mr < lo) (hMm : ∀ o, ¬ Mo mr o) (hMG : ∀ k, G k → k < lo ∧ ∀ o, ¬ Mo k o)
  (hrow : wS.rangeAt bs 0 (S.map fun x => keyV x.1)) (hcell : wS.cell? ⟨b, o, none⟩ = some (.map (some mr))) (hmap : wS.heap[mr]? = some (.map es ck)) (hent : zbt wS G l es.toList) (hnd : (l.map Prod.fst).Nodup)
  (hj : j < S.length) (h : ET S wS lo Mo I (.pointer (some ⟨b, o, none⟩)) (.func (.func f) #[] #[cap]) (.slice (some ⟨bs, 0, none⟩) S.length c) j σ w)
  (hQ : ∀ σ' w', σ' 9 = .int .i64 j → ET S wS lo Mo I (.pointer (some ⟨b, o, none⟩)) (.func (.func f) #[] #[cap]) (.slice (some ⟨bs, 0, none⟩) S.length c) (j + 1) (upd σ' 9 (.int .i64 ((j + 1 : Nat) : Int))) w' → Q .normal σ' w') :
  W P loc N' (cTellTag N) Q σ w := by
 obtain ⟨f0, f1, f7, f8, f9, _, mod, inv⟩ := h
 obtain ⟨_, hHF, hmt⟩ := B.tags hT
 have hs := mod.size
 have no : ∀ {k o : Nat}, k < lo → ¬ Mo k o → ¬ (Mo k o ∨ lo ≤ k) := fun h1 h2 h => h.elim h2 fun h => by omega
 have hx : S[j]? = some S[j] := List.getElem?_eq_getElem hj
 have hrow' : w.rangeAt bs 0 (S.map fun x => keyV x.1) := mod.rangeAt (by omega) (fun i _ _ => no hbs (hMbs i)) hrow
 have hk : w.cell? ⟨bs, j, none⟩ = some (.int .u32 ((S[j]).1 : Int)) := by
  have := hrow' j _ (by rw [List.getElem?_map, hx]; rfl)
  simpa [keyV] using this
 have hcell' : w.cell? ⟨b, o, none⟩ = some (.map (some mr)) := by rw [mod.cell _ _ (by omega) (no hblt hMb)]; exact hcell
 have hmap' : w.heap[mr]? = some (.map es ck) := by rw [mod.block _ (by omega) (fun o => no hmr (hMm o))]; exact hmap
 have hent' : zbt w G l es.toList := hent.mod mod fun k hk => ⟨by have := (hMG k hk).1; omega, fun o => no (hMG k hk).1 ((hMG k hk).2 o), hk⟩
 obtain ⟨val, hlk, htv⟩ := zvo B hT hmap' hent' hnd (show ((S[j]).1, (S[j]).2) ∈ l from hS _ (List.getElem_mem hj))
 unfold cTellTag
 refine zd fun K hK => zj fun τ => ?_
 simp +decide only [bK, bE, BEq.rfl, Nat.reduceAdd, Nat.zero_add, Nat.mul_one, f7, f9, zbv hL.lu B.uint32 hj, B.uint32.run_load1 rfl, hk]
 refine hK _ _ (zc fun σ2 hσ => ?_)
 have g0 := hσ 0
 have g1 := hσ 1
 have g7 := hσ 7
 have g8 := hσ 8
 have g9 := hσ 9
 have g11 := hσ 11
 simp +decide only [bE, Nat.reduceBeqDiff, BEq.rfl, Nat.reduceAdd, Nat.zero_add, f0, f1, f7, f8, f9] at g0 g1 g7 g8 g9 g11
 clear hσ hK K
 refine zj fun τ => ?_
 simp +decide only [bK, bE, Nat.reduceBeqDiff, BEq.rfl, Nat.reduceAdd, Nat.zero_add, g0, g1, g11]
 rw [zw rfl]
 simp +decide only [bK, bE, Nat.reduceBeqDiff, BEq.rfl, Nat.add_zero, hHF.run, hmt.run_load1 rfl, hcell', g11, zyy, hlk]
 rw [step_callV (f := f) (cap := #[cap]) (by simp +decide only [bE, Nat.reduceBeqDiff, BEq.rfl, ev_tmp]) hf]
 have e2 : ∀ ρ : Env, (#[T 1, T 7] : Array Operand).map (ev ρ) ++ #[cap] = #[ρ 1, ρ 7, cap] := fun ρ => by simp
 rw [e2]
 simp +decide only [bE, Nat.reduceBeqDiff, BEq.rfl]
 have := hcb j S[j] w val hx inv (by omega) htv
 refine Call.mono (Rt' := _) this ?_
 rintro v w2 ⟨hi2, hm2⟩
 refine zc (K := fun σ' w' => Q .normal σ' w') fun σ3 hσ => hQ _ _ ?_ ?_
 ·have := hσ 9
  simp +decide only [bE, Nat.reduceBeqDiff, Nat.reduceAdd, g9] at this
  exact this
 ·have p0 := hσ 0
  have p1 := hσ 1
  have p7 := hσ 7
  have p8 := hσ 8
  simp +decide only [bE, Nat.reduceBeqDiff, Nat.reduceAdd, Nat.zero_add, g0, g1, g7, g8] at p0 p1 p7 p8
  exact ⟨by rw [zh (by decide)]; exact p0, by rw [zh (by decide)]; exact p1, by rw [zh (by decide)]; exact p7, by rw [zh (by decide)]; exact p8, upd_same _ _ _, by omega, mod.trans' hm2, hi2⟩
end
section
variable {P : Program} {N : Nums}
theorem zbt.keys {w : World} {G : Nat → Prop} : ∀ {l : List (Nat × List UInt8)} {es : List MapEntry}, zbt w G l es → es.map MapEntry.key = l.map (fun x => keyV x.1)
 | [], es, h => by simp only [zbt] at h; subst h; rfl
 | (k, x) :: l, es, ⟨v, b, rest, h1, h2, h3⟩ => by subst h1; simp only [List.map_cons, keyV]; rw [zbt.keys h3]; rfl
theorem call_Each (B : Base P N) (F : Fns P N) (hN : N.zgp ≠ 0) (hT : N.zdf ≠ 0) (hL : LU P N) (hS : SortOk P N) {w : World} {b o f : Nat} {v cap : Value} {G : Nat → Prop} {l : List (Nat × List UInt8)}
  (hc : w.cell? ⟨b, o, none⟩ = some v) (hG : ∀ k, G k → k < w.heap.size) (ht : zpm w G v l) (hf : zcs P f) (hsz : l.length < 1099511627776) (I : Nat → List (Nat × List UInt8) → World → Prop) (Mo : Nat → Nat → Prop)
  (hMo : ∀ k o, Mo k o → k < w.heap.size) (hMb : ¬ Mo b o) (hMG : ∀ k, G k → ∀ o, ¬ Mo k o) (hI0 : ∀ w', Mod w w' zad → I w'.heap.size [] w') (hcb : ∀ lo, w.heap.size ≤ lo → CbOk P f cap lo G Mo I (zdi l)) :
  Call P N.zgp #[.pointer (some ⟨b, o, none⟩), .func (.func f) #[] #[cap]] w fun _ w' => ∃ lo, w.heap.size ≤ lo ∧ lo ≤ w'.heap.size ∧ I lo (zdi l) w' ∧ Mod w w' Mo := by
 obtain ⟨_, hHF, hmt⟩ := B.tags hT
 have hb : b < w.heap.size := zfj (by rw [hc]; rfl)
 refine (F.PTags_Each hN).1.call rfl fun loc N' hlo => ?_
 unfold zqv
 obtain ⟨σ, hσ⟩ : ∃ σ, σ = zcw #[.pointer (some ⟨b, o, none⟩), .func (.func f) #[] #[cap]] := ⟨_, rfl⟩
 have f0 : σ 0 = .pointer (some ⟨b, o, none⟩) := by rw [hσ]; rfl
 have f1 : σ 1 = .func (.func f) #[] #[cap] := by rw [hσ]; rfl
 rw [← hσ]
 clear hσ
 have emptyS : ∀ σ' : Env, l = [] → retQ P [] (fun _ w' => ∃ lo, w.heap.size ≤ lo ∧ lo ≤ w'.heap.size ∧ I lo (zdi l) w' ∧ Mod w w' Mo) .ret σ' w := by
  intro σ' e
  subst e
  exact ⟨.inr rfl, .tuple #[], rfl, w.heap.size, Nat.le_refl _, Nat.le_refl _, by simpa [zdi] using hI0 w (.refl _ _), .refl _ _⟩
 rcases ht with ⟨rfl, hl⟩ | ⟨mr, es, ck, rfl, hGm, hmap, hborn, hbnd, hent, hknd, hkb⟩
 ·refine zd fun K hK => zd fun K1 hK1 => zj fun τ => ?_
  simp +decide only [bK, bE, BEq.rfl, Nat.reduceAdd, Nat.zero_add, f0]
  rw [zw rfl]
  simp +decide only [bK, bE, BEq.rfl, Nat.add_zero, hHF.run, hmt.run_load1 rfl, hc, zse hmt.und]
  refine hK1 _ _ (zc fun σ1 hσ => ?_)
  have g2 := hσ 2
  simp +decide only [bE, BEq.rfl, Nat.reduceAdd] at g2
  refine W_if hlo g2 ?_
  rw [if_pos rfl]
  exact zay (emptyS _ hl)
 have hlen : es.size = l.length := by
  have := congrArg List.length hent.keys
  simpa using this
 refine zd fun K hK => zd fun K1 hK1 => zj fun τ => ?_
 simp +decide only [bK, bE, BEq.rfl, Nat.reduceAdd, Nat.zero_add, f0]
 rw [zw rfl]
 simp +decide only [bK, bE, BEq.rfl, Nat.add_zero, hHF.run, hmt.run_load1 rfl, hc, zpp hmt.und hmap]
 refine hK1 _ _ (zc fun σ1 hσ => ?_)
 have g0 := hσ 0
 have g1 := hσ 1
 have g2 := hσ 2
 simp +decide only [bE, Nat.reduceBeqDiff, BEq.rfl, Nat.reduceAdd, Nat.zero_add, f0, f1] at g0 g1 g2
 clear hσ hK1 K1
 refine W_if hlo g2 ?_
 by_cases h0 : l = []
 ·have : (((es.size : Nat) : Int) == 0) = true := by rw [hlen, h0]; rfl
  rw [if_pos this]
  exact zay (emptyS _ h0)
 have hpos : 0 < l.length := List.length_pos_iff.2 h0
 have : (((es.size : Nat) : Int) == 0) = false := by rw [hlen]; simp; omega
 rw [if_neg (by rw [this]; simp)]
 refine zbe (hK _ _ ?_)
 clear hK K emptyS
 obtain ⟨w1, hmk, ho1, m1, s1⟩ := zxc (w := w) (n := es.size) hL.lu B.uint32 rfl (by omega) (by omega)
 obtain ⟨w2, hw2⟩ : ∃ w2, w2 = w1.alloc (.cells (Value.cells (.slice none 0 0)) N.zbf) := ⟨_, rfl⟩
 have m2 : Mod w1 w2 zad := by rw [hw2]; exact Mod.alloc _ _ _
 have s2 : w2.heap.size = w1.heap.size + 1 := by rw [hw2]; exact zau _ _
 have r2 : w2.rangeAt w1.heap.size 0 [.slice none 0 0] := by rw [hw2]; exact zz w1 _ _ _
 have t2 : w2.there w1.heap.size 0 1 := by rw [hw2]; exact zbz w1 _ _
 have hst := hL.lu.run_store1 (w := w2) (b := w1.heap.size) (o := 0) (v := .slice (some ⟨w.heap.size, 0, none⟩) 0 es.size) rfl t2
 obtain ⟨w3, hw3⟩ : ∃ w3, w3 = w2.setCell ⟨w1.heap.size, 0, none⟩ (.slice (some ⟨w.heap.size, 0, none⟩) 0 es.size) := ⟨_, rfl⟩
 have m3 : Mod w2 w3 (blk w1.heap.size) := by rw [hw3]; exact Mod.setCell fun _ => rfl
 have s3 : w3.heap.size = w2.heap.size := by rw [hw3]; simp [World.setCell]
 have c3 : w3.cell? ⟨w1.heap.size, 0, none⟩ = some (.slice (some ⟨w.heap.size, 0, none⟩) 0 es.size) := by rw [hw3]; exact World.cell?_setCell_same _ _ _ (r2 0 _ rfl)
 have hal := hL.lu.run_alloc (w := w1) (.tuple #[])
 refine zd fun K hK => zj fun τ => ?_
 simp +decide only [bK, bE, Nat.reduceBeqDiff, BEq.rfl, Nat.reduceAdd, Nat.zero_add, g0]
 rw [zw rfl]
 simp +decide only [bK, bE, BEq.rfl, Nat.add_zero, hHF.run, hmt.run_load1 rfl, hc, zpp hmt.und hmap, znk, hmk, hal, ← hw2, hst, ← hw3]
 obtain ⟨b3, hb3⟩ : ∃ b3, b3 = w1.heap.size := ⟨_, rfl⟩
 rw [← hb3] at c3 m3 t2 ⊢
 refine hK _ _ (zc fun σ2 hσ => ?_)
 have p0 := hσ 0
 have p1 := hσ 1
 have p3 := hσ 3
 simp +decide only [bE, Nat.reduceBeqDiff, BEq.rfl, Nat.reduceAdd, Nat.zero_add, g0, g1] at p0 p1 p3
 clear hσ hK K hmk hal hst hw3 hw2 r2
 have m03 : Mod w w3 zad := (m1.trans' m2).fresh m3 fun k o e => by have : k = b3 := e; omega
 have hc3 : w3.cell? ⟨b, o, none⟩ = some (.map (some mr)) := by rw [m03.cell _ _ hb (fun h => h)]; exact hc
 have hmrlt := hG mr hGm
 have hmap3 : w3.heap[mr]? = some (.map es ck) := by rw [m03.block _ hmrlt (fun o h => h)]; exact hmap
 refine zd fun K hK => zd fun K1 hK1 => zj fun τ => ?_
 simp +decide only [bK, bE, BEq.rfl, Nat.reduceAdd, Nat.zero_add, p0]
 rw [zw rfl]
 simp +decide only [bK, bE, BEq.rfl, Nat.add_zero, hHF.run, hmt.run_load1 rfl, hc3, step_range, run_range_map w3 _ _ _ mr es ck hmt.und hmap3]
 obtain ⟨w4, hw4⟩ : ∃ w4, w4 = w3.alloc (.mapIter (some mr) ck #[] ck) := ⟨_, rfl⟩
 have m4 : Mod w3 w4 zad := by rw [hw4]; exact Mod.alloc _ _ _
 have s4 : w4.heap.size = w3.heap.size + 1 := by rw [hw4]; exact zau _ _
 have i4 : w4.heap[w3.heap.size]? = some (.mapIter (some mr) ck #[] ck) := by rw [hw4]; exact zmq _ _
 rw [← hw4]
 clear hw4
 refine hK1 _ _ (zc fun σ4 hσ => ?_)
 have q0 := hσ 0
 have q1 := hσ 1
 have q3 := hσ 3
 have q4 := hσ 4
 simp +decide only [bE, Nat.reduceBeqDiff, BEq.rfl, Nat.reduceAdd, Nat.zero_add, p0, p1, p3] at q0 q1 q3 q4
 clear hσ hK1 K1
 have m04 : Mod w w4 zad := m03.trans' m4
 have m14 : Mod w1 w4 zad := (m2.fresh m3 fun k o e => by have : k = b3 := e; omega).trans' m4
 have hEC : EC es.toList ck mr w w.heap.size b3 w3.heap.size (.pointer (some ⟨b, o, none⟩)) (.func (.func f) #[] #[cap]) [] σ4 w4 := by
  refine ⟨q0, q1, q3, q4, m04, by rw [m04.block _ hmrlt (fun o h => h)]; simpa using hmap, ⟨#[], i4, rfl⟩, fun e he => by simp at he, by simp, ⟨.slice (some ⟨w.heap.size, 0, none⟩) 0 es.size, ?_, m4.there (by omega) (m3.there (by omega) t2), ho1.stay m14 fun _ _ _ h => h, ?_, ?_⟩, by omega, by omega, by omega, by omega, by omega, by omega, by omega, by omega⟩
  ·rw [m4.cell _ _ (by omega) (fun h => h)]; exact c3
  ·intro b' o' s' n' c' e; injection e with e1 _ _; injection e1 with e2; injection e2 with e3; omega
  ·intro b' o' s' n' c' e; injection e with e1 _ _; injection e1 with e2; injection e2 with e3; omega
 have hkey1 : ∀ e ∈ es.toList, e.key.oneCell' = true := fun e he => by
  have : e.key ∈ es.toList.map MapEntry.key := List.mem_map.2 ⟨e, he, rfl⟩
  rw [hent.keys] at this
  obtain ⟨x, _, hx⟩ := List.mem_map.1 this
  rw [← hx]; rfl
 refine zeg (zpk (fun n σ w' => ∃ picked, n = es.toList.length - picked.length ∧ EC es.toList ck mr w w.heap.size b3 w3.heap.size (.pointer (some ⟨b, o, none⟩)) (.func (.func f) #[] #[cap]) picked σ w') (n := es.toList.length - [].length) ⟨[], rfl, hEC⟩ ?_)
 rintro n σ5 w5 ⟨picked, rfl, h5⟩
 refine zvy B hL hlo hborn hbnd hkey1 (by simp; omega) h5 (fun σ6 w6 h6 hperm => ?_) fun σ6 w6 e hlt h6 => ⟨_, by simp at hlt ⊢; omega, picked ++ [e], rfl, h6⟩
 simp only [zfr, inB, if_true]
 refine hK _ _ ?_
 clear hK K h5 hEC i4 ho1
 obtain ⟨r0, r1, r3, _, m06, map6, _, _, _, ⟨v6, hc6, ht6, ho6, nb3, _⟩, _, _, _, _, _, _, _, _⟩ := h6
 obtain ⟨ks, hks, hkp⟩ : ∃ ks : List Nat, picked.map MapEntry.key = ks.map keyV ∧ ks.Perm (l.map Prod.fst) := by
  have hp2 : (picked.map MapEntry.key).Perm ((l.map Prod.fst).map keyV) := by
   have := hperm.map MapEntry.key
   rw [hent.keys] at this
   simpa [Function.comp_def] using this
  refine ⟨picked.map fun e => match e.key with | .int _ k => k.toNat | _ => 0, ?_, ?_⟩
  ·rw [List.map_map]
   refine List.map_congr_left fun e he => ?_
   have : e.key ∈ (l.map Prod.fst).map keyV := hp2.mem_iff.1 (List.mem_map.2 ⟨e, he, rfl⟩)
   obtain ⟨k, _, hk⟩ := List.mem_map.1 this
   simp only [Function.comp, ← hk, keyV]
   simp
  ·have := hp2.map fun v : Value => match v with | .int _ k => k.toNat | _ => 0
   simpa [Function.comp_def, keyV] using this
 have hpl : picked.length = l.length := by have := hperm.length_eq; simpa [hlen] using this
 have hkl : ks.length = l.length := by have := hkp.length_eq; simpa using this
 rw [hks, hpl] at ho6
 obtain ⟨bs, cs, rfl, hb1, hb2, hnc, hth, hrg, _⟩ : ∃ bs c, v6 = .slice (some ⟨bs, 0, none⟩) l.length c ∧ w.heap.size ≤ bs ∧ bs < w6.heap.size ∧ l.length ≤ c ∧ w6.there bs 0 (c * 1) ∧ w6.rangeAt bs 0 (ks.map keyV) ∧ (ks.map keyV).length = l.length * 1 := by
  rcases ho6 with ⟨_, h, _⟩ | h
  ·omega
  ·exact h
 have hb3s : b3 ≠ bs := nb3 bs 0 none _ _ rfl
 have s6 := m06.size
 have hso := hS.ok w6 b3 bs cs ks (by rw [hkl]; exact hc6) hb3s hb2 (fun e => by rw [e] at hkl; simp at hkl; omega) (by omega) hrg (fun i hi => hth i (by omega))
 rw [hkl] at hso
 refine zd fun K hK => zj fun τ => ?_
 simp +decide only [bK, bE, BEq.rfl, Nat.reduceAdd, r3, hL.lu.run_load1 rfl, hc6, zom, zzd hL, zon, zug]
 have e3 : ∀ ρ : Env, ρ 103 = .pointer (some ⟨b3, 0, none⟩) → (#[V 3] : Array Operand).map (ev ρ) = #[.pointer (some ⟨b3, 0, none⟩)] := fun ρ h => by simp [h]
 have e4 : ∀ ρ : Env, (#[] : Array Operand).map (ev ρ) = #[] := fun ρ => by simp
 rw [zan hS.has]
 simp +decide only [bK, bE, Nat.reduceBeqDiff, BEq.rfl, e4]
 rw [e3 _ (by simp +decide only [bE, Nat.reduceBeqDiff, r3])]
 refine Call.mono (Rt' := _) hso ?_
 rintro _ w7 ⟨ks', hkp', hks', hrg7, m7⟩
 refine zc (K := fun σ' w' => zfr K _ .normal σ' w') fun σ7 hσ => hK _ _ ?_
 have u0 := hσ 0
 have u1 := hσ 1
 have u3 := hσ 3
 simp +decide only [bE, Nat.reduceBeqDiff, Nat.reduceAdd, Nat.zero_add, r0, r1, r3] at u0 u1 u3
 clear hσ hK K hso
 have s7 := m7.size
 have m07 : Mod w w7 zad := m06.fresh m7 fun k o e => by have : k = bs := e; omega
 have hc7 : w7.cell? ⟨b3, 0, none⟩ = some (.slice (some ⟨bs, 0, none⟩) l.length cs) := by
  rw [m7.cell _ _ (zfj (by rw [hc6]; rfl)) (fun h => hb3s h)]; exact hc6
 have hkeq : ks' = (zdi l).map Prod.fst := zxa (hkp'.trans (hkp.trans ((zir l).map Prod.fst).symm)) hks' (zza l)
 have hSl : (zdi l).length = l.length := (zir l).length_eq
 refine zd fun K hK => zj fun τ => ?_
 simp +decide only [bK, bE, BEq.rfl, Nat.reduceAdd, u3, hL.lu.run_load1 rfl, hc7, hL.lu.run_len]
 refine hK _ _ (zc fun σ8 hσ => ?_)
 have k0 := hσ 0
 have k1 := hσ 1
 have k7 := hσ 7
 have k8 := hσ 8
 have k9 := hσ 9
 simp +decide only [bE, Nat.reduceBeqDiff, BEq.rfl, Nat.reduceAdd, Nat.zero_add, u0, u1] at k0 k1 k7 k8 k9
 clear hσ hK K
 have no : ∀ {k : Nat} {o : Nat}, Mo k o → w.heap.size ≤ k → False := fun h1 h2 => by have := hMo _ _ h1; omega
 rw [← hSl] at k7 k8
 refine zwl (i := 9) (l := 8) (c := 10) (k := 2) hlo (L := (zdi l).length) (by omega) (ET (zdi l) w7 w7.heap.size Mo I (.pointer (some ⟨b, o, none⟩)) (.func (.func f) #[] #[cap]) (.slice (some ⟨bs, 0, none⟩) (zdi l).length cs)) (fun j σ w h => ⟨h.f9, h.f8, h.le⟩) (fun j σ w b h => ?_) ?_ (fun σ9 w9 h => ?_) (fun j σ' w' hj h => ?_)
 ·exact ⟨by rw [zh (by decide)]; exact h.f0, by rw [zh (by decide)]; exact h.f1, by rw [zh (by decide)]; exact h.f7, by rw [zh (by decide)]; exact h.f8, by rw [zh (by decide)]; exact h.f9, h.le, h.mod, h.inv⟩
 ·exact ⟨k0, k1, k7, k8, k9, Nat.zero_le _, .refl _ _, hI0 w7 m07⟩
 ·have hinv := h.inv
  rw [List.take_length] at hinv
  exact ⟨.inl rfl, .tuple #[], rfl, w7.heap.size, m07.size, h.mod.size, hinv, m07.trans h.mod fun k o hk h => h.elim False.elim fun h => h.elim id fun h => by have := m07.size; omega⟩
 ·refine tell_round B hT hL (l := l) (G := G) (mr := mr) (es := es) (ck := ck) (fun x hx => (zir l).mem_iff.1 hx) hf (hcb w7.heap.size m07.size) (Nat.le_refl _) (by omega) (fun o h => no h (by omega)) (by omega) hMb (by omega) (hMG mr hGm) (fun k hk => ⟨by have := hG k hk; omega, hMG k hk⟩) ?_ ?_ ?_ ?_ hknd hj h fun σ' w' h1 h2 => ⟨h1, h2⟩
  ·rw [hkeq] at hrg7
   simpa [Function.comp_def] using hrg7
  ·rw [m07.cell _ _ hb (fun h => h)]; exact hc
  ·rw [m07.block _ hmrlt (fun o h => h)]; exact hmap
  ·exact hent.mod m07 fun k hk => ⟨hG k hk, fun _ h => h, hk⟩
end
structure SortT (P : Program) (N : Nums) : Prop where
 has : zcs P N.zgo
 out : ∃ (ρ : Go.Shelf.Ren) (i ie : TypeInfo) (f6 f2 : Nat), Go.Proofs.LaysGg.n6 P ρ ∧ ρ.f 6 = N.zgo ∧ P.info? N.zbf = some i ∧ i.desc = .slice N.zb ∧ P.packed N.zbf = false ∧ P.info? N.zb = some ie ∧
  (∀ w, (Extern.Rtype.kind N.zb).run P w = .ok 10 w) ∧ ie.hasPointers = false ∧ ie.bytes = 4 ∧ ie.size = 1 ∧
  P.funcs.findIdx? (·.name == "internal/reflectlite" ++ ".Swapper$" ++ toString 6) = some f6 ∧ P.funcs.findIdx? (·.name == "internal/reflectlite" ++ ".Swapper$" ++ toString 2) = some f2 ∧
  ∀ args W, (callFunc f6 args).run P W = ((Extern.ReflectliteSwapper.swap true args).run P W).andThen fun v w' => .ok (.value v) w'
section
variable {P : Program} {N : Nums}
theorem Mod.grow (w : World) (os : Array Obj) (M : Nat → Nat → Prop) : Mod w (Go.Sort.grow w os) M :=
 .of_blocks rfl rfl rfl (by rw [Go.Sort.size_grow]; omega) fun k hk => Go.Sort.heap_grow_old w os hk
theorem Mod.ahead (w : World) (n : Nat) (M : Nat → Nat → Prop) : Mod w (Go.Sort.ahead w n) M := .of_blocks rfl rfl rfl (Nat.le_refl _) fun _ _ => rfl
theorem zsr (enc : Int → Value) (w : World) (bs : Nat) (d : Array Int) (k : Nat) : (Go.Sort.putRow enc w bs 0 d).heap[k]? = if bs = k then (w.heap[k]?).map (Go.Sort.onCells (Go.Sort.putCells enc 0 d)) else w.heap[k]? := by
 simp only [Go.Sort.putRow, Go.Sort.mapBlock, Array.getElem?_modify]
theorem Mod.putRow (enc : Int → Value) (w : World) (bs : Nat) (d : Array Int) : Mod w (Go.Sort.putRow enc w bs 0 d) (blk bs) := by
 have hne : ∀ k, k ≠ bs → (Go.Sort.putRow enc w bs 0 d).heap[k]? = w.heap[k]? := fun k hk => by rw [zsr, if_neg (fun e => hk e.symm)]
 have hsame : (Go.Sort.putRow enc w bs 0 d).heap[bs]? = (w.heap[bs]?).map (Go.Sort.onCells (Go.Sort.putCells enc 0 d)) := by rw [zsr, if_pos rfl]
 refine ⟨rfl, rfl, rfl, by rw [Go.Sort.size_putRow]; exact Nat.le_refl _, fun k hk hn => hne k fun e => hn 0 e, fun k o hk hn => World.cell?_of_block (hne k fun e => hn e), fun k o hk => ?_, fun k o hk => Go.Sort.frozen?_putRow enc w bs 0 d _, fun k hk => ?_⟩
 ·by_cases e : k = bs
  ·subst e
   simp only [World.cell?, hsame]
   cases w.heap[k]? with
   | none => rfl
   | some ob =>
    cases ob <;> simp [Go.Sort.onCells, Go.Sort.putCells]
  ·rw [World.cell?_of_block (hne k e)]
 ·by_cases e : k = bs
  ·subst e
   simp only [World.shape?, hsame]
   cases w.heap[k]? with
   | none => rfl
   | some ob =>
    cases ob <;> simp [Go.Sort.onCells, Go.Sort.putCells]
  ·simp only [World.shape?, hne k e]
theorem sortOk (B : Base P N) (F : Fns P N) (hN : N.zda ≠ 0) (hL : LU P N) (hT : SortT P N) : SortOk P N := by
 refine ⟨hT.has, fun w bv bs c ks hv hne hbs hks0 hkl hrg hth => ?_⟩
 obtain ⟨ρ, i, ie, f6, f2, L, hρ, hi, hd, hpk, hie, hke, hp, hby, hs1, hf6, hf2, hx⟩ := hT.out
 have hless1 := (F.PTags_Each_1 hN).has
 obtain ⟨ks0, hks⟩ : ∃ d : Array Int, d = (ks.map fun k : Nat => (k : Int)).toArray := ⟨_, rfl⟩
 have hsz : ks0.size = ks.length := by rw [hks]; simp
 have hget : ∀ t, t < ks.length → ks0[t]! = ((ks.getD t 0 : Nat) : Int) := fun t ht => by
  rw [hks, getElem!_pos _ t (by simpa using ht)]
  simp [List.getD, ht]
 unfold Call
 rw [← hρ]
 by_cases h2 : 2 ≤ ks.length
 ·have hH : Go.Sort.Holds (Value.int .u32) w bs 0 ks0 := by
   intro j hj
   rw [hsz] at hj
   refine ⟨?_, by have := (hth j hj).2; simpa using this⟩
   have := hrg j (keyV (ks.getD j 0)) (by rw [List.getElem?_map, List.getElem?_eq_getElem hj]; simp [List.getD, hj])
   rw [hget j hj]
   exact this
  have hless : Go.Proofs.LessReads P N.zda #[.pointer (some ⟨bv, 0, none⟩)] (Value.int .u32) Go.Sort.ltInt bs 0 ks0.size w := by
   intro m os dk hdk a b ha hb
   have e : Go.Proofs.sortWorld (Value.int .u32) w bs 0 m dk os = Go.Sort.putRow (Value.int .u32) (Go.Sort.grow (Go.Sort.ahead w m) os) bs 0 dk := by
    unfold Go.Proofs.sortWorld; rw [Go.Sort.putRow_grow _ (Go.Sort.ahead w m) _ bs 0 _ hbs]
   have hHg : Go.Sort.Holds (Value.int .u32) (Go.Sort.grow (Go.Sort.ahead w m) os) bs 0 ks0 := Go.Sort.holds_grow _ _ _ bs 0 ks0 hbs (Go.Sort.holds_ahead _ _ _ _ _ _ hH)
   have hvl : bv < w.heap.size := zfj (by rw [hv]; rfl)
   have hc := call_less (st := hL.lu) (w := Go.Proofs.sortWorld (Value.int .u32) w bs 0 m dk os) (bv := bv) (blk := bs) (n := ks.length) (c := c) B F hN (by
    rw [e, Go.Sort.cell?_putRow_other _ _ bs 0 dk _ (.inl hne), Go.Sort.cell?_grow _ _ _ hvl]; exact hv) (g := fun t => dk[t]!) (fun t ht => by
    rw [e]
    have := Go.Sort.cell?_putRow (Value.int .u32) _ bs 0 ks0 dk hHg hdk t (by rw [hdk, hsz]; exact ht)
    simpa using this) (show a < ks.length by rw [← hsz]; exact ha) (show b < ks.length by rw [← hsz]; exact hb)
   refine Calls.mono hc ?_
   rintro ex w' ⟨v, rfl, rfl, rfl⟩
   exact ⟨rfl, 1, rfl⟩
  have hsw : Go.Lib.swapperK ks0.size ie 10 = 6 := by
   have a : (ks0.size == 0) = false := beq_eq_false_iff_ne.2 (by omega)
   have b : (ks0.size == 1) = false := beq_eq_false_iff_ne.2 (by omega)
   simp [Go.Lib.swapperK, hp, hby, a, b]
  have hS := Go.Proofs.Any.sort_Slice_sorted L N.zbf N.zb i ie hi hd hpk hie 10 hke hs1 (fun w => B.uint32.run_isAgg) (Value.int .u32) (fun _ => rfl) Go.Sort.ltInt Go.Sort.swo_ltInt N.zda #[.pointer (some ⟨bv, 0, none⟩)]
   (fun args w => zlr hless1) bs 0 c ks0 (by omega) (by omega) f6 (by rw [hsw]; exact hf6) true hx w hless hH hbs
  rw [hsz] at hS
  refine Calls.mono hS ?_
  rintro e w' ⟨rfl, d', n, os, hperm, hso, rfl⟩
  obtain ⟨hd's, _, hpm⟩ := hperm
  rw [show d'.extract 0 ks.length = d' by rw [← hsz, ← hd's]; simp, show ks0.extract 0 ks.length = ks0 by rw [← hsz]; simp] at hpm
  refine ⟨_, rfl, d'.toList.map Int.toNat, ?_, ?_, ?_, ?_⟩
  ·have := hpm.map Int.toNat
   rw [hks] at this
   simpa [Function.comp_def] using this
  ·have hnn : ∀ x ∈ d'.toList, 0 ≤ x := fun x hx => by
    have := hpm.mem_iff.1 hx
    rw [hks] at this
    simp at this
    obtain ⟨k, _, rfl⟩ := this
    omega
   rw [List.pairwise_map, List.pairwise_iff_getElem]
   intro a b ha hb hab
   have h3 := hso a b (Nat.zero_le _) hab (by rw [← hsz, ← hd's]; simpa using hb)
   rw [getElem!_pos d' a (by simpa using ha), getElem!_pos d' b (by simpa using hb)] at h3
   simp only [Go.Sort.ltInt, decide_eq_false_iff_not] at h3
   simp only [Array.getElem_toList]
   omega
  ·have hds : d'.size = ks.length := by omega
   intro j v hj
   have hjl : j < d'.size := by
    have := (List.getElem?_eq_some_iff.1 hj).1
    simpa using this
   have hH2 : Go.Sort.Holds (Value.int .u32) (Go.Sort.ahead w n) bs 0 ks0 := Go.Sort.holds_ahead _ _ _ _ _ _ hH
   have hc := Go.Sort.cell?_putRow (Value.int .u32) (Go.Sort.ahead w n) bs 0 ks0 d' hH2 hd's j hjl
   rw [Go.Sort.cell?_grow _ _ _ (by rw [Go.Sort.size_putRow]; exact hbs), hc]
   rw [List.getElem?_map, List.getElem?_map] at hj
   have hnn : 0 ≤ d'[j] := by
    have := hpm.mem_iff.1 (show d'[j] ∈ d'.toList by simp)
    rw [hks] at this
    simp at this
    obtain ⟨k, _, h⟩ := this
    omega
   rw [getElem!_pos d' j hjl]
   have : d'.toList[j]? = some d'[j] := by simp [hjl]
   rw [this] at hj
   simp [keyV] at hj
   rw [← hj, Int.max_eq_left hnn]
  ·exact (((Mod.ahead w n _).trans' (Mod.putRow _ _ bs d')).trans' (Mod.grow _ os _))
 ·obtain ⟨k, rfl⟩ : ∃ k, ks = [k] := by
   match ks, hks0, h2 with
   | [k], _, _ => exact ⟨k, rfl⟩
   | a :: b :: l, _, h => simp at h
  have hS := Go.Proofs.Any.sort_Slice_tiny L N.zbf N.zb i ie hi hd hpk hie 10 hke (some ⟨bs, 0, none⟩) 1 c (Nat.le_refl _) f2 (by simpa [Go.Lib.swapperK] using hf2) (.func N.zda) #[] #[.pointer (some ⟨bv, 0, none⟩)] w
  refine Calls.mono hS ?_
  rintro e w' ⟨rfl, os, rfl⟩
  exact ⟨_, rfl, [k], List.Perm.refl _, by simp, (Mod.grow w os zad).rangeAt hbs (fun _ _ _ h => h) hrg, Mod.grow _ _ _⟩
end
section
variable {P : Program} {N : Nums}
end
def zgm : Value → List UInt8
 | .agg a => a.toList.map fun v => match v with
  | .int _ n => UInt8.ofNat n.toNat
  | _ => 0
 | .string s => s.data.toList
 | _ => []
def PK.tr : PK → Value → Tr
 | .bool, v => zso (match v with | .bool true => 1 | _ => 0) [] false
 | .uuid, v => zso 0 (zgm v) false
 | _, v => zso (match v with | .int _ n => n | _ => 0) [] false
mutual
def Ty.tr : Ty → Val → Tr
 | .pr k _, .num v => k.tr v
 | .txt _, .num v => zso 0 (zgm v) false
 | .txt _, .nstr o => zso 0 (o.getD []) o.isNone
 | .txt _, .oct o => zso 0 (o.getD []) o.isNone
 | .arr .., .nilA => .mk 0 [] true [] []
 | .arr _ _ e, .arr _ l => .mk 0 [] false (l.map e.tr) []
 | .row _ _ _ fs, .row l => .mk 0 [] false (fs.trs l) (fs.tgs l)
 | _, _ => zso 0 [] false
def El.tr : El → Val → Tr
 | .pr k, .num v => k.tr v
 | .txt _, .num v => zso 0 (zgm v) false
 | .txt _, .nstr o => zso 0 (o.getD []) o.isNone
 | .txt _, .oct o => zso 0 (o.getD []) o.isNone
 | .row _ _ _ fs, .row l => .mk 0 [] false (fs.trs l) (fs.tgs l)
 | _, _ => zso 0 [] false
def Fds.trs : Fds → List Val → List Tr
 | .cons _ ty r, v :: l => ty.tr v :: r.trs l
 | _, _ => []
def Fds.tgs : Fds → List Val → List (Nat × List UInt8)
 | .tags, [.tags l] => zdi l
 | .cons _ _ r, _ :: l => r.tgs l
 | _, _ => []
end
def Fds.tr (fs : Fds) (l : List Val) : Tr := .mk 0 [] false (fs.trs l) (fs.tgs l)
def big : Nat := 1099511627776
def PK.okV : PK → Value → Prop
 | .bool, v => ∃ b, v = .bool b
 | .i8, v => ∃ n, v = .int .i8 n ∧ IntKind.i64.wrap n = n
 | .i16, v => ∃ n, v = .int .i16 n ∧ IntKind.i64.wrap n = n
 | .u16, v => ∃ n, v = .int .u16 n ∧ IntKind.i64.wrap n = n
 | .i32, v => ∃ n, v = .int .i32 n ∧ IntKind.i64.wrap n = n
 | .i64, v => ∃ n, v = .int .i64 n ∧ IntKind.i64.wrap n = n
 | .uuid, v => ∃ l : List UInt8, v = .agg (l.map zy).toArray ∧ l.length = 16
def Txt.okV : Txt → Val → Prop
 | .str, .num v => ∃ l, v = strV l ∧ l.length < big
 | .nstr, .nstr o => (o.getD []).length < big
 | .byt, .oct o => (o.getD []).length < big
 | .nbyt, .oct o => (o.getD []).length < big
 | _, _ => False
mutual
def Ty.okV : Ty → Val → Prop
 | .pr k _, .num v => k.okV v
 | .txt k, v => k.okV v
 | .arr .., .nilA => True
 | .arr _ _ e, .arr sz l => sz = e.sz ∧ l.length < big ∧ ∀ v ∈ l, e.okV v
 | .row _ _ _ fs, .row l => fs.okV l
 | _, _ => False
def El.okV : El → Val → Prop
 | .pr k, .num v => k.okV v
 | .txt k, v => k.okV v
 | .row _ _ _ fs, .row l => fs.okV l
 | _, _ => False
def Fds.okV : Fds → List Val → Prop
 | .nil, l => l = []
 | .tags, [.tags l] => l.length < big ∧ ∀ x ∈ l, x.2.length < big
 | .cons _ ty r, v :: l => ty.okV v ∧ r.okV l
 | _, _ => False
end
section
variable {P : Program} {N : Nums}
end
section
variable {P : Program} {N : Nums}
def cTNum (N : Nums) (Tt idx ft i : Nat) : C := .draw [
 ⟨some 0, .fieldAddr N.zap (V 2) 3, 0, none, []⟩, ⟨some 1, .load N.zv (T 0), 0, none, [0]⟩, ⟨some 2, .move (V 0), 0, none, []⟩, ⟨some 3, .nilCheck (T 2), 0, none, [2]⟩, ⟨some 4, .fieldAddr Tt (T 3) idx, 0, none, [3]⟩, ⟨some 5, .load ft (T 4), 0, none, [4]⟩,
 ⟨some 6, .convert ft N.zde (T 5), 0, none, [5]⟩, ⟨some 7, .build N.zap #[(0, T 6)], 0, none, [6]⟩,
 ⟨some 8, .indexAddr N.zv (T 1) (.const (.int .i64 i)), 0, none, [1, 0, 1, 2, 3, 4, 5, 6, 7]⟩, ⟨none, .store N.zap (T 8) (T 7), 0, none, [8, 7, 0, 1, 2, 3, 4, 5, 6, 7]⟩]
def cTNum64 (N : Nums) (Tt idx ft i : Nat) : C := .draw [
 ⟨some 0, .fieldAddr N.zap (V 2) 3, 0, none, []⟩, ⟨some 1, .load N.zv (T 0), 0, none, [0]⟩, ⟨some 2, .move (V 0), 0, none, []⟩, ⟨some 3, .nilCheck (T 2), 0, none, [2]⟩, ⟨some 4, .fieldAddr Tt (T 3) idx, 0, none, [3]⟩, ⟨some 5, .load ft (T 4), 0, none, [4]⟩,
 ⟨some 6, .build N.zap #[(0, T 5)], 0, none, [5]⟩,
 ⟨some 7, .indexAddr N.zv (T 1) (.const (.int .i64 i)), 0, none, [1, 0, 1, 2, 3, 4, 5, 6]⟩, ⟨none, .store N.zap (T 7) (T 6), 0, none, [7, 6, 0, 1, 2, 3, 4, 5, 6]⟩]
def cTStr (N : Nums) (Tt idx i : Nat) : C := .draw [
 ⟨some 0, .fieldAddr N.zap (V 2) 3, 0, none, []⟩, ⟨some 1, .load N.zv (T 0), 0, none, [0]⟩, ⟨some 2, .move (V 0), 0, none, []⟩, ⟨some 3, .nilCheck (T 2), 0, none, [2]⟩, ⟨some 4, .fieldAddr Tt (T 3) idx, 0, none, [3]⟩, ⟨some 5, .load N.zai (T 4), 0, none, [4]⟩,
 ⟨some 6, .convert N.zai N.za (T 5), 0, none, [5]⟩, ⟨some 7, .build N.zap #[(1, T 6)], 0, none, [6]⟩,
 ⟨some 8, .indexAddr N.zv (T 1) (.const (.int .i64 i)), 0, none, [1, 0, 1, 2, 3, 4, 5, 6, 7]⟩, ⟨none, .store N.zap (T 8) (T 7), 0, none, [8, 7, 0, 1, 2, 3, 4, 5, 6, 7]⟩]
def cTBool (N : Nums) (Tt idx i : Nat) : C := .draw [
 ⟨some 0, .fieldAddr N.zap (V 2) 3, 0, none, []⟩, ⟨some 1, .load N.zv (T 0), 0, none, [0]⟩, ⟨some 2, .move (V 0), 0, none, []⟩, ⟨some 3, .nilCheck (T 2), 0, none, [2]⟩, ⟨some 4, .fieldAddr Tt (T 3) idx, 0, none, [3]⟩, ⟨some 5, .load N.zav (T 4), 0, none, [4]⟩,
 ⟨some 6, .call ⟨.value (.func N.zqa), #[T 5], #[N.zav]⟩, N.zap, none, [5]⟩,
 ⟨some 7, .indexAddr N.zv (T 1) (.const (.int .i64 i)), 0, none, [1, 0, 1, 2, 3, 4, 5, 6]⟩, ⟨none, .store N.zap (T 7) (T 6), 0, none, [7, 6, 6, 0, 1, 2, 3, 4, 5, 6]⟩]
def cTOct (N : Nums) (Tt idx i : Nat) : C := .draw [
 ⟨some 0, .fieldAddr N.zap (V 2) 3, 0, none, []⟩, ⟨some 1, .load N.zv (T 0), 0, none, [0]⟩, ⟨some 2, .move (V 0), 0, none, []⟩, ⟨some 3, .nilCheck (T 2), 0, none, [2]⟩, ⟨some 4, .fieldAddr Tt (T 3) idx, 0, none, [3]⟩, ⟨some 5, .load N.za (T 4), 0, none, [4]⟩,
 ⟨some 6, .call ⟨.value (.func N.zma), #[T 5], #[N.za]⟩, N.zap, none, [5]⟩,
 ⟨some 7, .indexAddr N.zv (T 1) (.const (.int .i64 i)), 0, none, [1, 0, 1, 2, 3, 4, 5, 6]⟩, ⟨none, .store N.zap (T 7) (T 6), 0, none, [7, 6, 6, 0, 1, 2, 3, 4, 5, 6]⟩]
def cTNstr (N : Nums) (Tt idx i : Nat) : C := .draw [
 ⟨some 0, .fieldAddr N.zap (V 2) 3, 0, none, []⟩, ⟨some 1, .load N.zv (T 0), 0, none, [0]⟩, ⟨some 2, .move (V 0), 0, none, []⟩, ⟨some 3, .nilCheck (T 2), 0, none, [2]⟩, ⟨some 4, .fieldAddr Tt (T 3) idx, 0, none, [3]⟩, ⟨some 5, .load N.zbm (T 4), 0, none, [4]⟩,
 ⟨some 6, .call ⟨.value (.func N.zpz), #[T 5], #[N.zbm]⟩, N.zap, none, [5]⟩,
 ⟨some 7, .indexAddr N.zv (T 1) (.const (.int .i64 i)), 0, none, [1, 0, 1, 2, 3, 4, 5, 6]⟩, ⟨none, .store N.zap (T 7) (T 6), 0, none, [7, 6, 6, 0, 1, 2, 3, 4, 5, 6]⟩]
end
section
variable {P : Program} {N : Nums}
end
section
variable {P : Program} {N : Nums}
end
section
variable {P : Program} {N : Nums}
def lApp (N : Nums) (Tt idx ft f pT i p : Nat) : List ROp := [
 ⟨some 0, .fieldAddr N.zap (V 2) 3, 0, none, []⟩, ⟨some 1, .load N.zv (T 0), 0, none, [0]⟩, ⟨some 2, .fieldAddr N.zap (V 2) 3, 0, none, []⟩, ⟨some 3, .load N.zv (T 2), 0, none, [2]⟩,
 ⟨some 4, .indexAddr N.zv (T 3) (.const (.int .i64 i)), 0, none, [3]⟩, ⟨some 5, .fieldAddr N.zap (T 4) 3, 0, none, [4]⟩, ⟨some 6, .load N.zv (T 5), 0, none, [5]⟩,
 ⟨some 7, .move (V 0), 0, none, []⟩, ⟨some 8, .nilCheck (T 7), 0, none, [7]⟩, ⟨some 9, .fieldAddr Tt (T 8) idx, 0, none, [8]⟩, ⟨some 10, .load ft (T 9), 0, none, [9]⟩, ⟨some 11, .move (V p), 0, none, []⟩, ⟨some 12, .indexAddr ft (T 10) (T 11), 0, none, [10, 11]⟩,
 ⟨some 13, .call ⟨.value (.func f), #[T 12], #[pT]⟩, N.zap, none, [12]⟩, ⟨some 14, .buildSlice N.zv 1 #[(0, T 13)], 0, none, [13]⟩, ⟨some 15, .call ⟨.builtin .append, #[T 6, T 14], #[N.zv, N.zv]⟩, N.zv, none, [6, 14, 13]⟩,
 ⟨some 16, .indexAddr N.zv (T 1) (.const (.int .i64 i)), 0, none, [1, 0, 1, 2, 3, 4, 5, 6, 7, 8, 9, 10, 11, 12, 13, 14, 15]⟩, ⟨some 17, .fieldAddr N.zap (T 16) 3, 0, none, [16, 0, 1, 2, 3, 4, 5, 6, 7, 8, 9, 10, 11, 12, 13, 14, 15]⟩,
 ⟨none, .store N.zv (T 17) (T 15), 0, none, [17, 15, 15, 0, 1, 2, 3, 4, 5, 6, 7, 8, 9, 10, 11, 12, 13, 14, 15]⟩]
end
section
variable {P : Program} {N : Nums}
def zTop : Operand := .const (.agg #[(.int .i64 0), (.slice none 0 0), (.bool false), (.slice none 0 0), (.slice none 0 0)])
def lApp0 (N : Nums) (Tt idx ft f pT i p : Nat) : List ROp := [
 ⟨some 0, .fieldAddr N.zap (V 2) 3, 0, none, []⟩, ⟨some 1, .load N.zv (T 0), 0, none, [0]⟩, ⟨some 2, .indexAddr N.zv (T 1) (.const (.int .i64 i)), 0, none, [1]⟩, ⟨some 3, .fieldAddr N.zap (T 2) 3, 0, none, [2]⟩, ⟨some 4, .load N.zv (T 3), 0, none, [3]⟩,
 ⟨some 5, .move (V 0), 0, none, []⟩, ⟨some 6, .nilCheck (T 5), 0, none, [5]⟩, ⟨some 7, .fieldAddr Tt (T 6) idx, 0, none, [6]⟩, ⟨some 8, .load ft (T 7), 0, none, [7]⟩, ⟨some 9, .move (V p), 0, none, []⟩, ⟨some 10, .indexAddr ft (T 8) (T 9), 0, none, [8, 9]⟩,
 ⟨some (p + 2 + 100), .call ⟨.value (.func f), #[T 10], #[pT]⟩, N.zap, none, [10]⟩, ⟨some (p + 3 + 100), .call ⟨.builtin .len, #[T 4], #[N.zv]⟩, N.ze, none, [4]⟩, ⟨some 13, .buildSlice N.zv 1 #[(0, zTop)], 0, none, []⟩,
 ⟨some (p + 4 + 100), .call ⟨.builtin .append, #[T 4, T 13], #[N.zv, N.zv]⟩, N.zv, none, [4, 13, 11, 0, 1, 2, 3, 4, 5, 6, 7, 8, 9, 10, 11, 12, 13]⟩,
 ⟨some 15, .indexAddr N.zv (T 1) (.const (.int .i64 i)), 0, none, [1, 0, 1, 2, 3, 4, 5, 6, 7, 8, 9, 10, 11, 12, 13, 14]⟩, ⟨some 16, .fieldAddr N.zap (T 15) 3, 0, none, [15, 0, 1, 2, 3, 4, 5, 6, 7, 8, 9, 10, 11, 12, 13, 14]⟩,
 ⟨none, .store N.zv (T 16) (V (p + 4)), 0, none, [16, 14, 14, 0, 1, 2, 3, 4, 5, 6, 7, 8, 9, 10, 11, 12, 13, 14]⟩]
def cPut (N : Nums) (p : Nat) : C := .ops [⟨some 0, .indexAddr N.zv (V (p + 4)) (V (p + 3)), 0, none, []⟩, ⟨none, .store N.zap (T 0) (V (p + 2)), 0, none, []⟩]
end
section
variable {P : Program} {N : Nums}
def lBool (N : Nums) (p : Nat) : List ROp := [⟨some 0, .alloc N.zav, 0, none, []⟩, ⟨none, .store N.zav (T 0) (.const (.bool true)), 0, none, [0]⟩, ⟨none, .store N.zav (T 0) (.const (.bool false)), 0, none, [0]⟩, ⟨some (p + 1 + 100), .load N.zav (T 0), 0, none, [0, 0, 1, 2]⟩]
def cTList (N : Nums) (Tt idx ft q k : Nat) (app0 app : C) : C :=
 .seq (.ops [⟨some 0, .move (V 0), 0, none, []⟩, ⟨some 1, .nilCheck (T 0), 0, none, []⟩, ⟨some 2, .fieldAddr Tt (T 1) idx, 0, none, []⟩, ⟨some 3, .load ft (T 2), 0, none, []⟩, ⟨some (q + 3 + 100), .call ⟨.builtin .len, #[T 3], #[ft]⟩, N.ze, none, []⟩, ⟨some (q + 4 + 100), .move (.const (.int .i64 0)), 0, none, []⟩])
  (zqx N (q + 4) (q + 3) (q + 5) k (.seq (.ops [⟨some 0, .move (V (q + 4)), 0, none, []⟩, ⟨some (q + 6 + 100), .assign (T 0), 0, none, []⟩])
   (.seq (.draw (lBool N (q + 6))) (.cond (q + 7) app0 app))))
end
section
variable {P : Program} {N : Nums}
def cTNull (N : Nums) (Tt idx ft i : Nat) : C := .draw [
 ⟨some 0, .fieldAddr N.zap (V 2) 3, 0, none, []⟩, ⟨some 1, .load N.zv (T 0), 0, none, [0]⟩, ⟨some 2, .move (V 0), 0, none, []⟩, ⟨some 3, .nilCheck (T 2), 0, none, [2]⟩, ⟨some 4, .fieldAddr Tt (T 3) idx, 0, none, [3]⟩, ⟨some 5, .load ft (T 4), 0, none, [4]⟩,
 ⟨some 6, .binOp .eql ft (T 5) (.const (.slice none 0 0)) ft, 0, none, [5]⟩, ⟨some 7, .indexAddr N.zv (T 1) (.const (.int .i64 i)), 0, none, [1, 0, 1, 2, 3, 4, 5, 6]⟩, ⟨some 8, .fieldAddr N.zap (T 7) 2, 0, none, [7, 0, 1, 2, 3, 4, 5, 6]⟩, ⟨none, .store N.zav (T 8) (T 6), 0, none, [8, 6, 0, 1, 2, 3, 4, 5, 6]⟩]
def lAppN (N : Nums) (Tt idx ft et i p : Nat) : List ROp := [
 ⟨some 0, .fieldAddr N.zap (V 2) 3, 0, none, []⟩, ⟨some 1, .load N.zv (T 0), 0, none, [0]⟩, ⟨some 2, .fieldAddr N.zap (V 2) 3, 0, none, []⟩, ⟨some 3, .load N.zv (T 2), 0, none, [2]⟩,
 ⟨some 4, .indexAddr N.zv (T 3) (.const (.int .i64 i)), 0, none, [3]⟩, ⟨some 5, .fieldAddr N.zap (T 4) 3, 0, none, [4]⟩, ⟨some 6, .load N.zv (T 5), 0, none, [5]⟩,
 ⟨some 7, .move (V 0), 0, none, []⟩, ⟨some 8, .nilCheck (T 7), 0, none, [7]⟩, ⟨some 9, .fieldAddr Tt (T 8) idx, 0, none, [8]⟩, ⟨some 10, .load ft (T 9), 0, none, [9]⟩, ⟨some 11, .move (V p), 0, none, []⟩, ⟨some 12, .indexAddr ft (T 10) (T 11), 0, none, [10, 11]⟩,
 ⟨some 13, .load et (T 12), 0, none, [12]⟩, ⟨some 14, .convert et N.zde (T 13), 0, none, [13]⟩, ⟨some 15, .build N.zap #[(0, T 14)], 0, none, [14]⟩, ⟨some 16, .buildSlice N.zv 1 #[(0, T 15)], 0, none, [15]⟩, ⟨some 17, .call ⟨.builtin .append, #[T 6, T 16], #[N.zv, N.zv]⟩, N.zv, none, [6, 16]⟩,
 ⟨some 18, .indexAddr N.zv (T 1) (.const (.int .i64 i)), 0, none, [1, 0, 1, 2, 3, 4, 5, 6, 7, 8, 9, 10, 11, 12, 13, 14, 15, 16, 17]⟩, ⟨some 19, .fieldAddr N.zap (T 18) 3, 0, none, [18, 0, 1, 2, 3, 4, 5, 6, 7, 8, 9, 10, 11, 12, 13, 14, 15, 16, 17]⟩,
 ⟨none, .store N.zv (T 19) (T 17), 0, none, [19, 17, 17, 0, 1, 2, 3, 4, 5, 6, 7, 8, 9, 10, 11, 12, 13, 14, 15, 16, 17]⟩]
def lAppS (N : Nums) (Tt idx ft i p : Nat) : List ROp := [
 ⟨some 0, .fieldAddr N.zap (V 2) 3, 0, none, []⟩, ⟨some 1, .load N.zv (T 0), 0, none, [0]⟩, ⟨some 2, .fieldAddr N.zap (V 2) 3, 0, none, []⟩, ⟨some 3, .load N.zv (T 2), 0, none, [2]⟩,
 ⟨some 4, .indexAddr N.zv (T 3) (.const (.int .i64 i)), 0, none, [3]⟩, ⟨some 5, .fieldAddr N.zap (T 4) 3, 0, none, [4]⟩, ⟨some 6, .load N.zv (T 5), 0, none, [5]⟩,
 ⟨some 7, .move (V 0), 0, none, []⟩, ⟨some 8, .nilCheck (T 7), 0, none, [7]⟩, ⟨some 9, .fieldAddr Tt (T 8) idx, 0, none, [8]⟩, ⟨some 10, .load ft (T 9), 0, none, [9]⟩, ⟨some 11, .move (V p), 0, none, []⟩, ⟨some 12, .indexAddr ft (T 10) (T 11), 0, none, [10, 11]⟩,
 ⟨some 13, .load N.zai (T 12), 0, none, [12]⟩, ⟨some 14, .convert N.zai N.za (T 13), 0, none, [13]⟩, ⟨some 15, .build N.zap #[(1, T 14)], 0, none, [14]⟩, ⟨some 16, .buildSlice N.zv 1 #[(0, T 15)], 0, none, [15]⟩, ⟨some 17, .call ⟨.builtin .append, #[T 6, T 16], #[N.zv, N.zv]⟩, N.zv, none, [6, 16]⟩,
 ⟨some 18, .indexAddr N.zv (T 1) (.const (.int .i64 i)), 0, none, [1, 0, 1, 2, 3, 4, 5, 6, 7, 8, 9, 10, 11, 12, 13, 14, 15, 16, 17]⟩, ⟨some 19, .fieldAddr N.zap (T 18) 3, 0, none, [18, 0, 1, 2, 3, 4, 5, 6, 7, 8, 9, 10, 11, 12, 13, 14, 15, 16, 17]⟩,
 ⟨none, .store N.zv (T 19) (T 17), 0, none, [19, 17, 17, 0, 1, 2, 3, 4, 5, 6, 7, 8, 9, 10, 11, 12, 13, 14, 15, 16, 17]⟩]
def lApp0N (N : Nums) (Tt idx ft et i p : Nat) : List ROp := [
 ⟨some 0, .fieldAddr N.zap (V 2) 3, 0, none, []⟩, ⟨some 1, .load N.zv (T 0), 0, none, [0]⟩, ⟨some 2, .indexAddr N.zv (T 1) (.const (.int .i64 i)), 0, none, [1]⟩, ⟨some 3, .fieldAddr N.zap (T 2) 3, 0, none, [2]⟩, ⟨some 4, .load N.zv (T 3), 0, none, [3]⟩,
 ⟨some 5, .move (V 0), 0, none, []⟩, ⟨some 6, .nilCheck (T 5), 0, none, [5]⟩, ⟨some 7, .fieldAddr Tt (T 6) idx, 0, none, [6]⟩, ⟨some 8, .load ft (T 7), 0, none, [7]⟩, ⟨some 9, .move (V p), 0, none, []⟩, ⟨some 10, .indexAddr ft (T 8) (T 9), 0, none, [8, 9]⟩,
 ⟨some 11, .load et (T 10), 0, none, [10]⟩, ⟨some 12, .convert et N.zde (T 11), 0, none, [11]⟩, ⟨some (p + 2 + 100), .build N.zap #[(0, T 12)], 0, none, [12]⟩, ⟨some (p + 3 + 100), .call ⟨.builtin .len, #[T 4], #[N.zv]⟩, N.ze, none, [4]⟩, ⟨some 15, .buildSlice N.zv 1 #[(0, zTop)], 0, none, []⟩,
 ⟨some (p + 4 + 100), .call ⟨.builtin .append, #[T 4, T 15], #[N.zv, N.zv]⟩, N.zv, none, [4, 15, 0, 1, 2, 3, 4, 5, 6, 7, 8, 9, 10, 11, 12, 13, 14, 15]⟩,
 ⟨some 17, .indexAddr N.zv (T 1) (.const (.int .i64 i)), 0, none, [1, 0, 1, 2, 3, 4, 5, 6, 7, 8, 9, 10, 11, 12, 13, 14, 15, 16]⟩, ⟨some 18, .fieldAddr N.zap (T 17) 3, 0, none, [17, 0, 1, 2, 3, 4, 5, 6, 7, 8, 9, 10, 11, 12, 13, 14, 15, 16]⟩,
 ⟨none, .store N.zv (T 18) (V (p + 4)), 0, none, [18, 16, 16, 0, 1, 2, 3, 4, 5, 6, 7, 8, 9, 10, 11, 12, 13, 14, 15, 16]⟩]
def lApp0S (N : Nums) (Tt idx ft i p : Nat) : List ROp := [
 ⟨some 0, .fieldAddr N.zap (V 2) 3, 0, none, []⟩, ⟨some 1, .load N.zv (T 0), 0, none, [0]⟩, ⟨some 2, .indexAddr N.zv (T 1) (.const (.int .i64 i)), 0, none, [1]⟩, ⟨some 3, .fieldAddr N.zap (T 2) 3, 0, none, [2]⟩, ⟨some 4, .load N.zv (T 3), 0, none, [3]⟩,
 ⟨some 5, .move (V 0), 0, none, []⟩, ⟨some 6, .nilCheck (T 5), 0, none, [5]⟩, ⟨some 7, .fieldAddr Tt (T 6) idx, 0, none, [6]⟩, ⟨some 8, .load ft (T 7), 0, none, [7]⟩, ⟨some 9, .move (V p), 0, none, []⟩, ⟨some 10, .indexAddr ft (T 8) (T 9), 0, none, [8, 9]⟩,
 ⟨some 11, .load N.zai (T 10), 0, none, [10]⟩, ⟨some 12, .convert N.zai N.za (T 11), 0, none, [11]⟩, ⟨some (p + 2 + 100), .build N.zap #[(1, T 12)], 0, none, [12]⟩, ⟨some (p + 3 + 100), .call ⟨.builtin .len, #[T 4], #[N.zv]⟩, N.ze, none, [4]⟩, ⟨some 15, .buildSlice N.zv 1 #[(0, zTop)], 0, none, []⟩,
 ⟨some (p + 4 + 100), .call ⟨.builtin .append, #[T 4, T 15], #[N.zv, N.zv]⟩, N.zv, none, [4, 15, 0, 1, 2, 3, 4, 5, 6, 7, 8, 9, 10, 11, 12, 13, 14, 15]⟩,
 ⟨some 17, .indexAddr N.zv (T 1) (.const (.int .i64 i)), 0, none, [1, 0, 1, 2, 3, 4, 5, 6, 7, 8, 9, 10, 11, 12, 13, 14, 15, 16]⟩, ⟨some 18, .fieldAddr N.zap (T 17) 3, 0, none, [17, 0, 1, 2, 3, 4, 5, 6, 7, 8, 9, 10, 11, 12, 13, 14, 15, 16]⟩,
 ⟨none, .store N.zv (T 18) (V (p + 4)), 0, none, [18, 16, 16, 0, 1, 2, 3, 4, 5, 6, 7, 8, 9, 10, 11, 12, 13, 14, 15, 16]⟩]
end
section
variable {P : Program} {N : Nums}
def cTUuid (N : Nums) (Tt idx i : Nat) : C := .draw [
 ⟨some 0, .fieldAddr N.zap (V 2) 3, 0, none, []⟩, ⟨some 1, .load N.zv (T 0), 0, none, [0]⟩, ⟨some 2, .move (V 0), 0, none, []⟩, ⟨some 3, .nilCheck (T 2), 0, none, [2]⟩, ⟨some 4, .fieldAddr Tt (T 3) idx, 0, none, [3]⟩, ⟨some 5, .slice N.zu (T 4) none none none, 0, none, [4]⟩,
 ⟨some 6, .call ⟨.builtin .append, #[.const (.slice none 0 0), T 5], #[N.za, N.za]⟩, N.za, none, [5]⟩, ⟨some 7, .build N.zap #[(1, T 6)], 0, none, [6]⟩,
 ⟨some 8, .indexAddr N.zv (T 1) (.const (.int .i64 i)), 0, none, [1, 0, 1, 2, 3, 4, 5, 6, 7]⟩, ⟨none, .store N.zap (T 8) (T 7), 0, none, [8, 7, 6, 0, 1, 2, 3, 4, 5, 6, 7]⟩]
def cTRow (N : Nums) (Tt idx f pT i : Nat) : C := .draw [
 ⟨some 0, .fieldAddr N.zap (V 2) 3, 0, none, []⟩, ⟨some 1, .load N.zv (T 0), 0, none, [0]⟩, ⟨some 2, .move (V 0), 0, none, []⟩, ⟨some 3, .nilCheck (T 2), 0, none, [2]⟩, ⟨some 4, .fieldAddr Tt (T 3) idx, 0, none, [3]⟩,
 ⟨some 5, .call ⟨.value (.func f), #[T 4], #[pT]⟩, N.zap, none, [4]⟩, ⟨some 6, .indexAddr N.zv (T 1) (.const (.int .i64 i)), 0, none, [1, 0, 1, 2, 3, 4, 5]⟩, ⟨none, .store N.zap (T 6) (T 5), 0, none, [6, 5, 5, 0, 1, 2, 3, 4, 5]⟩]
end
section
variable {P : Program} {N : Nums}
def lAppU (N : Nums) (Tt idx ft i p : Nat) : List ROp := [
 ⟨some 0, .fieldAddr N.zap (V 2) 3, 0, none, []⟩, ⟨some 1, .load N.zv (T 0), 0, none, [0]⟩, ⟨some 2, .fieldAddr N.zap (V 2) 3, 0, none, []⟩, ⟨some 3, .load N.zv (T 2), 0, none, [2]⟩,
 ⟨some 4, .indexAddr N.zv (T 3) (.const (.int .i64 i)), 0, none, [3]⟩, ⟨some 5, .fieldAddr N.zap (T 4) 3, 0, none, [4]⟩, ⟨some 6, .load N.zv (T 5), 0, none, [5]⟩,
 ⟨some 7, .move (V 0), 0, none, []⟩, ⟨some 8, .nilCheck (T 7), 0, none, [7]⟩, ⟨some 9, .fieldAddr Tt (T 8) idx, 0, none, [8]⟩, ⟨some 10, .load ft (T 9), 0, none, [9]⟩, ⟨some 11, .move (V p), 0, none, []⟩, ⟨some 12, .indexAddr ft (T 10) (T 11), 0, none, [10, 11]⟩,
 ⟨some 13, .slice N.zu (T 12) none none none, 0, none, [12]⟩, ⟨some 14, .call ⟨.builtin .append, #[.const (.slice none 0 0), T 13], #[N.za, N.za]⟩, N.za, none, [13]⟩, ⟨some 15, .build N.zap #[(1, T 14)], 0, none, [14]⟩, ⟨some 16, .buildSlice N.zv 1 #[(0, T 15)], 0, none, [15]⟩, ⟨some 17, .call ⟨.builtin .append, #[T 6, T 16], #[N.zv, N.zv]⟩, N.zv, none, [6, 16, 14]⟩,
 ⟨some 18, .indexAddr N.zv (T 1) (.const (.int .i64 i)), 0, none, [1, 0, 1, 2, 3, 4, 5, 6, 7, 8, 9, 10, 11, 12, 13, 14, 15, 16, 17]⟩, ⟨some 19, .fieldAddr N.zap (T 18) 3, 0, none, [18, 0, 1, 2, 3, 4, 5, 6, 7, 8, 9, 10, 11, 12, 13, 14, 15, 16, 17]⟩,
 ⟨none, .store N.zv (T 19) (T 17), 0, none, [19, 17, 17, 0, 1, 2, 3, 4, 5, 6, 7, 8, 9, 10, 11, 12, 13, 14, 15, 16, 17]⟩]
def lApp0U (N : Nums) (Tt idx ft i p : Nat) : List ROp := [
 ⟨some 0, .fieldAddr N.zap (V 2) 3, 0, none, []⟩, ⟨some 1, .load N.zv (T 0), 0, none, [0]⟩, ⟨some 2, .indexAddr N.zv (T 1) (.const (.int .i64 i)), 0, none, [1]⟩, ⟨some 3, .fieldAddr N.zap (T 2) 3, 0, none, [2]⟩, ⟨some 4, .load N.zv (T 3), 0, none, [3]⟩,
 ⟨some 5, .move (V 0), 0, none, []⟩, ⟨some 6, .nilCheck (T 5), 0, none, [5]⟩, ⟨some 7, .fieldAddr Tt (T 6) idx, 0, none, [6]⟩, ⟨some 8, .load ft (T 7), 0, none, [7]⟩, ⟨some 9, .move (V p), 0, none, []⟩, ⟨some 10, .indexAddr ft (T 8) (T 9), 0, none, [8, 9]⟩,
 ⟨some 11, .slice N.zu (T 10) none none none, 0, none, [10]⟩, ⟨some 12, .call ⟨.builtin .append, #[.const (.slice none 0 0), T 11], #[N.za, N.za]⟩, N.za, none, [11]⟩, ⟨some (p + 2 + 100), .build N.zap #[(1, T 12)], 0, none, [12]⟩, ⟨some (p + 3 + 100), .call ⟨.builtin .len, #[T 4], #[N.zv]⟩, N.ze, none, [4]⟩, ⟨some 15, .buildSlice N.zv 1 #[(0, zTop)], 0, none, []⟩,
 ⟨some (p + 4 + 100), .call ⟨.builtin .append, #[T 4, T 15], #[N.zv, N.zv]⟩, N.zv, none, [4, 15, 12, 0, 1, 2, 3, 4, 5, 6, 7, 8, 9, 10, 11, 12, 13, 14, 15]⟩,
 ⟨some 17, .indexAddr N.zv (T 1) (.const (.int .i64 i)), 0, none, [1, 0, 1, 2, 3, 4, 5, 6, 7, 8, 9, 10, 11, 12, 13, 14, 15, 16]⟩, ⟨some 18, .fieldAddr N.zap (T 17) 3, 0, none, [17, 0, 1, 2, 3, 4, 5, 6, 7, 8, 9, 10, 11, 12, 13, 14, 15, 16]⟩,
 ⟨none, .store N.zv (T 18) (V (p + 4)), 0, none, [18, 16, 16, 0, 1, 2, 3, 4, 5, 6, 7, 8, 9, 10, 11, 12, 13, 14, 15, 16]⟩]
end
section
variable (N : Nums) (tf : TypeId → FuncId × FuncId)
def El.app0 (Tt idx st i p : Nat) : El → C
 | .pr .bool => .skip
 | .pr .i64 => .skip
 | .pr .uuid => .seq (.draw (lApp0U N Tt idx st i p)) (cPut N p)
 | .pr k => .seq (.draw (lApp0N N Tt idx st (k.t N) i p)) (cPut N p)
 | .txt .str => .seq (.draw (lApp0S N Tt idx st i p)) (cPut N p)
 | .txt _ => .skip
 | .row T' pT _ _ => .seq (.draw (lApp0 N Tt idx st (tf T').1 pT i p)) (cPut N p)
def El.app (Tt idx st i p : Nat) : El → C
 | .pr .bool => .skip
 | .pr .i64 => .skip
 | .pr .uuid => .draw (lAppU N Tt idx st i p)
 | .pr k => .draw (lAppN N Tt idx st (k.t N) i p)
 | .txt .str => .draw (lAppS N Tt idx st i p)
 | .txt _ => .skip
 | .row T' pT _ _ => .draw (lApp N Tt idx st (tf T').1 pT i p)
def Ty.tgen (Tt idx i q k : Nat) : Ty → List C
 | .pr .bool _ => [cTBool N Tt idx i]
 | .pr .i64 _ => [cTNum64 N Tt idx N.zde i]
 | .pr .uuid _ => [cTUuid N Tt idx i]
 | .pr kk _ => [cTNum N Tt idx (kk.t N) i]
 | .txt .str => [cTStr N Tt idx i]
 | .txt .nstr => [cTNstr N Tt idx i]
 | .txt _ => [cTOct N Tt idx i]
 | .arr st _ e => [cTNull N Tt idx st i, cTList N Tt idx st q k (e.app0 N tf Tt idx st i (q + 6)) (e.app N tf Tt idx st i (q + 6))]
 | .row T' pT _ _ => [cTRow N Tt idx (tf T').1 pT i]
def Ty.tq : Ty → Nat
 | .arr .. => 8
 | _ => 0
def Ty.tk : Ty → Nat
 | .arr .. => 2
 | _ => 0
def Fds.tgen (Tt : Nat) : Fds → (idx i q k : Nat) → List C
 | .cons _ ty r, idx, i, q, k => ty.tgen N tf Tt idx i q k ++ r.tgen Tt (idx + 1) (i + 1) (q + ty.tq) (k + ty.tk)
 | _, _, _, _, _ => []
end
def Fds.count : Fds → Nat
 | .cons _ _ r => r.count + 1
 | _ => 0
structure TellP (P : Program) (f off : Nat) (fs : Fds) : Prop where
 has : zcs P f
 ok : ∀ (w : World) (G : Nat → Prop) (b o : Nat) (l : List Val) (css : List (List Value)), (∀ k, G k → k < w.heap.size) → b < w.heap.size → fs.okV l → RepL w G l css → w.rangeAt b (o + off) css.flatten → Call P f #[.pointer (some ⟨b, o, none⟩)] w (Told w (fs.tr l))
section
variable {P : Program} {N : Nums} {tf : TypeId → FuncId × FuncId}
theorem WL_one {loc : List Nat} {N' : Nat} {Q : Exit → Env → World → Prop} {σ : Env} {w : World} {x : C} {l : List C} (h : W P loc N' x (fun e σ w => match e with | .normal => WL P loc N' l Q σ w | _ => False) σ w) : WL P loc N' (x :: l) Q σ w :=
 zbi fun K hK => zin h fun e σ w hq => by
  cases e with
  | normal => exact hK _ _ hq
  | _ => exact hq.elim
theorem RepL.get {w : World} {G : Nat → Prop} : ∀ {l : List Val} {css : List (List Value)} {j : Nat} {v : Val}, RepL w G l css → l[j]? = some v → ∃ c, css[j]? = some c ∧ Rep w G v c
 | [], _, j, v, _, hj => by simp at hj
 | v' :: l, _, 0, v, ⟨c, r, h1, h2, h3⟩, hj => by subst h1; simp at hj; subst hj; exact ⟨c, rfl, h2⟩
 | v' :: l, _, j + 1, v, ⟨c, r, h1, h2, h3⟩, hj => by subst h1; simpa using RepL.get h3 (by simpa using hj)
end
section
variable {P : Program} {N : Nums} {tf : TypeId → FuncId × FuncId}
mutual
theorem Ty.rep_len {w : World} {G : Nat → Prop} : ∀ (t : Ty) (v : Val) {cs : List Value}, t.okV v → Rep w G v cs → cs.length = t.sz
 | .pr k d, .num v, cs, hv, hr => by
  simp only [Rep] at hr
  subst hr
  cases k with
  | bool => obtain ⟨x, rfl⟩ := hv; rfl
  | uuid => obtain ⟨x, rfl, hx⟩ := hv; simpa [Value.cells, Ty.sz, PK.sz] using hx
  | _ => obtain ⟨x, rfl, _⟩ := hv; rfl
 | .txt k, v, cs, hv, hr => by
  cases k <;> cases v <;> simp only [Ty.okV, Txt.okV] at hv
  ·obtain ⟨x, rfl, _⟩ := hv; simp only [Rep] at hr; subst hr; rfl
  ·rename_i o
   cases o with
   | none => simp only [Rep] at hr; subst hr; rfl
   | some s => simp only [Rep] at hr; obtain ⟨b, rfl, _⟩ := hr; rfl
  ·simp only [Rep] at hr; obtain ⟨u, rfl, _⟩ := hr; rfl
  ·simp only [Rep] at hr; obtain ⟨u, rfl, _⟩ := hr; rfl
 | .arr st nul e, v, cs, hv, hr => by
  cases v <;> simp only [Ty.okV] at hv
  ·simp only [Rep] at hr; subst hr; rfl
  ·simp only [Rep] at hr; obtain ⟨b, c, css, rfl, _⟩ := hr; rfl
 | .row T pT d fs, v, cs, hv, hr => by
  cases v <;> simp only [Ty.okV] at hv
  simp only [Rep] at hr
  obtain ⟨css, rfl, hrl⟩ := hr
  simp only [Ty.sz]
  exact Fds.rep_len fs _ hv hrl
 | .pr _ _, .nstr _, _, hv, _ => by simp only [Ty.okV] at hv
 | .pr _ _, .oct _, _, hv, _ => by simp only [Ty.okV] at hv
 | .pr _ _, .nilA, _, hv, _ => by simp only [Ty.okV] at hv
 | .pr _ _, .arr _ _, _, hv, _ => by simp only [Ty.okV] at hv
 | .pr _ _, .row _, _, hv, _ => by simp only [Ty.okV] at hv
 | .pr _ _, .nilP, _, hv, _ => by simp only [Ty.okV] at hv
 | .pr _ _, .ptr _, _, hv, _ => by simp only [Ty.okV] at hv
 | .pr _ _, .tags _, _, hv, _ => by simp only [Ty.okV] at hv
theorem Fds.rep_len {w : World} {G : Nat → Prop} : ∀ (fs : Fds) (l : List Val) {css : List (List Value)}, fs.okV l → RepL w G l css → css.flatten.length = fs.sz
 | .nil, l, css, hv, hr => by
  simp only [Fds.okV] at hv
  subst hv
  simp only [RepL] at hr
  subst hr; rfl
 | .tags, l, css, hv, hr => by
  match l, hv with
  | [.tags u], _ =>
   obtain ⟨c, r, rfl, h1, h2⟩ := hr
   simp only [RepL] at h2
   subst h2
   simp only [Rep] at h1
   obtain ⟨v, rfl, _⟩ := h1
   rfl
 | .cons g t r, [], css, hv, hr => by simp only [Fds.okV] at hv
 | .cons g t r, v :: l, css, hv, hr => by
  obtain ⟨c, rest, rfl, h1, h2⟩ := hr
  rw [List.flatten_cons, List.length_append, Ty.rep_len t v hv.1 h1, Fds.rep_len r l hv.2 h2]
  rfl
end
end
theorem wrap_again {k : IntKind} (hk : k = .i8 ∨ k = .i16 ∨ k = .i32 ∨ k = .i64) (x : Int) : IntKind.i64.wrap (k.wrap x) = k.wrap x := by
 refine wrap_i64 ?_ ?_ <;> rcases hk with rfl | rfl | rfl | rfl <;> simp [IntKind.wrap, IntKind.bits, IntKind.signed] <;> split <;> omega
def Ty.dOk : Ty → Prop
 | .pr k d => k.okV (d.getD k.zero)
 | .row .. => False
 | _ => True
mutual
def El.dOk' : El → Prop
 | .row _ _ _ fs => fs.dOk
 | _ => True
def Fds.dOk : Fds → Prop
 | .cons _ (.pr k d) r => k.okV (d.getD k.zero) ∧ r.dOk
 | .cons _ (.arr _ _ e) r => e.dOk' ∧ r.dOk
 | .cons _ (.row _ _ _ fs) r => fs.dOk ∧ r.dOk
 | .cons _ (.txt _) r => r.dOk
 | _ => True
end
theorem zoo (n : Int) (s : RS) : (zed n s).length ≤ n.toNat := by
 unfold zed
 split
 ·simp
 ·rw [List.length_take]; omega
theorem be2_lt : ∀ {l : List UInt8}, l.length ≤ 2 → be l < 65536
 | [], _ => by decide
 | [x], _ => by have := x.toNat_lt; simp [be]; omega
 | [x, y], _ => by have := x.toNat_lt; have := y.toNat_lt; simp [be]; omega
 | _ :: _ :: _ :: _, h => by simp at h
theorem pk_rdV (k : PK) (s : RS) : k.okV (k.rd s).1 := by
 have num : ∀ (ik : IntKind) (n : Nat), (ik = .i8 ∨ ik = .i16 ∨ ik = .i32 ∨ ik = .i64) → ∃ x, (zea n (fun l => .int ik (ik.wrap (be l))) (.int ik 0) s).1 = .int ik x ∧ IntKind.i64.wrap x = x := by
  intro ik n h
  unfold zea
  split
  ·exact ⟨0, rfl, by decide⟩
  ·exact ⟨_, rfl, wrap_again h _⟩
 cases k with
 | bool =>
  simp only [PK.rd, PK.okV, zea]
  split
  ·exact ⟨_, rfl⟩
  ·exact ⟨_, rfl⟩
 | i8 => exact num .i8 1 (.inl rfl)
 | i16 => exact num .i16 2 (.inr (.inl rfl))
 | u16 =>
  show ∃ n, (zea 2 (fun l => Value.int .u16 (be l)) (.int .u16 0) s).1 = .int .u16 n ∧ IntKind.i64.wrap n = n
  unfold zea
  split
  ·exact ⟨0, rfl, by decide⟩
  ·refine ⟨_, rfl, ?_⟩
   have := be2_lt (l := s.l.take 2) (by rw [List.length_take]; omega)
   exact wrap_i64 (by omega) (by omega)
 | i32 => exact num .i32 4 (.inr (.inr (.inl rfl)))
 | i64 => exact num .i64 8 (.inr (.inr (.inr rfl)))
 | uuid =>
  simp only [PK.rd, PK.okV, zuz]
  refine ⟨_, rfl, ?_⟩
  rw [List.length_take, List.length_append, List.length_replicate]
  omega
theorem u_span (s : RS) (t : RS) : (zed ((uvN s).1 - 1 : Int) t).length < big := by
 have := zoo ((uvN s).1 - 1 : Int) t
 have := zrv s
 unfold big; omega
theorem i16_span (s : RS) (t : RS) : (zed (i16N s).1 t).length < big := by
 have := zoo (i16N s).1 t
 have := zgx s
 unfold big; omega
theorem i32_span (s : RS) (t : RS) : (zed (i32N s).1 t).length < big := by
 have := zoo (i32N s).1 t
 have := zjf s
 unfold big; omega
theorem zop {n : Int} {t : RS} (h : (zed n t).length < big) : ((zoq n t).getD []).length < big := by
 unfold zoq
 split
 ·exact (by decide : ([] : List UInt8).length < big)
 ·exact h
theorem txt_rd (fl : Bool) (k : Txt) (s : RS) : k.okV (k.rd fl s).1 := by
 have hb : ([] : List UInt8).length < big := by decide
 cases k <;> cases fl <;> simp only [Txt.rd, Txt.okV, Bool.false_eq_true, if_false, if_true]
 ·exact ⟨_, rfl, i16_span s _⟩
 ·exact ⟨_, rfl, u_span s _⟩
 ·unfold znd strR; split
  ·exact hb
  ·exact i16_span s _
 ·unfold zim zrb; split
  ·exact hb
  ·exact u_span s _
 ·unfold bytR; split
  ·exact hb
  ·exact zop (i32_span s _)
 ·unfold zvz; split
  ·exact hb
  ·exact zop (u_span s _)
 ·unfold zsn; split
  ·exact hb
  ·exact zop (i32_span s _)
 ·unfold zmd; split
  ·exact hb
  ·exact zop (u_span s _)
theorem txt_ini (k : Txt) : k.okV k.iniV := by
 cases k
 ·exact ⟨[], rfl, by decide⟩
 ·show ([] : List UInt8).length < big; decide
 ·show ([] : List UInt8).length < big; decide
 ·show ([] : List UInt8).length < big; decide
theorem rdN_ok {f : RS → Option (Val × RS)} {p : Val → Prop} (hf : ∀ s v s', f s = some (v, s') → p v) : ∀ (n : Nat) (s : RS) (l : List Val) (s' : RS), rdN f n s = some (l, s') → l.length = n ∧ ∀ v ∈ l, p v
 | 0, s, l, s', h => by simp [rdN] at h; obtain ⟨rfl, rfl⟩ := h; simp
 | n + 1, s, l, s', h => by
  simp only [rdN] at h
  split at h
  ·cases h
  ·rename_i v s1 h1
   split at h
   ·cases h
   ·rename_i l1 s2 h2
    simp only [Option.some.injEq, Prod.mk.injEq] at h
    obtain ⟨rfl, rfl⟩ := h
    obtain ⟨a, b⟩ := rdN_ok hf n s1 l1 s2 h2
    refine ⟨by simp [a], fun x hx => ?_⟩
    rcases List.mem_cons.1 hx with rfl | hx
    ·exact hf _ _ _ h1
    ·exact b x hx
theorem tput_len (l : List (Nat × List UInt8)) (k : Nat) (v : List UInt8) : (tput l k v).length ≤ l.length + 1 := by
 unfold tput
 split <;> simp
theorem tput_big {l : List (Nat × List UInt8)} {k : Nat} {v : List UInt8} (hl : ∀ x ∈ l, x.2.length < big) (hv : v.length < big) : ∀ x ∈ tput l k v, x.2.length < big := by
 intro x hx
 unfold tput at hx
 split at hx
 ·obtain ⟨y, hy, rfl⟩ := List.mem_map.1 hx
  split
  ·exact hv
  ·exact hl y hy
 ·rcases List.mem_append.1 hx with h | h
  ·exact hl x h
  ·simp at h; subst h; exact hv
theorem tagsN_ok : ∀ (n : Nat) (l : List (Nat × List UInt8)) (s : RS), (∀ x ∈ l, x.2.length < big) → (ztn n l s).1.length ≤ l.length + n ∧ ∀ x ∈ (ztn n l s).1, x.2.length < big
 | 0, l, s, h => ⟨Nat.le_refl _, h⟩
 | n + 1, l, s, h => by
  simp only [ztn]
  have hv : (zed ((uvN (uvN s).2).1 : Int) (uvN (uvN s).2).2).length < big := by
   have := zoo ((uvN (uvN s).2).1 : Int) (uvN (uvN s).2).2
   have := zrv (uvN s).2
   unfold big; omega
  obtain ⟨a, b⟩ := tagsN_ok n (tput l (uvN s).1 (zed ((uvN (uvN s).2).1 : Int) (uvN (uvN s).2).2)) (ziq ((uvN (uvN s).2).1 : Int) (uvN (uvN s).2).2) (tput_big h hv)
  have := tput_len l (uvN s).1 (zed ((uvN (uvN s).2).1 : Int) (uvN (uvN s).2).2)
  exact ⟨by omega, b⟩
theorem tagsR_ok (s : RS) : (ztm s).1.length < big ∧ ∀ x ∈ (ztm s).1, x.2.length < big := by
 obtain ⟨a, b⟩ := tagsN_ok (uvN s).1 [] (uvN s).2 (fun x hx => by simp at hx)
 have := zrv s
 simp only [List.length_nil, Nat.zero_add] at a
 exact ⟨by unfold ztm big; omega, b⟩
section
variable (ver : Int) (fl : Bool)
mutual
theorem Ty.rd_ok : ∀ (t : Ty) (g : Gd) (r : Fds), (Fds.cons g t r).dOk → ∀ (s : RS) (v : Val) (s' : RS), t.rd ver fl s = some (v, s') → t.okV v
 | .pr k d, _, _, _, s, v, s', h => by
  simp only [Ty.rd, Option.some.injEq, Prod.mk.injEq] at h
  obtain ⟨rfl, rfl⟩ := h
  exact pk_rdV k s
 | .txt k, _, _, _, s, v, s', h => by
  simp only [Ty.rd, Option.some.injEq] at h
  simp only [Ty.okV]
  rw [show v = (k.rd fl s).1 by rw [h]]
  exact txt_rd fl k s
 | .arr st nul e, _, _, hd, s, v, s', h => by
  simp only [Ty.rd] at h
  have hbnd := zum fl s
  simp only [lenX] at hbnd
  generalize (if fl = true then zle s else arrR s) = X at h hbnd
  split at h
  ·cases h
  ·split at h
   ·split at h
    ·cases h
    ·rename_i l s1 hr
     simp only [Option.some.injEq, Prod.mk.injEq] at h
     obtain ⟨rfl, rfl⟩ := h
     obtain ⟨a, b⟩ := rdN_ok (p := e.okV) (fun s v s' hh => El.rd_ok e hd.1 s v s' hh) _ _ _ _ hr
     refine ⟨rfl, ?_, b⟩
     unfold big; omega
   ·simp only [Option.some.injEq, Prod.mk.injEq] at h
    obtain ⟨rfl, rfl⟩ := h
    cases nul with
    | none => trivial
    | some n =>
     simp only
     split
     ·exact ⟨rfl, by decide, fun v hv => by simp at hv⟩
     ·trivial
 | .row T pT d fs, _, _, hd, s, v, s', h => by
  simp only [Ty.rd] at h
  split at h
  ·cases h
  ·rename_i l s1 hr
   simp only [Option.some.injEq, Prod.mk.injEq] at h
   obtain ⟨rfl, rfl⟩ := h
   exact Fds.rd_ok fs hd.1 s l s1 hr
theorem El.rd_ok : ∀ (e : El), e.dOk' → ∀ (s : RS) (v : Val) (s' : RS), e.rd ver fl s = some (v, s') → e.okV v
 | .pr k, _, s, v, s', h => by
  simp only [El.rd, Option.some.injEq, Prod.mk.injEq] at h
  obtain ⟨rfl, rfl⟩ := h
  exact pk_rdV k s
 | .txt k, _, s, v, s', h => by
  simp only [El.rd, Option.some.injEq] at h
  simp only [El.okV]
  rw [show v = (k.rd fl s).1 by rw [h]]
  exact txt_rd fl k s
 | .row T pT d fs, hd, s, v, s', h => by
  simp only [El.rd] at h
  split at h
  ·cases h
  ·rename_i l s1 hr
   simp only [Option.some.injEq, Prod.mk.injEq] at h
   obtain ⟨rfl, rfl⟩ := h
   exact Fds.rd_ok fs hd s l s1 hr
theorem Fds.rd_ok : ∀ (fs : Fds), fs.dOk → ∀ (s : RS) (l : List Val) (s' : RS), fs.rd ver fl s = some (l, s') → fs.okV l
 | .nil, _, s, l, s', h => by
  simp only [Fds.rd, Option.some.injEq, Prod.mk.injEq] at h
  obtain ⟨rfl, rfl⟩ := h
  rfl
 | .tags, _, s, l, s', h => by
  simp only [Fds.rd] at h
  split at h
  ·simp only [Option.some.injEq, Prod.mk.injEq] at h
   obtain ⟨rfl, rfl⟩ := h
   exact tagsR_ok s
  ·simp only [Option.some.injEq, Prod.mk.injEq] at h
   obtain ⟨rfl, rfl⟩ := h
   exact ⟨by decide, fun x hx => by simp at hx⟩
 | .cons g t r, hd, s, l, s', h => by
  simp only [Fds.rd] at h
  split at h
  ·cases h
  ·rename_i v s1 h1
   split at h
   ·cases h
   ·rename_i l1 s2 h2
    simp only [Option.some.injEq, Prod.mk.injEq] at h
    obtain ⟨rfl, rfl⟩ := h
    have hr : r.dOk := by cases t <;> first | exact hd.2 | exact hd
    refine ⟨?_, Fds.rd_ok r hr s1 l1 s2 h2⟩
    split at h1
    ·exact Ty.rd_ok t g r hd s v s1 h1
    ·simp only [Option.some.injEq, Prod.mk.injEq] at h1
     obtain ⟨rfl, rfl⟩ := h1
     exact Ty.ini_ok t g r hd
theorem Ty.ini_ok : ∀ (t : Ty) (g : Gd) (r : Fds), (Fds.cons g t r).dOk → t.okV t.iniV
 | .pr k d, _, _, hd => hd.1
 | .txt k, _, _, _ => txt_ini k
 | .arr .., _, _, _ => trivial
 | .row T pT d fs, _, _, hd => Fds.ini_ok fs hd.1
theorem Fds.ini_ok : ∀ (fs : Fds), fs.dOk → fs.okV fs.iniV
 | .nil, _ => rfl
 | .tags, _ => ⟨by decide, fun x hx => by simp at hx⟩
 | .cons g t r, hd => by
  have hr : r.dOk := by cases t <;> first | exact hd.2 | exact hd
  exact ⟨Ty.ini_ok t g r hd, Fds.ini_ok r hr⟩
end
end
mutual
def Ty.shB : Ty → Bool
 | .arr _ _ e => e.shB
 | .row _ _ _ fs => Nat.blt fs.count 1048576 && fs.shB
 | _ => true
def El.shB : El → Bool
 | .row _ _ _ fs => Nat.blt fs.count 1048576 && fs.shB
 | _ => true
def Fds.shB : Fds → Bool
 | .cons _ t r => t.shB && r.shB
 | _ => true
end
structure zyt where
 newP : Nat := 0
 setV : Nat := 0
 maxV : Nat := 0
 readF : Nat := 0
 unsF : Nat := 0
 readf : Nat := 0
 tell : Nat := 0
 maxI : Nat := 0
 tellI : Nat := 0
 unsI : Nat := 0
section
variable (N : Nums)
def c_new (tT dflt : Nat) : C := seqs [zhc 0 (.pointer none), .ops [⟨some 101, .alloc tT, 0, none, []⟩], .ops [⟨some 0, .call ⟨.value (.func dflt), #[V 1], #[tT]⟩, N.t_, none, []⟩], .ops [⟨some 100, .assign (V 1), 0, none, []⟩], .ret]
def c_set (tT : Nat) : C := .ops [⟨some 0, .move (V 0), 0, none, []⟩, ⟨some 1, .move (V 1), 0, none, []⟩, ⟨some 2, .nilCheck (T 0), 0, none, []⟩, ⟨some 3, .fieldAddr tT (T 2) 0, 0, none, []⟩, ⟨none, .store N.zbp (T 3) (T 1), 0, none, []⟩]
def c_rf (pT readf : Nat) (u : Bool) : C := seqs [zhc 2 .nilIface, .ops [⟨some 0, .move (V 0), 0, none, []⟩, ⟨some 1, .move (V 1), 0, none, []⟩, ⟨some 2, .call ⟨.value (.func readf), #[T 0, T 1, .const (.bool u)], #[pT, N.za, N.zav]⟩, N.zhi, none, []⟩, ⟨some 102, .assign (T 2), 0, none, []⟩], .ret]
def c_max (n : Nat) : C := seqs [zhc 1 (.int .i16 0), zhc 1 (.int .i16 n), .ret]
def c_maxI (pT newP maxV : Nat) : C := seqs [zhc 0 (.int .i64 0), .ops [⟨some 0, .call ⟨.value (.func newP), #[], #[]⟩, pT, none, []⟩, ⟨some 1, .call ⟨.value (.func maxV), #[T 0], #[pT]⟩, N.zbp, none, []⟩, ⟨some 2, .convert N.zbp N.ze (T 1), 0, none, []⟩, ⟨some 100, .assign (T 2), 0, none, []⟩], .ret]
end
structure DoorT (P : Program) (N : Nums) (m : Msg) (fx : Bool) (d : zyt) : Prop where
 msg : MsgT P N m fx
 vin : m.vin = false
 ti : ∃ fs by', TI P m.tT (.struct fs) (m.fs.sz + 1) by' (.agg (.int .i16 0 :: m.fs.zero).toArray)
 newP : FOk P d.newP 0 (c_new N m.tT m.dflt) [.var 0]
 setV : FOk P d.setV 2 (c_set N m.tT) []
 readf : FOk P d.readf 3 (m.gen N fx) [.var 3]
 tell : d.tell ≠ 0 → TellP P d.tell 1 m.fs
 dok : m.fs.dOk
 shB : m.fs.shB = true
 cnt : m.fs.count < 1048576
section
variable {P : Program} {N : Nums}
theorem call_new (B : Base P N) {m : Msg} {fx : Bool} {d : zyt} (D : DoorT P N m fx d) (w : World) :
  Call P d.newP #[] w fun v w' => v = .pointer (some ⟨w.heap.size, 0, none⟩) ∧ Mod w w' zad ∧ w'.there w.heap.size 0 (m.fs.sz + 1) ∧ (∃ x, w'.cell? ⟨w.heap.size, 0, none⟩ = some x) ∧ w'.rangeAt w.heap.size 1 m.fs.ini ∧ w.heap.size < w'.heap.size := by
 obtain ⟨fs, by', hT⟩ := D.ti
 refine D.newP.call rfl fun loc N' hlo => ?_
 unfold c_new
 refine zku (by simp) ?_
 refine zbi fun K hK => zak (hK _ _ ?_)
 clear hK K
 obtain ⟨w1, hw1⟩ : ∃ w1, w1 = w.alloc (.cells (Value.cells (.agg (.int .i16 0 :: m.fs.zero).toArray)) m.tT) := ⟨_, rfl⟩
 have m1 : Mod w w1 zad := by rw [hw1]; exact Mod.alloc _ _ _
 have s1 : w1.heap.size = w.heap.size + 1 := by rw [hw1]; exact zau _ _
 have r1 : w1.rangeAt w.heap.size 0 ([.int .i16 0] ++ m.fs.zero) := by rw [hw1]; exact zz w (.int .i16 0 :: m.fs.zero).toArray m.tT (0, 0)
 have t1 : w1.there w.heap.size 0 (m.fs.sz + 1) := by
  have := zbz w (.int .i16 0 :: m.fs.zero).toArray m.tT
  have e : (Value.int .i16 0 :: m.fs.zero).toArray.size = m.fs.sz + 1 := by simp [Fds.zero_length]
  rw [e] at this
  rw [hw1]; exact this
 refine zbi fun K hK => zj fun τ => ?_
 have hal := hT.run_alloc (w := w) (.tuple #[])
 rw [← hw1] at hal
 simp +decide only [bK, hal]
 refine hK _ _ (zc fun σ1 hσ => ?_)
 have g1 := hσ 1
 simp +decide only [bE, BEq.rfl, Nat.reduceAdd] at g1
 clear hσ hK K hal hw1
 have q1 := zae.1 r1
 refine zbi fun K hK => zj fun τ => ?_
 simp +decide only [bK]
 rw [zar D.msg.dflt.has]
 simp +decide only [bK, bE, Nat.reduceAdd, g1]
 refine (msg_dflt B D.msg t1 (by omega) (by simpa using q1.2) (zlb _ D.msg.plain)).mono ?_
 rintro _ w2 ⟨m2, r2⟩
 refine zc (K := fun σ' w' => zfr K _ .normal σ' w') fun σ2 hσ => hK _ _ ?_
 have g2 := hσ 1
 simp +decide only [bE, Nat.reduceBeqDiff, Nat.reduceAdd, g1] at g2
 clear hσ hK K
 refine zbi fun K hK => zj fun τ => ?_
 simp +decide only [bK, bE, Nat.reduceAdd, g2]
 refine hK _ _ (zc fun σ3 hσ => zbi fun K2 hK2 => zay ⟨.inr rfl, _, rfl, ?_⟩)
 have g3 := hσ 0
 simp +decide only [bE, BEq.rfl, Nat.zero_add] at g3
 have s2 := m2.size
 refine ⟨g3, m1.fresh m2 fun k o e => by have := e.1; omega, m2.there (by omega) t1, ⟨.int .i16 0, ?_⟩, r2, by omega⟩
 rw [m2.cell _ _ (by omega) (fun e => by have := e.2.1; omega)]
 exact q1.1 0 _ rfl
theorem call_set (B : Base P N) {m : Msg} {fx : Bool} {d : zyt} (D : DoorT P N m fx d) {w : World} {M : Nat} (x : Int) (ht : w.there M 0 (m.fs.sz + 1)) {u : Value} (hu : w.cell? ⟨M, 0, none⟩ = some u) :
  Call P d.setV #[.pointer (some ⟨M, 0, none⟩), .int .i16 x] w fun _ w' => Mod w w' (rng M 0 1) ∧ w'.cell? ⟨M, 0, none⟩ = some (.int .i16 x) ∧ w'.heap.size = w.heap.size := by
 refine D.setV.call rfl fun loc N' hlo => ?_
 unfold c_set
 refine zj fun τ => ?_
 have hst := B.int16.run_store1 (w := w) (b := M) (o := 0) (v := .int .i16 x) rfl (fun j hj => ht j (by omega))
 simp +decide only [bK, bE, Nat.reduceBeqDiff, BEq.rfl, Nat.reduceAdd, Nat.zero_add]
 rw [zw rfl]
 simp +decide only [bK, bE, Nat.reduceBeqDiff, BEq.rfl, Nat.add_zero, D.msg.v0.run, hst]
 exact ⟨.inl rfl, .tuple #[], rfl, Mod.setCell fun _ => ⟨rfl, Nat.le_refl _, by omega⟩, World.cell?_setCell_same _ _ _ hu, by simp [World.setCell]⟩
theorem call_rf (B : Base P N) (F : Fns P N) {m : Msg} {fx : Bool} {d : zyt} (D : DoorT P N m fx d) {f : Nat} {u : Bool} (hf : FOk P f 2 (c_rf N m.pT d.readf u) [.var 2]) {w : World} {lo hi M : Nat} {v e : Value} {nl : Bool} {l : List UInt8} {ver : Int}
  (hb : zbr w lo hi v nl l) (hhi : hi ≤ w.heap.size) (ht : w.there M 0 (m.fs.sz + 1)) (hM : M < w.heap.size) (hMs : M < lo ∨ hi ≤ M) (hMg : M ≠ N.zag) (hver : w.cell? ⟨M, 0, none⟩ = some (.int .i16 ver)) (hz : w.rangeAt M 1 m.fs.ini) (he : w.cell? ⟨N.zag, 0, none⟩ = some e) :
  Call P f #[.pointer (some ⟨M, 0, none⟩), v] w (zaad N m (m.rd fx ver ⟨l, false, nl⟩) lo hi M ver e w) := by
 refine hf.call rfl fun loc N' hlo => ?_
 unfold c_rf
 refine zku (by simp) ?_
 refine zbi fun K hK => zak (hK _ _ ?_)
 clear hK K
 obtain ⟨σ, hσ⟩ : ∃ σ, σ = upd (zcw #[.pointer (some ⟨M, 0, none⟩), v]) 2 .nilIface := ⟨_, rfl⟩
 have f0 : σ 0 = .pointer (some ⟨M, 0, none⟩) := by rw [hσ, zh (by decide)]; rfl
 have f1 : σ 1 = v := by rw [hσ, zh (by decide)]; rfl
 rw [← hσ]
 clear hσ
 refine zbi fun K hK => zj fun τ => ?_
 simp +decide only [bK, bE, Nat.reduceBeqDiff, Nat.reduceAdd, Nat.zero_add, f0, f1]
 rw [zix D.readf.has]
 simp +decide only [bK, bE, Nat.reduceBeqDiff, BEq.rfl]
 refine (zwb B F D.vin D.msg D.readf hb hhi ht hM hMs hMg hver hz (zps _ D.msg.plain) he (u := u)).mono ?_
 intro v' w' hpost
 refine hK _ _ (zc fun σ3 hσ => zbi fun K2 hK2 => zay ⟨.inr rfl, _, rfl, ?_⟩)
 have g3 := hσ 2
 simp +decide only [bE, BEq.rfl, Nat.reduceAdd] at g3
 rw [g3]; exact hpost
def zgb (w : World) (v : Value) (l : List UInt8) : Prop :=
 (∃ ad c, v = .slice ad 0 c ∧ l = []) ∨ ∃ a c, v = .slice (some a) l.length c ∧ l.length ≤ c ∧ a.block < w.heap.size ∧ ∀ j x, l[j]? = some x → w.cell? (a.add j) = some (zy x)
theorem zgb.stay {w w' : World} (m : Mod w w' zad) {v : Value} {l : List UInt8} (h : zgb w v l) (hs : ∀ a : Addr, a.block < w.heap.size → w'.cell? a = w.cell? a) : zgb w' v l := by
 rcases h with h | ⟨a, c, h1, h2, h3, h4⟩
 ·exact .inl h
 ·exact .inr ⟨a, c, h1, h2, Nat.lt_of_lt_of_le h3 m.size, fun j x hj => by rw [hs _ (by unfold Addr.add; split <;> exact h3)]; exact h4 j x hj⟩
theorem zzg (B : Base P N) {w : World} {v : Value} {l : List UInt8} {ty : TypeId} (h : zgb w v l) (hl : l.length < 1099511627776) :
  ∃ v' w', (Builtin.append_ #[N.za, N.za] ty #[.slice none 0 0, v]).run P w = .ok v' w' ∧ zbr w' w.heap.size w'.heap.size v' l.isEmpty l ∧ Mod w w' zad := by
 have empty : ∀ {ad : Option Addr} {c : Nat}, v = .slice ad 0 c → l = [] → ∃ v' w', (Builtin.append_ #[N.za, N.za] ty #[.slice none 0 0, v]).run P w = .ok v' w' ∧ zbr w' w.heap.size w'.heap.size v' l.isEmpty l ∧ Mod w w' zad := by
  intro ad c e1 e2
  subst e1 e2
  exact ⟨_, _, zob B.Lu8 B.uint8, .inl ⟨rfl, rfl, rfl⟩, .refl _ _⟩
 rcases h with ⟨ad, c, h1, h2⟩ | ⟨a, c, e, _, _, h3⟩
 ·exact empty h1 h2
 ·cases l with
  | nil => exact empty e rfl
  | cons x l =>
   obtain ⟨i, hi, hsz, hbytes, hzero⟩ := B.uint8.info
   have hsrc : Src P i.size N.za v (x :: l).length ((x :: l).map zy) w := by
    rw [e]
    exact Src.ofSlice w B.Lu8.und a _ c _ (by rw [hsz]; simp) (fun j u hj => by
     rw [List.getElem?_map] at hj
     cases hx : (x :: l)[j]? with
     | none => rw [hx] at hj; simp at hj
     | some y => rw [hx] at hj; simp at hj; subst hj; exact h3 j y hx) (byteV_ones _)
   have hfit : Builtin.nextslicecap (0 + (x :: l).length) 0 * i.bytes ≤ 281474976710656 := by
    have := nextslicecap_le (show 0 < 0 + (x :: l).length by simp)
    rw [hbytes]; omega
   have hrun := run_append_grow_src (P := P) w N.za N.za ty N.zg i _ B.Lu8.und hi hzero none 0 0 [] rfl v _ _ hsrc (by simp) (by omega) hfit
   refine ⟨_, _, hrun, .inr ⟨w.heap.size, 0, _, rfl, by rw [Nat.zero_add], by exact grownCap_ge w (x :: l).length 0 N.zg, fun _ => ⟨Nat.le_refl _, by rw [zau]; exact Nat.lt_succ_self _⟩, ?_⟩, (Mod.drew w _).trans' (Mod.alloc _ _ _)⟩
   have hr := zz w.drew (([] ++ (x :: l).map zy).toArray ++ Builtin.zeroCells (Value.cells (.int .u8 0)) (grownCap w (0 + (x :: l).length) 0 N.zg - (0 + (x :: l).length))) N.zg (0, 0)
   exact (zae.1 (by simpa using hr)).1
end
section
variable {P : Program} {N : Nums}
theorem run_rem {t : TypeId} {x y : Operand} {k : IntKind} {a b : Int} {w : World} (h : b ≠ 0) : (do eqGuard .rem t x y (.int k a) (.int k b); binOp .rem t (.int k a) (.int k b) : Sem Value).run P w = .ok (.int k (a.tmod b)) w := by
 simp [eqGuard, binOp, Op.intDiv, h]
theorem run_isNil {t : TypeId} {ms : Array (String × TypeId)} {sz by' : Nat} {z : Value} (h : TI P t (.interface ms) sz by' z) {x : Operand} {w : World} :
  (do eqGuard .neq t x (.const .nilIface) .nilIface .nilIface; binOp .neq t .nilIface .nilIface : Sem Value).run P w = .ok (.bool false) w := by
 have e : (Op.equal t .nilIface .nilIface).run P w = .ok true w := by
  unfold Op.equal Op.maxDepth
  rw [show (10000 : Nat) = 9999 + 1 from rfl]
  unfold Op.equalIn
  rw [Sem.run_bind, run_underlying h.und, Result.andThen_ok]
  rfl
 have e1 : (eqGuard .neq t x (.const .nilIface) .nilIface .nilIface).run P w = .ok () w := by simp [eqGuard]
 rw [Sem.run_bind, e1, Result.andThen_ok]
 show ((do pure (.bool (!(← Op.equal t .nilIface .nilIface)))) : Sem Value).run P w = _
 rw [Sem.run_bind, e, Result.andThen_ok]
 rfl
end
section
variable {P : Program} {N : Nums}
theorem zgb.run_len (B : Base P N) {w : World} {v : Value} {l : List UInt8} (h : zgb w v l) {ty : TypeId} : (Builtin.len_ #[N.za] ty #[v]).run P w = .ok (.int .i64 l.length) w := by
 rcases h with ⟨ad, c, rfl, rfl⟩ | ⟨a, c, rfl, _⟩
 ·exact B.Lu8.run_len
 ·exact B.Lu8.run_len
theorem zxw (B : Base P N) (F : Fns P N) (hN : N.zko ≠ 0) (w : World) (n k : Int) (hk : IntKind.i64.wrap (k + 1) ≠ 0) : Call P N.zko #[.int .u8 n, .int .i64 k] w fun v w' => v = .int .i64 ((IntKind.i64.wrap n).tmod (IntKind.i64.wrap (k + 1))) ∧ w' = w := by
 refine (F.version hN).call rfl fun loc N' hlo => ?_
 unfold zyb
 refine zd fun K hK => zak (hK _ _ ?_)
 clear hK K
 obtain ⟨σ, hσ⟩ : ∃ σ, σ = upd (zcw #[.int .u8 n, .int .i64 k]) 2 (.int .i64 0) := ⟨_, rfl⟩
 have f0 : σ 0 = .int .u8 n := by rw [hσ, zh (by decide)]; rfl
 have f1 : σ 1 = .int .i64 k := by rw [hσ, zh (by decide)]; rfl
 rw [← hσ]
 clear hσ
 refine zd fun K hK => zj fun τ => ?_
 have hcv := fun {w : World} => zaq (P := P) (w := w) (k' := .u8) B.uint8 B.int (n := n) ⟨_, rfl⟩
 simp +decide only [bK, bE, Nat.reduceBeqDiff, BEq.rfl, Nat.reduceAdd, Nat.zero_add, f0, f1, hcv, run_rem hk]
 refine hK _ _ (zc fun σ3 hσ => zay ⟨.inr rfl, _, rfl, ?_⟩)
 have g2 := hσ 2
 simp +decide only [bE, BEq.rfl, Nat.reduceAdd] at g2
 exact ⟨g2, rfl⟩
theorem call_max {f : Nat} {k : Nat} (hf : FOk P f 1 (c_max k) [.var 1]) (w : World) (x : Value) : Call P f #[x] w fun v w' => v = .int .i16 k ∧ w' = w := by
 refine hf.call rfl fun loc N' hlo => ?_
 unfold c_max
 refine zku (by simp) ?_
 refine zbi fun K hK => zak (hK _ _ ?_)
 refine zbi fun K hK => zak (hK _ _ ?_)
 exact zbi fun K hK => zay ⟨.inr rfl, _, rfl, upd_same _ _ _, rfl⟩
theorem call_maxI (B : Base P N) {m : Msg} {fx : Bool} {d : zyt} (D : DoorT P N m fx d) {f mf k : Nat} (hmf : FOk P mf 1 (c_max k) [.var 1]) (hf : FOk P f 0 (c_maxI N m.pT d.newP mf) [.var 0]) (w : World) :
  Call P f #[] w fun v w' => v = .int .i64 (IntKind.i64.wrap k) ∧ Mod w w' zad := by
 refine hf.call rfl fun loc N' hlo => ?_
 unfold c_maxI
 refine zku (by simp) ?_
 refine zbi fun K hK => zak (hK _ _ ?_)
 clear hK K
 refine zbi fun K hK => zj fun τ => ?_
 simp +decide only [bK, bE, BEq.rfl]
 rw [zkg D.newP.has]
 refine (call_new B D w).mono ?_
 rintro v w1 ⟨rfl, m1, _⟩
 have hcv := fun {w : World} => zaq (P := P) (w := w) (k' := .i16) B.int16 B.int (n := k) ⟨_, rfl⟩
 rw [zar hmf.has]
 simp +decide only [bK, bE, BEq.rfl]
 refine (call_max hmf w1 _).mono ?_
 rintro _ _ ⟨rfl, rfl⟩
 simp +decide only [bK, hcv]
 refine hK _ _ (zc fun σ3 hσ => zbi fun K2 hK2 => zay ⟨.inr rfl, _, rfl, ?_⟩)
 have g2 := hσ 0
 simp +decide only [bE, BEq.rfl, Nat.zero_add] at g2
 exact ⟨g2, m1⟩
end
section
variable {P : Program} {N : Nums}
end
section
variable {P : Program} {N : Nums}
end
section
open Go Go.RowKit Go.ChangeShapes Go.WideShapes
theorem zvt {z : Int} (h : (Lit.int .u8 z).wf = true) : Value.int .u8 z = zy (UInt8.ofNat z.toNat) := by
 have h2 : 0 ≤ z ∧ z ≤ 255 := by
  simp [Lit.wf, IntKind.min, IntKind.max, IntKind.signed, IntKind.bits] at h
  omega
 unfold zy
 congr 1
 rw [UInt8.toNat_ofNat']
 omega
theorem argOct_of {H : Type} {enc : TypeId × Value → H} {P : Program} {W : World} {t e : TypeId} {v : Value} {d : DataW H} {p : List MemPlace} {base : Nat}
  (ht : P.underlying t = some (.slice e)) (he : P.underlying e = some (.int .u8)) (hc : P.cellsOf e = 1) (hok : Value.okWide P W .any base t v) (h : DataW.Trod enc P W 0 (fun _ => true) true t v d p) : ∃ l, zgb W v l := by
 obtain ⟨a, len, cap, rfl⟩ := okWide_slice ht hok
 obtain ⟨fuel, hf⟩ := h
 rcases open_ints ht he hc hf with ⟨hcs, _⟩ | ⟨x, l, c, zs, hcs, _, hl, hm, hz, _, hcell, hwz⟩
 ·simp [Value.cells] at hcs
  obtain ⟨rfl, rfl, rfl⟩ := hcs
  exact ⟨[], .inl ⟨_, _, rfl, rfl⟩⟩
 ·simp [Value.cells] at hcs
  obtain ⟨rfl, rfl, rfl⟩ := hcs
  by_cases h0 : len = 0
  ·subst h0
   exact ⟨[], .inl ⟨_, _, rfl, rfl⟩⟩
  ·have hz : zs.length = cap := by simpa using hz
   have hll : ((zs.take len).map fun z : Int => UInt8.ofNat z.toNat).length = len := by simp; omega
   have hcl : ∀ j y, ((zs.take len).map fun z : Int => UInt8.ofNat z.toNat)[j]? = some y → W.cell? (x.add j) = some (zy y) := by
    intro j y hj
    rw [List.getElem?_map] at hj
    cases hg : (zs.take len)[j]? with
    | none => rw [hg] at hj; simp at hj
    | some z =>
     rw [hg] at hj
     simp at hj
     subst hj
     have hjl : j < len := by
      have := (List.getElem?_eq_some_iff.1 hg).1
      rw [List.length_take] at this; omega
     rw [List.getElem?_take_of_lt hjl] at hg
     have hjz : j < zs.length := (List.getElem?_eq_some_iff.1 hg).1
     rw [hcell j hjz, List.getD, hg]
     exact congrArg some (zvt (hwz z (List.mem_of_getElem? hg)))
   refine ⟨_, .inr ⟨x, cap, by rw [hll], by rw [hll]; exact hl, ?_, hcl⟩⟩
   have h1 := hcell 0 (by omega)
   have h2 : (W.cell? x).isSome = true := by
    have e : x.add 0 = x := by unfold Addr.add; simp
    rw [e] at h1; rw [h1]; rfl
   unfold World.cell? at h2
   cases hh : W.heap[x.block]? with
   | none => rw [hh] at h2; simp at h2
   | some o => exact (Array.getElem?_eq_some_iff.1 hh).1
theorem el_ti {P : Program} {N : Nums} {fx : Bool} (B : Base P N) (F : Fns P N) (e : El) (h : e.okB P N fx = true) (hd : e.dfs P N) : ∃ d by' z, TI P (e.ty N) d e.sz by' z := by
 obtain ⟨d, by', z, h, _⟩ := (El.ok_of B F e h hd).2.1
 exact ⟨d, by', z, h⟩
end
end Go.Kf
