/- A part of the calculus by which the claim's proof goes: over any program and any numbering of its functions; no condition beyond those that each theorem names. -/
import Derived.ChangeArms
import Derived.Test.YtccgofjnacenhaaGreatDoorBf
set_option linter.unusedSimpArgs false
set_option linter.unusedVariables false
namespace Go.Kf
open Go Go.RowKit
section
open Go Go.RowKit Go.ChangeShapes Go.WideShapes
structure BulkF {H : Type} (B : DataW H → Nat) (BA : List (DataW H) → Nat) : Prop where
 lit : ∀ l, 1 ≤ B (.lit l)
 slice : ∀ e s, B (.slice e s) = BA e + BA s + 1
 agg : ∀ l, B (.agg l) = BA l + 1
 nil : B .nil = 1
 anil : BA [] = 0
 acons : ∀ d l, BA (d :: l) = B d + BA l
structure TreeO (P : Program) (N : Nums) : Prop where
 tree : ∃ fs, P.underlying N.zc = some (.struct fs) ∧ fs.toList.map (fun f => (f.offset, f.type)) = [(0, N.zav), (1, N.za), (2, N.zae), (3, N.zn), (4, N.zj)]
 tag : ∃ fs, P.underlying N.zab = some (.struct fs) ∧ fs.toList.map (fun f => (f.offset, f.type)) = [(0, N.zp), (1, N.za)]
 cTree : P.cellsOf N.zc = 5
 cTag : P.cellsOf N.zab = 2
 c1 : P.cellsOf N.zav = 1 ∧ P.cellsOf N.za = 1 ∧ P.cellsOf N.zae = 1 ∧ P.cellsOf N.zn = 1 ∧ P.cellsOf N.zj = 1 ∧ P.cellsOf N.zp = 1 ∧ P.cellsOf N.zw = 1
theorem ztp {w : World} {a : Addr} : ∀ {n k : Nat} {cs : List Value}, ((List.range' k n).mapM fun i => w.cell? (a.add i)) = some cs → cs.length = n ∧ ∀ j, j < n → w.cell? (a.add (k + j)) = cs[j]?
 | 0, k, cs, h => by simp at h; subst h; exact ⟨rfl, fun j hj => by omega⟩
 | n + 1, k, cs, h => by
  rw [List.range'_succ, List.mapM_cons] at h
  simp only [Option.bind_eq_bind, Option.bind_eq_some_iff, Option.pure_def, Option.some.injEq] at h
  obtain ⟨c, hc, r, hr, rfl⟩ := h
  obtain ⟨g1, g2⟩ := ztp hr
  refine ⟨by simp [g1], fun j hj => ?_⟩
  cases j with
  | zero => simpa using hc
  | succ j => have := g2 j (by omega); rw [show k + (j + 1) = k + 1 + j by omega, this]; simp
theorem zyn {w : World} {base : Nat} {a : Addr} {n : Nat} {cs : List Value} (h : w.cells? base a n = some cs) (hn : 0 < n) : ∃ b o, a = ⟨b, o, none⟩ ∧ cs.length = n ∧ w.rangeAt b o cs := by
 unfold World.cells? at h
 split at h
 case isFalse => cases h
 rw [List.range_eq_range'] at h
 obtain ⟨h1, h2⟩ := ztp h
 have h0 := h2 0 hn
 have e0 : a.add (0 + 0) = a := by simp [Addr.add]
 rw [e0, List.getElem?_eq_getElem (by omega)] at h0
 obtain ⟨b, o, s⟩ := a
 have hs : s = none := by
  cases s with
  | none => rfl
  | some x =>
   unfold World.cell? at h0
   split at h0
   ·simp at h0
   ·cases h0
 subst hs
 refine ⟨b, o, rfl, h1, fun j v hj => ?_⟩
 have hl := (List.getElem?_eq_some_iff.1 hj).1
 have := h2 j (by omega)
 rw [hj, Nat.zero_add] at this
 rwa [Addr.add_mid] at this
theorem add_next {a : Addr} {m b o n : Nat} (h : a.add m = ⟨b, o, none⟩) : a.add (m + n) = ⟨b, o + n, none⟩ := by
 unfold Addr.add at h ⊢
 split at h
 ·rename_i hm
  subst hm h
  split
  ·rename_i h2; have : n = 0 := by omega
   subst this; rfl
  ·simp
 ·rename_i hm
  rw [if_neg (by omega)]
  simp only [Addr.mk.injEq, and_true] at h ⊢
  omega
inductive RelL {α : Type} (R : α → List Value → Prop) : List α → List (List Value) → Prop
 | nil : RelL R [] []
 | cons {x l c r} : R x c → RelL R l r → RelL R (x :: l) (c :: r)
theorem zme {H α : Type} {w : World} {a : Addr} {sz : Nat} (hsz : 0 < sz) (R : α → List Value → Prop) (S : α → Nat) {B : DataW H → Nat} {BA : List (DataW H) → Nat} (hB : BulkF B BA) : ∀ (elems : List (DataW H × List MemPlace)) (k : Nat),
  (∀ i (h : i < elems.length), ∃ cs x, w.cells? 0 (a.add ((k + i) * sz)) sz = some cs ∧ R x cs ∧ S x ≤ B (elems[i]).1) →
  ∃ l css, l.length = elems.length ∧ RelL R l css ∧ (l.map S).sum ≤ BA (elems.map (·.1)) ∧ (elems ≠ [] → ∃ b o, a.add (k * sz) = ⟨b, o, none⟩ ∧ w.rangeAt b o css.flatten)
 | [], k, _ => ⟨[], [], rfl, .nil, by simp, fun h => absurd rfl h⟩
 | e :: elems, k, h => by
  obtain ⟨cs, x, hc, hR, hS⟩ := h 0 (by simp)
  obtain ⟨b, o, ha, hl, hr⟩ := zyn hc hsz
  rw [Nat.add_zero] at ha
  obtain ⟨l, css, g1, g2, g3, g4⟩ := zme hsz R S hB elems (k + 1) fun i hi => by
   have := h (i + 1) (by simp; omega)
   rw [show k + (i + 1) = k + 1 + i by omega] at this
   simpa using this
  refine ⟨x :: l, cs :: css, by simp [g1], .cons hR g2, ?_, fun _ => ⟨b, o, ha, ?_⟩⟩
  ·rw [List.map_cons, List.sum_cons, List.map_cons, hB.acons]
   have hS : S x ≤ B e.1 := hS
   omega
  ·rw [List.flatten_cons, zv]
   refine ⟨hr, ?_⟩
   cases elems with
   | nil =>
    have : l = [] := List.length_eq_zero_iff.1 (by simpa using g1)
    subst this
    cases g2
    intro j v hj; simp at hj
   | cons e' elems =>
    obtain ⟨b2, o2, ha2, hr2⟩ := g4 (by simp)
    have := add_next (n := sz) ha
    rw [show k * sz + sz = (k + 1) * sz by rw [Nat.add_mul, Nat.one_mul], ha2] at this
    injection this with e1 e2
    subst e1 e2
    rw [hl]; exact hr2
theorem wf_i64 {n : Int} (h : (Lit.int .i64 n).wf = true) : -9223372036854775808 ≤ n ∧ n < 9223372036854775808 := by
 simp [Lit.wf, IntKind.min, IntKind.max, IntKind.signed, IntKind.bits] at h
 omega
theorem wf_u32 {n : Int} (h : (Lit.int .u32 n).wf = true) : 0 ≤ n ∧ n < 4294967296 := by
 simp [Lit.wf, IntKind.min, IntKind.max, IntKind.signed, IntKind.bits] at h
 omega
section
variable {P : Program} {N : Nums} {H : Type} {enc : TypeId × Value → H} {w : World} {B : DataW H → Nat} {BA : List (DataW H) → Nat}
theorem oct_open (T : TreeO P N) (Bs : Base P N) (hB : BulkF B BA) {fuel : Nat} {c : Value} {x : DataW H × List MemPlace} (h : DataW.trod enc P w 0 (fun _ => true) true fuel N.za [c] = some x) : ∃ s, OctA w c s ∧ s.length + 1 ≤ B x.1 := by
 have he : P.underlying N.zw = some (.int .u8) := Bs.uint8.und
 rcases DataW.trod_slice Bs.Lu8.und h with ⟨hc, rfl⟩ | ⟨a, len, cap, elems, rest, n, rfl, hc, rfl, hb, hl, hm, hlen, hel, hsp, _⟩
 ·injection hc with hc
  exact ⟨[], .inl ⟨none, 0, hc, rfl⟩, by rw [hB.nil]; simp⟩
 ·injection hc with hc
  rw [T.c1.2.2.2.2.2.2] at hel
  obtain ⟨l, css, g1, g2, g3, g4⟩ := zme (a := a) (sz := 1) (by decide) (fun (y : UInt8) cs => cs = [zbf y]) (fun _ => 1) hB elems 0 fun i hi => by
   have h1 := hel i (by omega)
   rw [List.getElem?_eq_getElem hi, Option.bind_eq_some_iff] at h1
   obtain ⟨cs, hcs, hy⟩ := h1
   obtain ⟨m, rfl, hx, hw⟩ := DataW.trod_int he hy
   refine ⟨_, UInt8.ofNat m.toNat, by rw [Nat.zero_add]; exact hcs, by rw [octet_of hw], ?_⟩
   rw [hx]; exact hB.lit _
  have hcs : ∀ {l : List UInt8} {css : List (List Value)}, RelL (fun (y : UInt8) cs => cs = [zbf y]) l css → css.flatten = l.map zbf := by
   intro l css hr
   induction hr with
   | nil => rfl
   | cons h _ ih => subst h; simp [ih]
  have hs : (l.map fun _ => 1).sum = l.length := by
   clear g1 g2 g3 g4
   induction l with
   | nil => rfl
   | cons y l ih => simp [ih]; omega
  refine ⟨l, ?_, ?_⟩
  ·by_cases h0 : len = 0
   ·exact .inl ⟨some a, cap, by rw [hc, h0], List.length_eq_zero_iff.1 (by omega)⟩
   ·obtain ⟨b, o, ha, hr⟩ := g4 (fun e => by rw [e] at hlen; simp at hlen; omega)
    have ha : a = ⟨b, o, none⟩ := by simpa [Addr.add] using ha
    exact .inr ⟨b, o, cap, by rw [hc, ha, g1, hlen], by omega, by rw [← hcs g2]; exact hr⟩
  ·rw [hB.slice]; omega
theorem tags_open (T : TreeO P N) (Bs : Base P N) (hT : zge P N N.zc N.zab N.zn N.zj) (hB : BulkF B BA) {fuel : Nat} {c : Value} {x : DataW H × List MemPlace} (h : DataW.trod enc P w 0 (fun _ => true) true fuel N.zj [c] = some x) : ∃ u, zid w c u ∧ (∀ y ∈ u, y.1 < 4294967296) ∧ szU u + 1 ≤ B x.1 := by
 rcases DataW.trod_slice hT.lg.und h with ⟨hc, rfl⟩ | ⟨a, len, cap, elems, rest, n, rfl, hc, rfl, hb, hl, hm, hlen, hel, hsp, _⟩
 ·injection hc with hc
  exact ⟨[], .inl ⟨none, 0, hc, rfl⟩, (fun y hy => by cases hy), by rw [hB.nil]; simp [szU]⟩
 ·injection hc with hc
  rw [T.cTag] at hel
  obtain ⟨fs, hu, hfs⟩ := T.tag
  obtain ⟨l, css, g1, g2, g3, g4⟩ := zme (a := a) (sz := 2) (by decide) (fun (y : Nat × List UInt8) cs => ∃ s, cs = [.int .u32 y.1, s] ∧ OctA w s y.2 ∧ y.1 < 4294967296) (fun y => 1 + y.2.length) hB elems 0 fun i hi => by
   have h1 := hel i (by omega)
   rw [List.getElem?_eq_getElem hi, Option.bind_eq_some_iff] at h1
   obtain ⟨cs, hcs, hy⟩ := h1
   obtain ⟨xs, n', rfl, hx, hcl, hxl, hfi⟩ := DataW.trod_struct hu hy
   rw [T.cTag] at hcl
   have hfl : fs.toList.length = 2 := by have := congrArg List.length hfs; simpa using this
   match cs, hcl with
   | [c0, c1], _ =>
    have f0 : ∃ f, fs[0]? = some f ∧ f.offset = 0 ∧ f.type = N.zp := by
     have := congrArg (fun l => l[0]?) hfs
     simp only [List.getElem?_map, Array.getElem?_toList] at this
     cases hf : fs[0]? with
     | none => rw [hf] at this; simp at this
     | some f => rw [hf] at this; simp at this; exact ⟨f, rfl, this.1, this.2⟩
    have f1 : ∃ f, fs[1]? = some f ∧ f.offset = 1 ∧ f.type = N.za := by
     have := congrArg (fun l => l[1]?) hfs
     simp only [List.getElem?_map, Array.getElem?_toList] at this
     cases hf : fs[1]? with
     | none => rw [hf] at this; simp at this
     | some f => rw [hf] at this; simp at this; exact ⟨f, rfl, this.1, this.2⟩
    obtain ⟨f0, e0, o0, t0⟩ := f0
    obtain ⟨f1, e1, o1, t1⟩ := f1
    have h0 := hfi 0 f0 e0
    have h1 := hfi 1 f1 e1
    rw [o0, t0, T.c1.2.2.2.2.2.1, List.getElem?_eq_getElem (by rw [hxl, ← Array.length_toList, hfl]; decide)] at h0
    rw [o1, t1, T.c1.2.1, List.getElem?_eq_getElem (by rw [hxl, ← Array.length_toList, hfl]; decide)] at h1
    obtain ⟨m, hm1, hm2, hm3⟩ := DataW.trod_int Bs.uint32.und h0
    obtain ⟨s, hs1, hs2⟩ := oct_open T Bs hB h1
    have hw := wf_u32 hm3
    refine ⟨_, (m.toNat, s), by rw [Nat.zero_add]; exact hcs, ⟨c1, ?_, hs1, by show m.toNat < _; omega⟩, ?_⟩
    ·have : c0 = .int .u32 m := by simpa using hm1
     rw [this, show ((m.toNat : Nat) : Int) = m by omega]
    ·rw [hx, hB.agg]
     have hx2 : xs.length = 2 := by rw [hxl, ← Array.length_toList, hfl]
     match xs, hx2 with
     | [x0, x1], _ =>
      simp only [List.map_cons, hB.acons]
      have hs2 : s.length + 1 ≤ B x1.1 := hs2
      show 1 + s.length ≤ _
      omega
  have hcs : ∀ {l : List (Nat × List UInt8)} {css : List (List Value)}, RelL (fun (y : Nat × List UInt8) cs => ∃ s, cs = [.int .u32 y.1, s] ∧ OctA w s y.2 ∧ y.1 < 4294967296) l css → UsA w l css.flatten ∧ ∀ y ∈ l, y.1 < 4294967296 := by
   intro l css hr
   induction hr with
   | nil => exact ⟨rfl, fun y hy => by cases hy⟩
   | cons h _ ih =>
    obtain ⟨s, rfl, h1, h2⟩ := h
    refine ⟨⟨s, _, rfl, h1, ih.1⟩, fun y hy => ?_⟩
    rcases List.mem_cons.1 hy with e | hy
    ·rw [e]; exact h2
    ·exact ih.2 y hy
  obtain ⟨k1, k2⟩ := hcs g2
  refine ⟨l, ?_, k2, by rw [hB.slice]; unfold szU; omega⟩
  by_cases h0 : len = 0
  ·exact .inl ⟨some a, cap, by rw [hc, h0], List.length_eq_zero_iff.1 (by omega)⟩
  ·obtain ⟨b, o, ha, hr⟩ := g4 (fun e => by rw [e] at hlen; simp at hlen; omega)
   have ha : a = ⟨b, o, none⟩ := by simpa [Addr.add] using ha
   exact .inr ⟨b, o, cap, css.flatten, by rw [hc, ha, g1, hlen], by omega, k1, hr⟩
theorem tree_open (T : TreeO P N) (Bs : Base P N) (hT : zge P N N.zc N.zab N.zn N.zj) (hB : BulkF B BA) : ∀ (fuel : Nat) (cs : List Value) (x : DataW H × List MemPlace), DataW.trod enc P w 0 (fun _ => true) true fuel N.zc cs = some x → ∃ t, RepA w t cs ∧ wfT t ∧ szT t ≤ B x.1 := by
 intro fuel
 induction fuel using Nat.strongRecOn with
 | _ fuel ih =>
 intro cs x h
 obtain ⟨fs, hu, hfs⟩ := T.tree
 obtain ⟨xs, n', rfl, hx, hcl, hxl, hfi⟩ := DataW.trod_struct hu h
 rw [T.cTree] at hcl
 have hfl : fs.toList.length = 5 := by have := congrArg List.length hfs; simpa using this
 have hf : ∀ (k : Nat) (o : Nat) (t : TypeId), [(0, N.zav), (1, N.za), (2, N.zae), (3, N.zn), (4, N.zj)][k]? = some (o, t) → ∃ f, fs[k]? = some f ∧ f.offset = o ∧ f.type = t := by
  intro k o t hk
  have := congrArg (fun l => l[k]?) hfs
  simp only [List.getElem?_map, Array.getElem?_toList] at this
  rw [hk] at this
  cases hf : fs[k]? with
  | none => rw [hf] at this; simp at this
  | some f => rw [hf] at this; simp at this; exact ⟨f, rfl, this.1, this.2⟩
 have hx5 : xs.length = 5 := by rw [hxl, ← Array.length_toList, hfl]
 match cs, hcl, xs, hx5 with
 | [c0, c1, c2, c3, c4], _, [x0, x1, x2, x3, x4], _ =>
  obtain ⟨f0, e0, o0, t0⟩ := hf 0 _ _ rfl
  obtain ⟨f1, e1, o1, t1⟩ := hf 1 _ _ rfl
  obtain ⟨f2, e2, o2, t2⟩ := hf 2 _ _ rfl
  obtain ⟨f3, e3, o3, t3⟩ := hf 3 _ _ rfl
  obtain ⟨f4, e4, o4, t4⟩ := hf 4 _ _ rfl
  have h0 := hfi 0 f0 e0
  have h1 := hfi 1 f1 e1
  have h2 := hfi 2 f2 e2
  have h3 := hfi 3 f3 e3
  have h4 := hfi 4 f4 e4
  rw [o0, t0, T.c1.1] at h0
  rw [o1, t1, T.c1.2.1] at h1
  rw [o2, t2, T.c1.2.2.1] at h2
  rw [o3, t3, T.c1.2.2.2.1] at h3
  rw [o4, t4, T.c1.2.2.2.2.1] at h4
  have h0 : DataW.trod enc P w 0 (fun _ => true) true n' N.zav [c0] = some x0 := h0
  have h1 : DataW.trod enc P w 0 (fun _ => true) true n' N.za [c1] = some x1 := h1
  have h2 : DataW.trod enc P w 0 (fun _ => true) true n' N.zae [c2] = some x2 := h2
  have h3 : DataW.trod enc P w 0 (fun _ => true) true n' N.zn [c3] = some x3 := h3
  have h4 : DataW.trod enc P w 0 (fun _ => true) true n' N.zj [c4] = some x4 := h4
  obtain ⟨m, hm1, hm2, hm3⟩ := DataW.trod_int Bs.int64.und h0
  obtain ⟨s, hs1, hs2⟩ := oct_open T Bs hB h1
  obtain ⟨nl, hn1, hn2⟩ := DataW.trod_bool Bs.bool.und h2
  obtain ⟨u, hu1, hu2, hu3⟩ := tags_open T Bs hT hB h4
  have hc0 : c0 = .int .i64 m := by simpa using hm1
  have hc2 : c2 = .bool nl := by simpa using hn1
  have hb0 : 1 ≤ B x0.1 := by rw [hm2]; exact hB.lit _
  have trees : ∃ l, zfd w c3 l ∧ (∀ y ∈ l, wfT y) ∧ szTs l + 1 ≤ B x3.1 := by
   rcases DataW.trod_slice hT.lt.und h3 with ⟨hc, hx3⟩ | ⟨a, len, cap, elems, rest, n, hn', hc, hx3, hb, hl, hm, hlen, hel, hsp, _⟩
   ·injection hc with hc
    exact ⟨[], .inl ⟨none, 0, hc, rfl⟩, (fun y hy => by cases hy), by rw [hx3, hB.nil]; simp [szTs]⟩
   ·injection hc with hc
    rw [T.cTree] at hel
    obtain ⟨l, css, g1, g2, g3, g4⟩ := zme (a := a) (sz := 5) (by decide) (fun (y : Tr) cs => RepA w y cs ∧ wfT y) szT hB elems 0 fun i hi => by
     have h1 := hel i (by omega)
     rw [List.getElem?_eq_getElem hi, Option.bind_eq_some_iff] at h1
     obtain ⟨cs, hcs, hy⟩ := h1
     obtain ⟨y, y1, y2, y3⟩ := ih n (by omega) cs _ hy
     exact ⟨cs, y, by rw [Nat.zero_add]; exact hcs, ⟨y1, y2⟩, y3⟩
    have hcs : ∀ {l : List Tr} {css : List (List Value)}, RelL (fun (y : Tr) cs => RepA w y cs ∧ wfT y) l css → zix w l css ∧ ∀ y ∈ l, wfT y := by
     intro l css hr
     induction hr with
     | nil => exact ⟨rfl, fun y hy => by cases hy⟩
     | cons h _ ih =>
      refine ⟨⟨_, _, rfl, h.1, ih.1⟩, fun y hy => ?_⟩
      rcases List.mem_cons.1 hy with e | hy
      ·rw [e]; exact h.2
      ·exact ih.2 y hy
    obtain ⟨k1, k2⟩ := hcs g2
    have hsum : ∀ l : List Tr, (l.map szT).sum = szTs l := by
     intro l
     induction l with
     | nil => rfl
     | cons y l ih => rw [List.map_cons, List.sum_cons, szTs, ih]
    rw [hsum] at g3
    refine ⟨l, ?_, k2, by rw [hx3, hB.slice]; omega⟩
    by_cases h0 : len = 0
    ·exact .inl ⟨some a, cap, by rw [hc, h0], List.length_eq_zero_iff.1 (by omega)⟩
    ·obtain ⟨b, o, ha, hr⟩ := g4 (fun e => by rw [e] at hlen; simp at hlen; omega)
     have ha : a = ⟨b, o, none⟩ := by simpa [Addr.add] using ha
     exact .inr ⟨b, o, cap, css, by rw [hc, ha, g1, hlen], by omega, k1, hr⟩
  obtain ⟨l, hl1, hl2, hl3⟩ := trees
  have hwfs : ∀ l : List Tr, (∀ y ∈ l, wfT y) → wfTs l := by
   intro l
   induction l with
   | nil => intro _; trivial
   | cons y l ih => intro h; exact ⟨h y (by simp), ih fun z hz => h z (List.mem_cons_of_mem _ hz)⟩
  refine ⟨.mk m s nl l u, ?_, ⟨wf_i64 hm3, hu2, hwfs l hl2⟩, ?_⟩
  ·rw [hc0, hc2]
   exact RepA.mk' (t := .mk m s nl l u) hs1 hl1 hu1
  ·rw [hx, hB.agg]
   simp only [List.map_cons, List.map_nil, hB.acons, hB.anil, szT]
   omega
end
end
inductive SC where
 | mk (parts : List (Nat × Int)) (sub : Option FuncId) (fs : List SC)
def zwg (parts : List (Nat × Int)) : List Int := parts.foldl (fun l p => l.set p.1 p.2) [0, 0, 0, 0, 0, 0, 0]
def mkF (l : List Int) (sub : List Fld) : Fld := .mk (l.getD 0 0) (l.getD 1 0) (l.getD 2 0) (l.getD 3 0) (l.getD 4 0) (l.getD 5 0) (l.getD 6 0) sub
mutual
def SC.fld : SC → Fld
 | .mk parts _ fs => mkF (zwg parts) (SC.flds fs)
def SC.flds : List SC → List Fld
 | [] => []
 | s :: l => s.fld :: SC.flds l
end
def SC.parts : SC → List (Nat × Int) | .mk p _ _ => p
def SC.fs : SC → List SC | .mk _ _ l => l
theorem SC.flds_len : ∀ l : List SC, (SC.flds l).length = l.length
 | [] => rfl
 | _ :: l => by simp [SC.flds, SC.flds_len l]
section
variable (N : Nums) (M : zcd)
def partO (p : Nat × Int) : Nat × Operand := (p.1, .const (.int .i64 p.2))
def zxy : List SC → Nat → List ROp
 | [], _ => []
 | .mk parts none _ :: l, k => ⟨some k, .build M.zg (parts.map partO).toArray, 0, none, []⟩ :: zxy l (k + 1)
 | .mk parts (some f) _ :: l, k => ⟨some k, .call ⟨.value (.func f), #[], #[]⟩, M.zac, none, []⟩ :: ⟨some (k + 1), .build M.zg (parts.map partO ++ [(7, T k)]).toArray, 0, none, []⟩ :: zxy l (k + 2)
def scSl : List SC → Nat → List Nat
 | [], _ => []
 | .mk _ none _ :: l, k => k :: scSl l (k + 1)
 | .mk _ (some _) _ :: l, k => (k + 1) :: scSl l (k + 2)
def zni : List SC → Nat → Nat
 | [], k => k
 | .mk _ none _ :: l, k => zni l (k + 1)
 | .mk _ (some _) _ :: l, k => zni l (k + 2)
def zuq (l : List SC) (k : Nat) : ROp := ⟨some (zni l k), .buildSlice M.zac l.length ((scSl l k).zipIdx.map fun p => (p.2, T p.1)).toArray, 0, none, []⟩
def c_flds (l : List SC) : C := seqs [.ops [⟨some 100, .assign (.const (.slice none 0 0)), 0, none, []⟩], .ops (zxy M l 0 ++ [zuq M l 0, ⟨some 100, .assign (T (zni l 0)), 0, none, []⟩]), .ret]
def c_msg (l : List SC) (fl : Int) : C := seqs [.ops [⟨some 100, .alloc M.zam, 0, none, []⟩],
 .ops (zxy M l 0 ++ [zuq M l 0, ⟨some (zni l 0 + 1), .build M.zam #[(1, .const (.int .i64 fl)), (0, T (zni l 0))], 0, none, []⟩, ⟨none, .store M.zam (V 0) (T (zni l 0 + 1)), 0, none, []⟩]), .ret]
end
def SC.partsB (s : SC) : Bool := s.parts.all fun p => Nat.blt p.1 7
def scB (l : List SC) : Bool := l.all SC.partsB && Nat.blt (zni l 0) 90 && Nat.blt 0 l.length && Nat.blt l.length 1000
theorem zqp : ∀ (l : List SC) (k : Nat), k ≤ zni l k
 | [], k => Nat.le_refl _
 | .mk _ none _ :: l, k => Nat.le_trans (Nat.le_succ k) (zqp l (k + 1))
 | .mk _ (some _) _ :: l, k => Nat.le_trans (by omega) (zqp l (k + 2))
theorem zur : ∀ (l : List SC) (k : Nat), (scSl l k).length = l.length
 | [], k => rfl
 | .mk _ none _ :: l, k => by simp [scSl, zur l]
 | .mk _ (some _) _ :: l, k => by simp [scSl, zur l]
def ziu (l : List Int) (v : Value) : List Value := l.map (fun n => Value.int .i64 n) ++ [v]
def zuy : Array (Nat × Nat) := [(0, 1), (1, 1), (2, 1), (3, 1), (4, 1), (5, 1), (6, 1), (7, 1)].toArray
theorem zto : ∀ i, i < 8 → zuy[i]? = some (i, 1)
 | 0, _ => rfl | 1, _ => rfl | 2, _ => rfl | 3, _ => rfl | 4, _ => rfl | 5, _ => rfl | 6, _ => rfl | 7, _ => rfl
 | n + 8, h => by omega
theorem zve (rest : List (Nat × Value)) : ∀ (parts : List (Nat × Int)) (l : List Int) (v : Value), l.length = 7 → (parts.all fun p => Nat.blt p.1 7) = true →
  Instr.fill (zuy[·]?) (ziu l v).toArray (parts.map (fun (p : Nat × Int) => (p.1, Value.int .i64 p.2)) ++ rest) = Instr.fill (zuy[·]?) (ziu (parts.foldl (fun l p => l.set p.1 p.2) l) v).toArray rest
 | [], l, v, _, _ => rfl
 | (i, n) :: parts, l, v, hl, h => by
  simp only [List.all_cons, Bool.and_eq_true] at h
  have hi : i < 7 := by simpa using h.1
  rw [List.map_cons, List.cons_append, Instr.fill, zto i (by omega)]
  simp only
  have hc : (Value.int .i64 n).cells = #[.int .i64 n] := rfl
  rw [hc, if_neg (by simp [ziu, hl]; omega)]
  have e : (((#[Value.int .i64 n] : Array Value).zipIdx.foldl (fun cs x => cs.setIfInBounds (i + x.2) x.1) (ziu l v).toArray)) = (ziu (l.set i n) v).toArray := by
   have : (#[Value.int .i64 n] : Array Value).zipIdx = #[(Value.int .i64 n, 0)] := rfl
   rw [this]
   simp only [List.foldl_toArray', List.foldl_cons, List.foldl_nil, Nat.add_zero, ziu, List.setIfInBounds_toArray]
   congr 1
   rw [List.set_append_left _ _ (by simp [hl]; exact hi), List.map_set]
  rw [e, List.foldl_cons]
  exact zve rest parts (l.set i n) v (by simp [hl]) h.2
theorem zqr : ∀ (parts : List (Nat × Int)) (l : List Int), (parts.foldl (fun l p => l.set p.1 p.2) l).length = l.length
 | [], l => rfl
 | p :: parts, l => by rw [List.foldl_cons, zqr]; simp
section
variable {P : Program} {N : Nums} {M : zcd}
theorem ztu {w : World} {l : List Int} (hl : l.length = 7) {v : Value} {sub : List Fld} (h : zga w v sub) : RepF w (mkF l sub) (ziu l v) := by
 match l, hl with
 | [a, b, c, d, e, f, g], _ => exact RepF.mk' (f := mkF [a, b, c, d, e, f, g] sub) h
theorem build_num (S : SpT P N M) {w : World} {parts : List (Nat × Int)} (h : (parts.all fun p => Nat.blt p.1 7) = true) :
  (Instr.build M.zg ((parts.map fun (p : Nat × Int) => (p.1, Value.int .i64 p.2)).toArray)).run P w = .ok (.agg (ziu (zwg parts) (.slice none 0 0)).toArray) w :=
 S.fld.run_build (by
  have := zve [] parts [0, 0, 0, 0, 0, 0, 0] (.slice none 0 0) rfl h
  rw [List.append_nil] at this
  exact this)
theorem build_sub (S : SpT P N M) {w : World} {parts : List (Nat × Int)} (h : (parts.all fun p => Nat.blt p.1 7) = true) {v : Value} (hv : v.oneCell' = true) :
  (Instr.build M.zg ((parts.map (fun (p : Nat × Int) => (p.1, Value.int .i64 p.2)) ++ [(7, v)]).toArray)).run P w = .ok (.agg (ziu (zwg parts) v).toArray) w :=
 S.fld.run_build (by
  have := zve [(7, v)] parts [0, 0, 0, 0, 0, 0, 0] (.slice none 0 0) rfl h
  refine this.trans ?_
  have hl := zqr parts [0, 0, 0, 0, 0, 0, 0]
  show Instr.fill (zuy[·]?) (ziu (zwg parts) (.slice none 0 0)).toArray [(7, v)] = _
  have hl : (zwg parts).length = 7 := hl
  rw [Instr.fill, zto 7 (by decide)]
  simp only
  rw [zcs hv, if_neg (by simp [ziu, hl])]
  have e : (#[v] : Array Value).zipIdx = #[(v, 0)] := rfl
  rw [e]
  simp only [List.foldl_toArray', List.foldl_cons, List.foldl_nil, Nat.add_zero, ziu, List.setIfInBounds_toArray, Instr.fill]
  congr 2
  rw [List.set_append_right _ _ (by simp [hl])]
  simp [hl])
def MkOk (P : Program) (f : FuncId) (l : List Fld) : Prop := ∀ w, Call P f #[] w fun r w' => zga w' r l ∧ Mod w w' zq
def scOk (P : Program) : List SC → Prop
 | [] => True
 | .mk parts none fs :: l => fs = [] ∧ scOk P l
 | .mk parts (some f) fs :: l => (MkOk P f (SC.flds fs) ∧ zde P f) ∧ scOk P l
theorem step_callZ {f : FuncId} {d : Option Nat} {ty : TypeId} {af : List Nat} {ρ : Env} {w : World} {K : Env → World → Prop} (hf : zde P f) : zbl P ⟨d, .call ⟨.value (.func f), #[], #[]⟩, ty, none, af⟩ ρ w K = Call P f #[] w fun v w' => K (put ρ d v) w' := zjv hf
theorem zog (S : SpT P N M) {K : Env → World → Prop} : ∀ (l : List SC) (k : Nat) (ρ : Env) (w w0 : World), (l.all SC.partsB) = true → scOk P l → Mod w0 w zq →
  (∀ (ρ' : Env) (w' : World) (css : List (List Value)), (∀ t, t < k ∨ 100 ≤ t → ρ' t = ρ t) → zfy w' (SC.flds l) css → (∀ (j s : Nat), (scSl l k)[j]? = some s → ∃ c : List Value, css[j]? = some c ∧ ρ' s = .agg c.toArray) → Mod w0 w' zq → K ρ' w') → zni l k < 90 →
  runR P (zxy M l k) ρ w K
 | [], k, ρ, w, w0, _, _, m, hK, _ => hK ρ w [] (fun _ _ => rfl) rfl (fun j s h => by simp [scSl] at h) m
 | .mk parts none fs :: l, k, ρ, w, w0, hp, ⟨hfs, hok⟩, m, hK, he => by
  subst hfs
  simp only [List.all_cons, Bool.and_eq_true] at hp
  have he2 := zqp l (k + 1)
  rw [zxy, runR]
  have e1 : ((parts.map partO).toArray.map fun (p : Nat × Operand) => (p.1, ev ρ p.2)) = (parts.map fun (p : Nat × Int) => (p.1, Value.int .i64 p.2)).toArray := by
   simp [partO, Function.comp_def]
  rw [zep, e1, build_num S (parts := parts) hp.1]
  simp only [stepV_ok]
  have hrep : ∀ w', RepF w' (SC.fld (.mk parts none [])) (ziu (zwg parts) (.slice none 0 0)) := fun w' => ztu (zqr _ _) (.inl ⟨_, _, rfl, rfl⟩)
  refine zog S l (k + 1) _ w w0 hp.2 hok m (fun ρ' w' css h1 h2 h3 h4 => ?_) he
  refine hK ρ' w' (ziu (zwg parts) (.slice none 0 0) :: css) (fun t ht => ?_) ⟨_, _, rfl, hrep w', h2⟩ (fun j s hs => ?_) h4
  ·rw [h1 t (by omega), zim]
   have : (t == k) = false := beq_eq_false_iff_ne.2 (by have : zni l (k + 1) < 90 := he; omega)
   rw [this]; rfl
  ·cases j with
   | zero =>
    simp [scSl] at hs
    subst hs
    exact ⟨_, rfl, by rw [h1 k (by omega), zim]; simp [sel]⟩
   | succ j => exact h3 j s (by simpa [scSl] using hs)
 | .mk parts (some f) fs :: l, k, ρ, w, w0, hp, ⟨⟨hmk, hbody⟩, hok⟩, m, hK, he => by
  simp only [List.all_cons, Bool.and_eq_true] at hp
  have he2 := zqp l (k + 2)
  have he3 : zni l (k + 2) < 90 := he
  rw [zxy, runR, step_callZ hbody]
  refine (hmk w).mono ?_
  rintro r w1 ⟨hr, m1⟩
  rw [runR]
  have e1 : (((parts.map partO ++ [((7 : Nat), T k)]).toArray : Array (Nat × Operand)).map fun (p : Nat × Operand) => (p.1, ev (put ρ (some k) r) p.2)) = (parts.map (fun (p : Nat × Int) => (p.1, Value.int .i64 p.2)) ++ [(7, r)]).toArray := by
   simp [partO, Function.comp_def, zim, sel]
  rw [zep, e1, build_sub S (parts := parts) hp.1 hr.one]
  simp only [stepV_ok]
  have m01 := m.trans' m1
  refine zog S l (k + 2) _ w1 w1 hp.2 hok (.refl _ _) (fun ρ' w' css h1 h2 h3 h4 => ?_) he
  refine hK ρ' w' (ziu (zwg parts) r :: css) (fun t ht => ?_) ⟨_, _, rfl, ztu (zqr _ _) (hr.stay h4), h2⟩ (fun j s hs => ?_) (m01.trans' h4)
  ·rw [h1 t (by omega), zim, zim]
   have : (t == k + 1) = false := beq_eq_false_iff_ne.2 (by omega)
   have h2 : (t == k) = false := beq_eq_false_iff_ne.2 (by omega)
   rw [this, h2]; rfl
  ·cases j with
   | zero =>
    simp [scSl] at hs
    subst hs
    exact ⟨_, rfl, by rw [h1 (k + 1) (by omega), zim]; simp [sel]⟩
   | succ j => exact h3 j s (by simpa [scSl] using hs)
end
theorem zwm (off : Nat) : ∀ (l : List Value) (k : Nat) (arr : Array Value), (l.zipIdx k).foldl (fun cs (x : Value × Nat) => cs.setIfInBounds (off + x.2) x.1) arr = (l.zipIdx (off + k)).foldl (fun cs (x : Value × Nat) => cs.setIfInBounds x.2 x.1) arr
 | [], k, arr => rfl
 | v :: l, k, arr => by
  rw [List.zipIdx_cons, List.zipIdx_cons, List.foldl_cons, List.foldl_cons, zwm off l (k + 1), Nat.add_assoc]
theorem zwn (sz : Nat) : ∀ (css : List (List Value)) (k : Nat) (arr : Array Value), (∀ c ∈ css, c.length = sz) → (k + css.length) * sz ≤ arr.size →
  ∃ out, Instr.fill (fun i => some (i * sz, sz)) arr ((css.zipIdx k).map fun p => (p.2, Value.agg p.1.toArray)) = some out ∧ out.toList = arr.toList.take (k * sz) ++ css.flatten ++ arr.toList.drop ((k + css.length) * sz)
 | [], k, arr, _, h => ⟨arr, rfl, by simp⟩
 | c :: css, k, arr, hc, h => by
  have hcl := hc c (by simp)
  have h1 : (k + 1) * sz + css.length * sz ≤ arr.size := by
   rw [← Nat.add_mul]; simp only [List.length_cons] at h; rwa [show k + 1 + css.length = k + (css.length + 1) by omega]
  have h2 : (k + 1) * sz = k * sz + sz := by rw [Nat.add_mul, Nat.one_mul]
  rw [List.zipIdx_cons, List.map_cons, Instr.fill]
  simp only
  have hcells : (Value.agg c.toArray).cells = c.toArray := rfl
  rw [hcells, if_neg (by simp [hcl]; omega)]
  have e : c.toArray.zipIdx = (c.zipIdx 0).toArray := by simp
  obtain ⟨arr1, harr1⟩ : ∃ arr1, arr1 = c.toArray.zipIdx.foldl (fun cs (x : Value × Nat) => cs.setIfInBounds (k * sz + x.2) x.1) arr := ⟨_, rfl⟩
  have hl1 : arr1.toList = arr.toList.take (k * sz) ++ c ++ arr.toList.drop (k * sz + c.length) := by
   rw [harr1, e, List.foldl_toArray, zwm, Nat.add_zero]
   exact zph c (k * sz) arr (by rw [hcl]; omega)
  have hs1 : arr1.size = arr.size := by
   have := congrArg List.length hl1
   simp only [Array.length_toList, List.length_append, List.length_take, List.length_drop] at this
   omega
  obtain ⟨out, g1, g2⟩ := zwn sz css (k + 1) arr1 (fun x hx => hc x (List.mem_cons_of_mem _ hx)) (by rw [hs1, Nat.add_mul]; exact h1)
  refine ⟨out, ?_, ?_⟩
  ·rw [← harr1]; exact g1
  ·rw [g2, hl1, List.flatten_cons]
   have t1 : (arr.toList.take (k * sz) ++ c ++ arr.toList.drop (k * sz + c.length)).take ((k + 1) * sz) = arr.toList.take (k * sz) ++ c := by
    rw [List.take_append_of_le_length (by simp [hcl]; omega), List.take_of_length_le (by simp [hcl]; omega)]
   have t2 : (arr.toList.take (k * sz) ++ c ++ arr.toList.drop (k * sz + c.length)).drop ((k + 1 + css.length) * sz) = arr.toList.drop ((k + (c :: css).length) * sz) := by
    have hm : (k + 1 + css.length) * sz = k * sz + sz + css.length * sz := by rw [Nat.add_mul, Nat.add_mul, Nat.one_mul]
    have hm2 : (k + (c :: css).length) * sz = k * sz + sz + css.length * sz := by rw [← hm, List.length_cons]; congr 1; omega
    have hle : (arr.toList.take (k * sz) ++ c).length = k * sz + sz := by simp [hcl]; omega
    rw [List.drop_append, hle, List.drop_of_length_le (by rw [hle]; omega), List.nil_append, List.drop_drop, hm, hm2, hcl]
    congr 1; omega
   rw [t1, t2]
   simp
theorem ztt {w w' : World} {k b o : Nat} {fs : List Fld} {css : List (List Value)} (hm : Mod w w' (blk k)) (hk : ∀ i, 7 ≤ i → w.cell? ⟨k, i, none⟩ = none) (hr : zfy w fs css) (h : w.rangeAt b o css.flatten) : w'.rangeAt b o css.flatten := by
 cases fs with
 | nil => simp only [zfy] at hr; subst hr; intro j v hj; simp at hj
 | cons f fs =>
  obtain ⟨c, r, rfl, hc, hr⟩ := hr
  have h8 := hc.len
  match c, h8 with
  | [x0, x1, x2, x3, x4, x5, x6, x7], _ =>
   have h7 := h 7 x7 (by simp)
   have hne : b ≠ k := fun e => by
    subst e
    rw [hk (o + 7) (by omega)] at h7; cases h7
   have hb : b < w.heap.size := zaz (by rw [h7]; rfl)
   exact hm.rangeAt hb (fun i _ _ e => hne e) h
mutual
theorem RepF.but {w w' : World} {k : Nat} (hm : Mod w w' (blk k)) (hk : ∀ i, 7 ≤ i → w.cell? ⟨k, i, none⟩ = none) : ∀ (t : Fld) {cs : List Value}, RepF w t cs → RepF w' t cs
 | .mk _ _ _ _ _ _ _ sub, _, ⟨v, h1, h3⟩ => ⟨v, h1, h3.imp id fun ⟨b, o, c, css, g1, g2, g3, g4⟩ => ⟨b, o, c, css, g1, g2, zfy.but hm hk sub g3, ztt hm hk g3 g4⟩⟩
theorem zfy.but {w w' : World} {k : Nat} (hm : Mod w w' (blk k)) (hk : ∀ i, 7 ≤ i → w.cell? ⟨k, i, none⟩ = none) : ∀ (l : List Fld) {css : List (List Value)}, zfy w l css → zfy w' l css
 | [], _, hr => hr
 | t :: l, _, ⟨c, r, h1, h2, h3⟩ => ⟨c, r, h1, RepF.but hm hk t h2, zfy.but hm hk l h3⟩
end
theorem zga.but {w w' : World} {k : Nat} (hm : Mod w w' (blk k)) (hk : ∀ i, 7 ≤ i → w.cell? ⟨k, i, none⟩ = none) {v : Value} {fs : List Fld} (hs : zga w v fs) : zga w' v fs :=
 hs.imp id fun ⟨b, o, c, css, h1, h2, h3, h4⟩ => ⟨b, o, c, css, h1, h2, zfy.but hm hk fs h3, ztt hm hk h3 h4⟩
section
variable {P : Program} {N : Nums} {M : zcd}
theorem run_bsFs (S : SpT P N M) {w : World} {l : List Fld} {css : List (List Value)} (h : zfy w l css) (h0 : 0 < l.length) (h1 : l.length < 1000) :
  ∃ w1, (Instr.buildSlice M.zac l.length ((css.zipIdx 0).map fun p => (p.2, Value.agg p.1.toArray)).toArray).run P w = .ok (.slice (some ⟨w.heap.size, 0, none⟩) l.length l.length) w1 ∧ Mod w w1 zq ∧ zga w1 (.slice (some ⟨w.heap.size, 0, none⟩) l.length l.length) l := by
 obtain ⟨fs', hti⟩ := S.fld.out
 obtain ⟨i, hi, hsz, _, hz⟩ := hti.1.info
 have hsz : i.size = 8 := hsz
 have hlen : css.length = l.length := by
  have : ∀ (l : List Fld) (css : List (List Value)), zfy w l css → css.length = l.length := by
   intro l
   induction l with
   | nil => intro css h; simp only [zfy] at h; subst h; rfl
   | cons f l ih => rintro _ ⟨c, r, rfl, _, hr⟩; simp [ih r hr]
  exact this l css h
 have h8 := h.len8
 have hlz : ((Array.range (l.length * 8)).map ((Value.agg ([Value.int .i64 0, .int .i64 0, .int .i64 0, .int .i64 0, .int .i64 0, .int .i64 0, .int .i64 0, .slice none 0 0] : List Value).toArray).cells[· % (Value.agg ([Value.int .i64 0, .int .i64 0, .int .i64 0, .int .i64 0, .int .i64 0, .int .i64 0, .int .i64 0, .slice none 0 0] : List Value).toArray).cells.size]!)).size = l.length * 8 := by simp
 obtain ⟨out, g1, g2⟩ := zwn 8 css 0 _ h8 (by rw [hlz, Nat.zero_add, hlen]; exact Nat.le_refl _)
 have hr := run_buildSlice (P := P) w M.zac M.zg l.length ((css.zipIdx 0).map fun p => (p.2, Value.agg p.1.toArray)).toArray out i _ S.lf.und hi hz (by rw [hsz]; omega) (by rw [hsz]; omega) (by rw [hsz]; exact g1)
 have hout : out = css.flatten.toArray := by
  apply Array.ext'
  rw [g2]
  rw [Nat.zero_mul, List.take_zero, List.nil_append, Nat.zero_add, hlen, List.drop_of_length_le (by rw [Array.length_toList, hlz]; exact Nat.le_refl _)]
  simp
 rw [hout] at hr
 have m : Mod w (w.alloc (.cells css.flatten.toArray M.zg)) zq := Mod.alloc _ _ _
 refine ⟨_, hr, m, .inr ⟨w.heap.size, 0, l.length, css, rfl, Nat.le_refl _, zfy.stay m _ h, ?_⟩⟩
 have := zr w css.flatten.toArray M.zg (0, 0)
 simpa using this
theorem zrf (S : SpT P N M) {l : List SC} {k : Nat} {ρ : Env} {w : World} {css : List (List Value)} {K : Env → World → Prop} (hr : zfy w (SC.flds l) css) (hs : ∀ (j s : Nat), (scSl l k)[j]? = some s → ∃ c : List Value, css[j]? = some c ∧ ρ s = .agg c.toArray) (h0 : 0 < l.length) (h1 : l.length < 1000)
  (hK : ∀ (r : Value) (w1 : World), Mod w w1 zq → zga w1 r (SC.flds l) → K (put ρ (some (zni l k)) r) w1) : zbl P (zuq M l k) ρ w K := by
 unfold zuq
 have hfl := SC.flds_len l
 obtain ⟨w1, hb, m1, hf1⟩ := run_bsFs S hr (by omega) (by omega)
 have hcl : css.length = l.length := by
  have : ∀ (l : List Fld) (css : List (List Value)), zfy w l css → css.length = l.length := by
   intro l
   induction l with
   | nil => intro css h; simp only [zfy] at h; subst h; rfl
   | cons f l ih => rintro _ ⟨c, r, rfl, _, hr⟩; simp [ih r hr]
  rw [this _ _ hr, hfl]
 have e : (((scSl l k).zipIdx.map fun p => (p.2, T p.1)).toArray.map fun (p : Nat × Operand) => (p.1, ev ρ p.2)) = ((css.zipIdx 0).map fun p => (p.2, Value.agg p.1.toArray)).toArray := by
  rw [List.map_toArray, List.map_map]
  congr 1
  apply List.ext_getElem?
  intro j
  rw [List.getElem?_map, List.getElem?_map, List.getElem?_zipIdx, List.getElem?_zipIdx]
  cases hj : (scSl l k)[j]? with
  | none =>
   have : css[j]? = none := by
    rw [List.getElem?_eq_none_iff] at hj ⊢
    rw [zur] at hj; omega
   rw [this]; rfl
  | some s =>
   obtain ⟨c, hc, hv⟩ := hs j s hj
   rw [hc]
   simp [hv]
 rw [hfl] at hb
 rw [zck, e, hb]
 simp only [stepV_ok]
 rw [hfl] at hf1
 exact hK _ _ m1 hf1
theorem zre {l : List SC} (h : scB l = true) : (l.all SC.partsB) = true ∧ zni l 0 < 90 ∧ 0 < l.length ∧ l.length < 1000 := by
 unfold scB at h
 simp only [Bool.and_eq_true] at h
 obtain ⟨⟨⟨h1, h2⟩, h3⟩, h4⟩ := h
 exact ⟨h1, by simpa using h2, by simpa using h3, by simpa using h4⟩
theorem mk_flds (S : SpT P N M) {l : List SC} (hB : scB l = true) (hok : scOk P l) {f : FuncId} (hf : FOk P f 0 (c_flds M l) [.var 0]) : MkOk P f (SC.flds l) := by
 intro w
 obtain ⟨b1, b2, b3, b4⟩ := zre hB
 refine hf.call rfl fun loc N' hlo => ?_
 unfold c_flds seqs seqs seqs
 refine ze fun K hK => zas (hK _ _ ?_)
 clear hK K
 refine ze fun K hK => zx fun τ => znl _ _ _ _ (zog S l 0 _ w w b1 hok (.refl _ _) (fun ρ w1 css h1 h2 h3 m1 => ?_) b2)
 rw [runR]
 refine zrf S h2 h3 b3 b4 fun r w2 m2 hr => ?_
 simp +decide only [runR, zki, ev_tmp, zim, sel_true, BEq.rfl]
 refine hK _ _ (zd fun σ' hσ => zbm ⟨.inr rfl, _, rfl, ?_⟩)
 have q := hσ 0
 simp +decide only [bE, BEq.rfl, Nat.zero_add] at q
 rw [q]
 exact ⟨hr, m1.trans' m2⟩
theorem mk_msg (S : SpT P N M) {l : List SC} {fl : Int} (hB : scB l = true) (hok : scOk P l) {f : FuncId} (hf : FOk P f 0 (c_msg M l fl) [.cell 0 M.zam]) (w : World) :
  Call P f #[] w fun r w' => ∃ fv, r = .agg [fv, .int .i64 fl].toArray ∧ zga w' fv (SC.flds l) ∧ Mod w w' zq := by
 obtain ⟨b1, b2, b3, b4⟩ := zre hB
 refine hf.call rfl fun loc N' hlo => ?_
 unfold c_msg seqs seqs seqs
 obtain ⟨fs', hti, _⟩ := S.msg.out
 obtain ⟨w0, hw0⟩ : ∃ w0, w0 = w.alloc (.cells (Value.cells (.agg ([.slice none 0 0, .int .i64 0] : List Value).toArray)) M.zam) := ⟨_, rfl⟩
 have hal := fun old => hti.run_alloc (P := P) (w := w) old
 rw [← hw0] at hal
 have m0 : Mod w w0 zq := by rw [hw0]; exact Mod.alloc _ _ _
 have s0 : w0.heap.size = w.heap.size + 1 := by rw [hw0]; exact zaj _ _
 have t0 : w0.there w.heap.size 0 2 := by rw [hw0]; exact zbx w _ M.zam
 have r0 : w0.rangeAt w.heap.size 0 [.slice none 0 0, .int .i64 0] := by rw [hw0]; exact zr w _ _ _
 have c0 : ∀ i, 2 ≤ i → w0.cell? ⟨w.heap.size, i, none⟩ = none := by
  intro i hi
  rw [hw0]
  simp only [World.cell?, zlx]
  have : (Value.cells (.agg ([.slice none 0 0, .int .i64 0] : List Value).toArray)).size = 2 := rfl
  simp [this]; omega
 clear hw0
 refine ze fun K hK => zx fun τ => ?_
 simp +decide only [runR, zmc, hal, stepV_ok]
 refine hK _ _ (zd fun σ1 hσ => ?_)
 have a0 := hσ 0
 simp +decide only [bE, BEq.rfl, Nat.zero_add] at a0
 clear hσ hK K
 refine ze fun K hK => zx fun τ => znl _ _ _ _ (zog S l 0 _ w0 w0 b1 hok (.refl _ _) (fun ρ w1 css h1 h2 h3 m1 => ?_) b2)
 rw [runR]
 refine zrf S h2 h3 b3 b4 fun r w2 m2 hr => ?_
 have hv0 : ρ 100 = .pointer (some ⟨w.heap.size, 0, none⟩) := by
  rw [h1 100 (.inr (Nat.le_refl _)), zln]; simp +decide only [bE, decide_false, Nat.reduceSub, a0]
 obtain ⟨n, hn⟩ : ∃ n, n = zni l 0 := ⟨_, rfl⟩
 rw [← hn] at b2 ⊢
 have hbuild : (Instr.build M.zam #[(1, .int .i64 fl), (0, r)]).run P w2 = .ok (.agg [r, .int .i64 fl].toArray) w2 := S.msg.run_build (by simp [Instr.fill, zcs hr.one, zcs (show (Value.int .i64 fl).oneCell' = true from rfl)])
 have m02 := m1.trans' m2
 have hst := hti.run_store (w := w2) (b := w.heap.size) (o := 0) (v := .agg [r, .int .i64 fl].toArray) (cs := [r, .int .i64 fl]) rfl rfl (m02.there (by omega) t0) (by
  intro c hc; simp at hc; rcases hc with rfl | rfl
  ·exact hr.one
  ·rfl)
 obtain ⟨w3, hw3⟩ : ∃ w3, w3 = w2.setCells w.heap.size 0 [r, .int .i64 fl] := ⟨_, rfl⟩
 have m3 : Mod w2 w3 (blk w.heap.size) := by rw [hw3]; exact Mod.setCells _ _ _ fun _ _ _ _ => rfl
 have r3 : w3.rangeAt w.heap.size 0 [r, .int .i64 fl] := by
  rw [hw3]
  exact zar [r, .int .i64 fl] 0 w2 _ (zk m02 r0) (Nat.le_refl _)
 rw [← hw3] at hst
 clear hw3
 have e1 : (n == n + 1) = false := beq_eq_false_iff_ne.2 (by omega)
 have e2 : (100 == n + 1) = false := beq_eq_false_iff_ne.2 (by omega)
 have e3 : (100 == n) = false := beq_eq_false_iff_ne.2 (by omega)
 have ep : (#[(1, Operand.const (.int .i64 fl)), (0, T n)].map fun (p : Nat × Operand) => (p.1, ev (put ρ (some n) r) p.2)) = #[(1, .int .i64 fl), (0, r)] := by simp [zim, sel]
 simp +decide only [runR, zep, ep, hbuild, stepV_ok, zee, ev_tmp, zim, sel_true, sel_false, BEq.rfl, e2, e3, hv0, hst, stepU_ok]
 have m03 : Mod w w3 zq := (m0.trans' m02).fresh m3 fun k o h => by have : k = w.heap.size := h; omega
 refine hK _ _ (zd fun σ' hσ => zbm ⟨.inr rfl, .agg [r, .int .i64 fl].toArray, ?_, r, rfl, ?_, m03⟩)
 ·have q := hσ 0
  rw [show (0 + 100 : Nat) = 100 from rfl] at q
  simp +decide only [zim, e2, e3, sel_false, hv0] at q
  refine ⟨_, q, ?_⟩
  have := hti.run_load (w := w3) (b := w.heap.size) (o := 0) r3 rfl (fun h => by cases h)
  have e : (Instr.loadAt M.zam (.pointer (some ⟨w.heap.size, 0, none⟩))).run P w3 = (loadVar M.zam ⟨w.heap.size, 0, none⟩).run P w3 := by simp [Instr.loadAt, Instr.sureAddr]
  rw [← e, this]; rfl
 ·refine hr.but m3 fun i hi => ?_
  have h1 := m02.isCell w.heap.size i (by omega)
  have h2 : w0.cell? ⟨w.heap.size, i, none⟩ = none := c0 i (by omega)
  rw [h2] at h1
  cases hc : w2.cell? ⟨w.heap.size, i, none⟩ with
  | none => rfl
  | some x => rw [hc] at h1; cases h1
end
mutual
def okLB : Fld → Bool
 | .mk k _ _ _ _ _ o sub => (decide (k ≠ 11) || decide (o ≠ 11)) && okLsB sub
def okLsB : List Fld → Bool
 | [] => true
 | f :: r => okLB f && okLsB r
end
section
variable {P : Program} {N : Nums} {M : zcd}
mutual
theorem okT_of (B : Base P N) (F : Fns P N) (hN : N.zbt ≠ 0) (S : SpT P N M) (hW : SW P N M) (hT : STo P N M) {flex : Bool} {v : Int} : ∀ (f : Fld), okFB f = true → okLB f = true → OkT P M flex v f
 | .mk k a b n g d o sub, h, h' => by
  simp only [okFB, Bool.and_eq_true, decide_eq_true_eq, Bool.or_eq_true] at h
  simp only [okLB, Bool.and_eq_true, decide_eq_true_eq, Bool.or_eq_true] at h'
  obtain ⟨⟨h1, h2⟩, h3⟩ := h
  refine ⟨h1, h2, zrb B F hN S hW hT (fun hk => absurd hk h2) fun hk => ?_⟩
  have hof : o ≠ 11 := by
   rcases h'.1 with h' | h'
   ·exact absurd hk h'
   ·exact h'
  refine ⟨zrb B F hN S hW hT (f := (Fld.mk k a b n g d o sub).one) (fun ho => ?_) (fun ho => absurd ho hof), hof⟩
  rcases h3 with (h3 | h3) | ⟨h3, h4⟩
  ·exact absurd hk h3
  ·exact absurd ho h3
  ·have : sub.length < 1000 := by simpa using h3
   exact sp_Told B F hN S hW hT (Nat.lt_trans this (by decide)) (zyi B F hN S hW hT sub h4 h'.2)
theorem zyi (B : Base P N) (F : Fns P N) (hN : N.zbt ≠ 0) (S : SpT P N M) (hW : SW P N M) (hT : STo P N M) {flex : Bool} {v : Int} : ∀ (l : List Fld), zqg l = true → okLsB l = true → ∀ f ∈ l, OkT P M flex v f
 | [], _, _, f, hf => by cases hf
 | g :: r, h, h', f, hf => by
  simp only [zqg, Bool.and_eq_true] at h
  simp only [okLsB, Bool.and_eq_true] at h'
  rcases List.mem_cons.1 hf with e | hf
  ·rw [e]; exact okT_of B F hN S hW hT g h.1 h'.1
  ·exact zyi B F hN S hW hT r h.2 h'.2 f hf
end
theorem OctA.argOct {w : World} {v : Value} {s : List UInt8} (h : OctA w v s) : zss w v s := by
 rcases h with ⟨ad, c, e, h⟩ | ⟨b, o, c, e, h1, h2⟩
 ·exact .inl ⟨ad, c, e, h⟩
 ·cases s with
  | nil => exact .inl ⟨_, c, e, rfl⟩
  | cons x s =>
   have h0 := h2 0 (zbf x) rfl
   refine .inr ⟨_, c, e, h1, zaz (by rw [h0]; rfl), fun j y hj => ?_⟩
   rw [Addr.add_mid]
   exact h2 j (zbf y) (by rw [List.getElem?_map, hj]; rfl)
def verB (m : Msg) (fx : Bool) (sf : List Fld) (fl : Int) (k : Nat) : Bool :=
 (List.range (k + 1)).all fun v => m.fs.matB (fx && decide ((v : Int) ≥ m.fl)) v sf && (fx && decide ((v : Int) ≥ m.fl) || (sf.any fun f => f.has v) || m.fs.offB (fx && decide ((v : Int) ≥ m.fl)) v) && (zmt fl v == (fx && decide ((v : Int) ≥ m.fl)))
structure LawTT (P : Program) (N : Nums) (M : zcd) (m : Msg) (fx : Bool) (d : zvp) (k : Nat) (mk : Nat) (sc : List SC) (fl : Int) : Prop where
 D : zyv P N m fx d
 rf : FOk P d.readF 2 (c_rf N m.pT d.readf false) [.var 2]
 mv : FOk P d.maxV 1 (c_max k) [.var 1]
 mi : FOk P d.maxI 0 (c_maxI N m.pT d.newP d.maxV) [.var 0]
 ti : FOk P d.tellI 2 (c_door N m.pT d.newP d.setV d.readF d.tell) [.cell 2 N.zz, .var 3]
 k1 : IntKind.i64.wrap k = k
 k2 : IntKind.i64.wrap (k + 1) = k + 1
 kk : k < 32767
 mf : FOk P mk 0 (c_msg M sc fl) [.cell 0 M.zam]
 scb : scB sc = true
 sco : scOk P sc
 okf : zqg (SC.flds sc) = true
 okl : okLsB (SC.flds sc) = true
 ver : verB m fx (SC.flds sc) fl k = true
def dTell (N : Nums) (M : zcd) : List ROp := [
 ⟨some 0, .move (V 10), 0, none, []⟩,
 ⟨some 1, .move (T 0), 0, none, [0]⟩,
 ⟨some 2, .fieldAddr M.zam (V 7) 0, 0, some (some 1, true), [1]⟩,
 ⟨some 3, .load M.zac (T 2), 0, some (some 1, true), [2, 1]⟩,
 ⟨some 4, .move (V 8), 0, some (some 1, true), [1]⟩,
 ⟨some 5, .load M.zam (V 7), 0, some (some 1, true), [1]⟩,
 ⟨some 6, .move (V 8), 0, some (some 1, true), [1]⟩,
 ⟨some 7, .call ⟨.value (.func M.zdz), #[T 5, T 6], #[M.zam, N.zf]⟩, N.zae, some (some 1, true), [5, 6, 1, 1]⟩,
 ⟨some 8, .load N.zc (V 2), 0, some (some 1, true), [1]⟩,
 ⟨some 9, .load N.zz (V 9), 0, some (some 1, true), [1]⟩,
 ⟨some 10, .call ⟨.value (.func N.zqh), #[T 9], #[N.zz]⟩, N.zc, some (some 1, true), [9, 7, 1]⟩,
 ⟨some 11, .call ⟨.value (.func M.zkn), #[T 3, T 4, T 7, T 8, T 10], #[M.zac, N.zf, N.zae, N.zc, N.zc]⟩, N.zae, some (some 1, true), [3, 4, 7, 8, 10, 10, 1]⟩,
 ⟨some 12, .pick (T 1) (T 11) (.const (.bool false)), 0, none, [1, 11]⟩,
 ⟨some 103, .assign (T 12), 0, none, [12, 11, 0, 1, 2, 3, 4, 5, 6, 7, 8, 9, 10, 11, 12]⟩]
def c_lawT (N : Nums) (M : zcd) (tTB maxI tellI mk : Nat) : C := seqs [
 .ops [⟨some 102, .box N.zc (V 1), 0, none, []⟩, ⟨some 103, .assign (.const (.bool false)), 0, none, []⟩],
 .seq (.ops [⟨some 0, .load N.zc (V 2), 0, none, []⟩, ⟨some 1, .call ⟨.value (.func M.zrs), #[T 0], #[N.zc]⟩, N.zae, none, []⟩, ⟨some 104, .unOp .not N.zae (T 1), 0, none, []⟩]) (.cond 4 (.seq (zhj 3 (.bool true)) .ret) .skip),
 .ops [⟨some 0, .call ⟨.value (.func maxI), #[], #[]⟩, N.zf, none, []⟩, ⟨some 105, .assign (T 0), 0, none, []⟩],
 .seq (.ops [⟨some 0, .move (V 5), 0, none, []⟩, ⟨some 106, .binOp .lss N.zf (T 0) (.const (.int .i64 0)) N.zf, 0, none, []⟩]) (.cond 6 (.seq (zhj 3 (.bool false)) .ret) .skip),
 .ops [⟨some 0, .call ⟨.value (.func mk), #[], #[]⟩, M.zam, none, []⟩, ⟨some 1, .move (V 0), 0, none, []⟩, ⟨some 2, .move (V 5), 0, none, []⟩, ⟨some 3, .call ⟨.value (.func N.zkb), #[T 1, T 2], #[N.zw, N.zf]⟩, N.zf, none, []⟩,
  ⟨some 107, .alloc M.zam, 0, none, []⟩, ⟨none, .store M.zam (V 7) (T 0), 0, none, []⟩, ⟨some 108, .assign (T 3), 0, none, []⟩],
 .ops [⟨some 1, .move (V 8), 0, none, []⟩, ⟨some 2, .load M.zam (V 7), 0, none, []⟩, ⟨some 3, .move (V 8), 0, none, []⟩, ⟨some 4, .load N.zc (V 2), 0, none, []⟩,
  ⟨some 5, .call ⟨.value (.func M.zll), #[T 2, T 3, T 4], #[M.zam, N.zf, N.zc]⟩, N.za, none, []⟩, ⟨some 6, .call ⟨.value (.func tellI), #[T 1, T 5], #[N.zf, N.za]⟩, tTB, none, []⟩,
  ⟨some 0, .move (T 6), 0, none, []⟩, ⟨some 7, .extract (T 0) 0, 0, none, []⟩, ⟨some 8, .extract (T 0) 1, 0, none, []⟩, ⟨some 109, .alloc N.zz, 0, none, []⟩, ⟨none, .store N.zz (V 9) (T 7), 0, none, []⟩, ⟨some 110, .assign (T 8), 0, none, []⟩],
 .draw (dTell N M), .ret]
theorem W_tell (B : Base P N) (F : Fns P N) (hI : zfe P N) (S : SpT P N M) (hT : STo P N M) (hG : N.zqh ≠ 0) {loc : List Nat} {N' : Nat} {Q : Exit → Env → World → Prop} {σ : Env} {w : World} {bT bM b9 : Nat} {v fl : Int} {fs : List Fld} {fv : Value} {t y : Tr} {ct : List Value}
  (h2 : σ 2 = .pointer (some ⟨bT, 0, none⟩)) (h7 : σ 7 = .pointer (some ⟨bM, 0, none⟩)) (h8 : σ 8 = .int .i64 v) (h9 : σ 9 = .pointer (some ⟨b9, 0, none⟩)) (h10 : σ 10 = .bool true)
  (rT : w.rangeAt bT 0 ct) (ht : RepA w t ct) (rM : w.rangeAt bM 0 [fv, .int .i64 fl]) (hf : zga w fv fs) (p9 : Put w b9 y) (hs : okS y) (ok : ToldOk P M (zmt fl v) v fs) (hy : zui (zmt fl v) v fs t y)
  (hQ : ∀ (σ' : Env) (w' : World), σ' 3 = .bool true → Mod w w' zq → Q .normal σ' w') : W P loc N' (.draw (dTell N M)) Q σ w := by
 have md : Mod w w.drew zq := Mod.drew _ _
 obtain ⟨c9, q9, r9, l9⟩ := p9
 obtain ⟨fsM, htM, _⟩ := S.msg.out
 refine zey B.mixed [true, true, true, true, true, true, true, false, true, true, false, false, false, false] (by kernel_rfl) (fun w' => Mod w w' zq) md fun τ => ?_
 unfold dTell
 refine zb (.bool true) (fun w' hw => by
  rw [zao, ev_tmp]
  simp +decide only [bE, Nat.reduceAdd, h10]) rfl ?_
 refine zb (.bool true) (fun w' hw => by
  rw [zao, ev_tmp]
  simp +decide only [bE, BEq.rfl]) rfl ?_
 refine zdl (.pointer (some ⟨bM, 0, none⟩)) (by simp +decide only [zcj, bE, BEq.rfl]) (fun w' hw => zi (by
  simp +decide only [bE, Nat.reduceBeqDiff, Nat.reduceAdd, Nat.zero_add, ev_tmp, h7, S.m0.run])) ?_
 refine zdl fv (by simp +decide only [zcj, bE, Nat.reduceBeqDiff, BEq.rfl]) (fun w' hw => zi (by
  have := zk hw rM 0 _ rfl
  simp +decide only [Nat.zero_add] at this
  simp +decide only [bE, BEq.rfl, ev_tmp, S.lf.run_load1 rfl, this, ldc_some])) ?_
 refine zdl (.int .i64 v) (by simp +decide only [zcj, bE, Nat.reduceBeqDiff, BEq.rfl]) (fun w' hw => by
  rw [zao, ev_tmp]
  simp +decide only [bE, Nat.reduceBeqDiff, Nat.reduceAdd, h8]) ?_
 refine zdl (.agg [fv, .int .i64 fl].toArray) (by simp +decide only [zcj, bE, Nat.reduceBeqDiff, BEq.rfl]) (fun w' hw => zi (by
  simp +decide only [bE, Nat.reduceBeqDiff, Nat.reduceAdd, ev_tmp, h7]
  have := htM.run_load (w := w') (b := bM) (o := 0) (zk hw rM) rfl (fun h => by cases h)
  rw [this]; rfl)) ?_
 refine zdl (.int .i64 v) (by simp +decide only [zcj, bE, Nat.reduceBeqDiff, BEq.rfl]) (fun w' hw => by
  rw [zao, ev_tmp]
  simp +decide only [bE, Nat.reduceBeqDiff, Nat.reduceAdd, h8]) ?_
 simp only []
 refine zdl (.agg ct.toArray) (by simp +decide only [zcj, bE, Nat.reduceBeqDiff, BEq.rfl]) (fun w' hw => zi (by
  simp +decide only [bE, Nat.reduceBeqDiff, Nat.reduceAdd, ev_tmp, h2]
  exact zcr S.tr (zk hw rT) ht.len)) ?_
 refine zdl (.agg c9.toArray) (by simp +decide only [zcj, bE, Nat.reduceBeqDiff, BEq.rfl]) (fun w' hw => zi (by
  simp +decide only [bE, Nat.reduceBeqDiff, Nat.reduceAdd, ev_tmp, h9]
  exact load_tree hI (hw.rangeAt l9 (fun _ _ _ h => h) r9) q9.len)) ?_
 simp only [zdc, zcq, List.zip_cons_cons, List.zip_nil_right, List.zipWith_cons_cons, List.zipWith_nil_right, List.filter, Bool.not_true, Bool.not_false, List.map, zdd]
 rw [zah (b := true) (by simp +decide only [bE, Nat.reduceBeqDiff, BEq.rfl]), zbo hT.Message_Flexible.has]
 simp +decide only [bK, bE, Nat.reduceBeqDiff, BEq.rfl]
 refine (zxv B S hT.Message_Flexible w.drew fv fl v).mono ?_
 rintro _ w2 ⟨rfl, m2⟩
 have m02 := md.trans' m2
 refine ⟨m02, ?_⟩
 rw [zah (b := true) (by simp +decide only [bE, Nat.reduceBeqDiff, BEq.rfl]), zal (F.got hG).has]
 simp +decide only [bK, bE, Nat.reduceBeqDiff, BEq.rfl]
 refine (gotT B F hG S.tr hI y hs w2 (fun k => k < b9) c9 (fun k hk => Nat.lt_of_lt_of_le (Nat.lt_trans hk l9) m02.size) (RepT.stay m02 y q9)).mono ?_
 rintro _ w3 ⟨d1, rfl, q3, m3⟩
 have m03 := m02.trans' m3
 refine ⟨m03, ?_⟩
 rw [zah (b := true) (by simp +decide only [bE, Nat.reduceBeqDiff, BEq.rfl]), zmb hT.Told.has]
 simp +decide only [bK, bE, Nat.reduceBeqDiff, BEq.rfl]
 refine (ok w3 fv t y ct d1 (hf.stay m03) (RepA.stay m03 _ ht) (RepT.repA _ q3) hy).mono ?_
 rintro _ w4 ⟨rfl, m4⟩
 have m04 := m03.trans' m4
 refine ⟨m04, ?_⟩
 simp +decide only [bK, bE, Nat.reduceBeqDiff, BEq.rfl, if_true, zbk]
 refine ⟨m04, ?_⟩
 refine zd fun σ' hσ => hQ σ' _ ?_ m04
 have g := hσ 3
 simp +decide only [bE, BEq.rfl, Nat.reduceAdd] at g
 exact g
theorem verB_at {m : Msg} {fx : Bool} {sf : List Fld} {fl : Int} {k : Nat} (h : verB m fx sf fl k = true) {v : Nat} (hv : v ≤ k) : m.fs.matB (fx && decide ((v : Int) ≥ m.fl)) v sf = true ∧ (((fx && decide ((v : Int) ≥ m.fl)) = true ∨ (sf.any fun f => f.has v) = true) ∨ m.fs.offB (fx && decide ((v : Int) ≥ m.fl)) v = true) ∧ zmt fl v = (fx && decide ((v : Int) ≥ m.fl)) := by
 unfold verB at h
 rw [List.all_eq_true] at h
 have := h v (List.mem_range.2 (by omega))
 simp only [Bool.and_eq_true, Bool.or_eq_true, beq_iff_eq] at this
 obtain ⟨⟨h1, h2⟩, h3⟩ := this
 exact ⟨h1, by simpa using h2, h3⟩
theorem fits_of {t : Tr} (h : szT t ≤ 1048576) : fitsT t := by
 have h1 := zte t
 have hl : ∀ l : List Tr, l.length ≤ szTs l := by
  intro l
  induction l with
  | nil => simp
  | cons x l ih => have := zxs x; simp only [szTs, List.length_cons]; omega
 have hu : ∀ u : List (Nat × List UInt8), u.length ≤ szU u ∧ ∀ x ∈ u, x.2.length ≤ szU u := by
  intro u
  induction u with
  | nil => exact ⟨by simp, fun x hx => by cases hx⟩
  | cons x u ih =>
   have e : szU (x :: u) = 1 + x.2.length + szU u := by simp [szU]
   refine ⟨by rw [e, List.length_cons]; omega, fun y hy => ?_⟩
   rcases List.mem_cons.1 hy with hy | hy
   ·rw [hy, e]; omega
   ·have := ih.2 y hy; rw [e]; omega
 have h2 := hl t.l
 have h3 := hu t.u
 exact ⟨by omega, by omega, by omega, fun x hx => by have := h3.2 x hx; omega⟩
theorem call_lawT (B : Base P N) (F : Fns P N) (hI : zfe P N) (S : SpT P N M) (hZ : SZ P N M) (hW : SW P N M) (hT : STo P N M) (hN : N.zbt ≠ 0) (hG : N.zqh ≠ 0) (hV : N.zkb ≠ 0) {m : Msg} {fx : Bool} {d : zvp} {k mk : Nat} {sc : List SC} {fl : Int} (L : LawTT P N M m fx d k mk sc fl) {f tTB : Nat}
  (hf : FOk P f 2 (c_lawT N M tTB d.maxI d.tellI mk) [.var 3]) {w : World} {t : Tr} {ct : List Value} {n : Int} {te : TypeId} {ve : Value} (hn : 0 ≤ n ∧ n ≤ 255) (ht : RepA w t ct) (hwf : wfT t) (hsz : szT t ≤ 1048576) (he : w.cell? ⟨N.zaq, 0, none⟩ = some (.iface te ve)) :
  Call P f #[.int .u8 n, .agg ct.toArray] w fun v' w' => v' = .bool true ∧ Mod w w' zq := by
 refine hf.call rfl fun loc N' hlo => ?_
 unfold c_lawT
 refine zkv (by simp) ?_
 refine zbr fun K hK => zx fun τ => ?_
 simp +decide only [bK, bE, Nat.reduceAdd]
 obtain ⟨w1, hw1⟩ : ∃ w1, w1 = w.alloc (.cells (Value.cells (.agg ct.toArray)) N.zc) := ⟨_, rfl⟩
 have m1 : Mod w w1 zq := by rw [hw1]; exact Mod.alloc _ _ _
 have r1 : w1.rangeAt w.heap.size 0 ct := by rw [hw1]; exact zr w _ _ _
 have s1 : w1.heap.size = w.heap.size + 1 := by rw [hw1]; exact zaj _ _
 rw [← hw1]
 clear hw1
 refine hK _ _ (zd fun σ1 hσ => ?_)
 have a0 := hσ 0
 have a2 := hσ 2
 simp +decide only [bE, Nat.reduceBeqDiff, BEq.rfl, Nat.reduceAdd, Nat.zero_add, zkf] at a0 a2
 clear hσ hK K
 obtain ⟨bT, hbT⟩ : ∃ b, b = w.heap.size := ⟨_, rfl⟩
 rw [← hbT] at a2 r1
 have ht1 := RepA.stay m1 _ ht
 refine zbr fun K hK => ze fun K1 hK1 => zx fun τ => ?_
 simp +decide only [bK, bE, Nat.reduceAdd, a2, zcr S.tr r1 ht.len]
 rw [zal hZ.zzFits1.has]
 simp +decide only [bK, bE, BEq.rfl]
 refine (sp_fits1 B S hZ ht1 (fits_of hsz)).mono ?_
 rintro _ w2 ⟨rfl, m2⟩
 simp +decide only [bK]
 refine hK1 _ _ (zd fun σ2 hσ => ?_)
 have b0 := hσ 0
 have b2 := hσ 2
 have b4 := hσ 4
 simp +decide only [bE, Nat.reduceBeqDiff, BEq.rfl, Nat.reduceAdd, Nat.zero_add, a0, a2] at b0 b2 b4
 clear hσ hK1 K1 a0 a2
 refine W_if hlo b4 ?_
 simp only [Bool.not_true, Bool.false_eq_true, if_false]
 refine zax (hK _ _ ?_)
 clear hK K b4
 have m02 := m1.trans' m2
 refine zbr fun K hK => zx fun τ => ?_
 simp +decide only [bK]
 rw [zjv L.mi.has]
 refine (call_maxI B L.D L.mv L.mi w2).mono ?_
 rw [L.k1]
 rintro _ w3 ⟨rfl, m3⟩
 simp +decide only [bE, BEq.rfl]
 refine hK _ _ (zd fun σ3 hσ => ?_)
 have c0 := hσ 0
 have c2 := hσ 2
 have c5 := hσ 5
 simp +decide only [bE, Nat.reduceBeqDiff, BEq.rfl, Nat.reduceAdd, Nat.zero_add, b0, b2] at c0 c2 c5
 clear hσ hK K b0 b2
 have m03 := m02.trans' m3
 refine zbr fun K hK => ze fun K1 hK1 => zx fun τ => ?_
 simp +decide only [bK, bE, BEq.rfl, Nat.reduceAdd, c5]
 refine hK1 _ _ (zd fun σ4 hσ => ?_)
 have d0 := hσ 0
 have d2 := hσ 2
 have d5 := hσ 5
 have d6 := hσ 6
 simp +decide only [bE, Nat.reduceBeqDiff, BEq.rfl, Nat.reduceAdd, Nat.zero_add, c0, c2, c5] at d0 d2 d5 d6
 clear hσ hK1 K1 c0 c2 c5
 refine W_if hlo d6 ?_
 have hk0 : ¬ (k : Int) < 0 := by omega
 simp only [hk0, decide_false, Bool.false_eq_true, if_false]
 refine zax (hK _ _ ?_)
 clear hK K d6
 obtain ⟨v, hv⟩ : ∃ v : Nat, (IntKind.i64.wrap n).tmod (IntKind.i64.wrap (k + 1)) = (v : Int) ∧ v ≤ k := by
  rw [L.k2, zgy (by omega) (by omega)]
  have h1 := Int.tmod_nonneg (k + 1 : Int) hn.1
  have h2 := Int.tmod_lt_of_pos n (show (0 : Int) < k + 1 by omega)
  exact ⟨(n.tmod (k + 1)).toNat, by omega, by omega⟩
 obtain ⟨fsM, htM, _⟩ := S.msg.out
 refine zbr fun K hK => zx fun τ => ?_
 simp +decide only [bK, bE, Nat.reduceBeqDiff, BEq.rfl, Nat.reduceAdd, Nat.zero_add]
 rw [zjv L.mf.has]
 refine (mk_msg S L.scb L.sco L.mf w3).mono ?_
 rintro _ w4 ⟨fv, rfl, hfv, m4⟩
 simp +decide only [bE, Nat.reduceBeqDiff, d0, d5]
 rw [zbo (F.version hV).has]
 simp +decide only [bK, bE, Nat.reduceBeqDiff, BEq.rfl]
 refine (zws B F hV w4 n k (by rw [L.k2]; omega)).mono ?_
 rintro _ w4' ⟨rfl, hw4⟩
 obtain rfl := hw4.symm
 clear hw4
 rw [hv.1]
 obtain ⟨w5, w6, hal, hst, _, m46, s6, r6, _⟩ := zkq (cs := [fv, .int .i64 fl]) htM (by decide) rfl rfl (by
  intro c hc; simp at hc; rcases hc with rfl | rfl
  ·exact hfv.one
  ·rfl) w4
 simp +decide only [bK, hal, hst]
 refine hK _ _ (zd fun σ5 hσ => ?_)
 have e2 := hσ 2
 have e7 := hσ 7
 have e8 := hσ 8
 simp +decide only [bE, Nat.reduceBeqDiff, BEq.rfl, Nat.reduceAdd, d2] at e2 e7 e8
 clear hσ hK K d0 d2 d5 hal hst
 obtain ⟨bM, hbM⟩ : ∃ b, b = w4.heap.size := ⟨_, rfl⟩
 rw [← hbM] at e7 r6
 have m06 := (m03.trans' m4).trans' m46
 have m16 := ((m2.trans' m3).trans' m4).trans' m46
 have hf6 := hfv.stay m46
 have ht6 := RepA.stay m06 _ ht
 have rT6 := zk m16 r1
 obtain ⟨g1, g2, g3⟩ := verB_at L.ver hv.2
 have hbl : (zdv (zmt fl v) v (SC.flds sc) t).length ≤ K0 * szT t := partB_len L.okf (by rw [SC.flds_len]; exact (zre L.scb).2.2.2) hwf
 have hK0 : K0 * szT t ≤ 40000 * 1048576 := Nat.mul_le_mul (Nat.le_refl _) hsz
 have hbl2 : (zdv (zmt fl v) v (SC.flds sc) t).length < 549755813888 := by omega
 rw [← g3] at g1 g2
 obtain ⟨p1, x, p2, p3⟩ := msg_rd (m := m) (fx := fx) (ver := v) hwf (by rw [← g3]; exact g1)
 rw [← g3] at p1 p2 p3
 have hi16 : IntKind.i16.wrap (v : Int) = v := zqv (by have := L.kk; omega)
 obtain ⟨s, hs⟩ : ∃ s, s = zdv (zmt fl v) v (SC.flds sc) t := ⟨_, rfl⟩
 rw [← hs] at hbl2 p1 p2
 have hdoor : m.door fx v s = (m.fs.tr x, true) := by
  unfold Msg.door
  rw [hi16]
  have p2' : m.rd fx v ⟨s, false, s.isEmpty⟩ = some x := by
   cases he : s.isEmpty with
   | false => exact p2
   | true =>
    rw [List.isEmpty_iff] at he
    rcases g2 with g2 | g2
    ·exact absurd he (p1 g2)
    ·rw [he] at p2 ⊢
     rw [g3] at g2
     obtain ⟨y, hy⟩ := Fds.off_rd g2
     simp only [Msg.rd, rs, hy] at p2 ⊢
     exact p2
  rw [p2']
 have hld := htM.run_load (w := w6) (b := bM) (o := 0) r6 rfl (fun h => by cases h)
 have hlv : ∀ (f : Array Field) (x : List Value), ldv (.struct f) x = .agg x.toArray := fun _ _ => rfl
 rw [hlv] at hld
 have hgl : N.zaq < w.heap.size := zaz (by rw [he]; rfl)
 refine zbr fun K hK => zx fun τ => ?_
 simp +decide only [bK, bE, Nat.reduceBeqDiff, BEq.rfl, Nat.reduceAdd, e2, e7, e8, hld, zcr S.tr rT6 ht.len]
 rw [zju hW.Write.has]
 simp +decide only [bK, bE, Nat.reduceBeqDiff, BEq.rfl]
 refine (sp_Write B S hW (by rw [SC.flds_len]; exact (zre L.scb).2.2.2) L.okf hf6 ht6 hwf (by rw [← hs]; exact hbl2)).mono ?_
 rintro r w7 ⟨ho7, m7⟩
 rw [← hs] at ho7
 have m07 := m06.trans' m7
 rw [zbo L.ti.has]
 simp +decide only [bK, bE, Nat.reduceBeqDiff, BEq.rfl]
 refine (call_door B F hI L.D L.ti L.rf (n := v) ho7.octA.argOct (by omega) (te := te) (ve := ve) (by rw [m07.cell _ _ hgl fun h => h]; exact he)).mono ?_
 rw [hdoor]
 rintro _ w8 ⟨cy, rfl, hrep, m8⟩
 obtain ⟨w9, hal, m9, s9, hres⟩ := zih hI w8
 simp +decide only [bK, hal]
 obtain ⟨w10, hst, m10, s10, r10, t10⟩ := zjg hI hres.r rfl hres.t hrep.len hrep.one
 simp +decide only [bK, hst]
 refine hK _ _ (zd fun σ6 hσ => ?_)
 have f2 := hσ 2
 have f7 := hσ 7
 have f8 := hσ 8
 have f9 := hσ 9
 have f10 := hσ 10
 simp +decide only [bE, Nat.reduceBeqDiff, BEq.rfl, Nat.reduceAdd, e2, e7, e8] at f2 f7 f8 f9 f10
 clear hσ hK K
 have m810 : Mod w8 w10 zq := m9.fresh m10 fun k o h => by have : k = w8.heap.size := h; omega
 have m610 := (m7.trans' m8).trans' m810
 have hput : Put w10 w8.heap.size (m.fs.tr x) := ⟨cy, RepT.mod (G := NB w7.heap.size w8.heap.size) m810 (fun k hk => ⟨hk.2, fun _ h => h, hk.2⟩) _ hrep, r10, by omega⟩
 have hsh := (door_short L.D v s).1
 rw [hdoor] at hsh
 have htold : ToldOk P M (zmt fl v) v (SC.flds sc) := sp_Told B F hN S hW hT (by rw [SC.flds_len]; exact Nat.lt_trans (zre L.scb).2.2.2 (by decide)) (zyi B F hN S hW hT _ L.okf L.okl)
 refine zbr fun K hK => W_tell B F hI S hT hG f2 f7 f8 f9 f10 (zk m610 rT6) (RepA.stay m610 _ ht6) (zk m610 r6) (hf6.stay m610) hput hsh htold p3 fun σ7 w11 h3 m11 => hK _ _ ?_
 exact zbr fun K2 hK2 => zbm ⟨.inr rfl, _, rfl, h3, (m06.trans' m610).trans' m11⟩
end
section
open Go Go.RowKit Go.ChangeShapes Go.WideShapes
theorem treeArg_of {P : Program} {N : Nums} {H : Type} {enc : TypeId × Value → H} {B : DataW H → Nat} {BA : List (DataW H) → Nat} {W : World} {v : Value} {d : DataW H} {p : List MemPlace} {base : Nat} (T : TreeO P N) (Bs : Base P N) (hT : zge P N N.zc N.zab N.zn N.zj) (hB : BulkF B BA)
  (hok : Value.okWide P W .any base N.zc v) (h : DataW.Trod enc P W 0 (fun _ => true) true N.zc v d p) : ∃ t ct, v = .agg ct.toArray ∧ RepA W t ct ∧ wfT t ∧ szT t ≤ B d := by
 obtain ⟨fs, hu, _⟩ := T.tree
 unfold Value.okWide at hok
 rw [hu] at hok
 obtain ⟨cs, rfl, _⟩ := hok
 obtain ⟨fuel, hf⟩ := h
 obtain ⟨t, h1, h2, h3⟩ := tree_open T Bs hT hB fuel cs.toList (d, p) hf
 exact ⟨t, cs.toList, by simp, h1, h2, h3⟩
end
end Go.Kf
