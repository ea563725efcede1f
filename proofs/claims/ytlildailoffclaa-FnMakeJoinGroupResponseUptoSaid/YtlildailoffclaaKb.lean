/- A part of the calculus by which the claim's proof goes: over any program and any numbering of its functions; no condition beyond those that each theorem names. -/
import Derived.MapKept
import Derived.Deep.AppendSrc
import Derived.Great.BuildSlice
import Derived.Laws.IdiomStrings
import Derived.Laws.MakeOwn
import Derived.Maps.RangeRun
import Derived.Shelf.GgSortFunc.Whole
import Derived.Shelf.GgSortFunc.Tiny
import Derived.Sort.LotA
import Derived.ProofKit
import Derived.OpenShut
import Derived.ChangeSlices
import Derived.WideShapes
import Derived.Carry
import Derived.Test.YtlildailoffclaaKa
set_option linter.unusedSimpArgs false
set_option linter.unusedVariables false
namespace Go.Kf
open Go Go.RowKit
section
variable {P : Program} {N : Nums}
def El.ty (N : Nums) : El → TypeId
 | .pr k => k.t N
 | .txt k => k.t N
 | .row T _ _ _ => T
def El.zero : El → List Value
 | .pr k => k.zero.cells.toList
 | .txt k => [k.zero]
 | .row _ _ _ fs => fs.zero
def ElOk (P : Program) (N : Nums) (fx : Bool) (el : El) : Prop :=
 ∀ {loc : List Nat} {N' : Nat} {Q : Exit → Env → World → Prop} {σ : Env} {w : World} {lo hi r : Nat} {s : RS} {e : Value} {u fl : Bool} {ver : Int} {ia ii b j len c n k : Nat} {st : TypeId} {a1 a2 : Nat} {z2 : Value},
  zhy loc N' → Cx σ fx u fl ver r → Inv N w lo hi r s e → Pl N w lo hi r b (j * el.sz) el.sz → σ ia = .slice (some ⟨b, 0, none⟩) len c → σ ii = .int .i32 j → j < len → TI P st (.slice (el.ty N)) a1 a2 z2 →
  w.rangeAt b (j * el.sz) el.zero → 7 ≤ n → ia < n → ii < n → FQ N lo hi r n b (j * el.sz) el.sz e σ w (el.rd ver fl s) Q → WL P loc N' (el.gen N fx ia ii st n k) Q σ w
theorem stored {Q : Exit → Env → World → Prop} {σ : Env} {w : World} {lo hi r n b o sz : Nat} {v : Value} {x : Val} {e : Value} {s' : RS} {σ0 : Env} {w0 : World} {ini : List Value}
  (hl : v.cells.toList.length = sz) (hpl : Pl N w0 lo hi r b o sz) (hini : w0.rangeAt b o ini) (hil : ini.length = sz)
  (hA : Ag n σ0 σ) (hm : Mod w0 w (blk r)) (hr : RdAt w lo hi r s') (hrep : Rep w (GG lo hi w0.heap.size w.heap.size) x v.cells.toList)
  (hQ : FQ N lo hi r n b o sz e σ0 w0 (some (x, s')) Q) : Q .normal σ (w.setCells b o v.cells.toList) := by
 have hpl' := hpl.mod hm
 have ms : Mod w (w.setCells b o v.cells.toList) (rng b o sz) := Mod.setCells _ _ _ fun _ i h2 h3 => ⟨rfl, h2, by omega⟩
 have hini' : w.rangeAt b o ini := hm.rangeAt hpl.lt (fun i _ _ e => hpl.br e) hini
 have hrg := zar v.cells.toList o w ini hini' (by omega)
 rw [List.drop_of_length_le (by omega), List.append_nil] at hrg
 have hbs := hpl.bs
 have hblt := hpl.lt
 have hbr := hpl.br
 have hsz := hm.size
 refine hQ σ _ _ hA (hr.mod ms (fun o e => hpl.br e.1.symm) (fun k o h2 h3 e => by have : k = b := e.1; omega)) (hm.trans ms fun k o _ h => h) hrg hl ?_
 have hsz2 : (w.setCells b o v.cells.toList).heap.size = w.heap.size := by
  have hg : ∀ (cs : List Value) (o : Nat) (w : World), (w.setCells b o cs).heap.size = w.heap.size := by
   intro cs
   induction cs with
   | nil => intro o w; rfl
   | cons c cs ih => intro o w; show ((w.setCell ⟨b, o, none⟩ c).setCells b (o + 1) cs).heap.size = _; rw [ih]; simp [World.setCell]
  exact hg _ _ _
 refine Rep.mod ms (fun k hk => ?_) x hrep
 have hhi := hr.hi_le
 rcases hk with ⟨h2, h3⟩ | ⟨h2, h3⟩
 ·exact ⟨by omega, fun o e => by have : k = b := e.1; omega, .inl ⟨h2, h3⟩⟩
 ·exact ⟨by omega, fun o e => by have : k = b := e.1; omega, .inr ⟨h2, by omega⟩⟩
end
section
variable {P : Program} {N : Nums} {loc : List Nat} {N' : Nat} {Q : Exit → Env → World → Prop} {σ : Env} {w : World}
end
section
variable {P : Program} {N : Nums}
structure ArrT (P : Program) (N : Nums) (st : TypeId) (el : El) : Prop where
 st : TI P st (.slice (el.ty N)) 1 24 (.slice none 0 0)
 ty : ∃ d by' z, TI P (el.ty N) d el.sz by' z ∧ z.cells.toList = el.zero ∧ by' ≤ 131072
 sz : 0 < el.sz
 zl : el.zero.length = el.sz
 len : N.zel ≠ 0
 ok : N.zjn ≠ 0
 cpl : N.zfh ≠ 0
section
variable {loc : List Nat} {N' : Nat} {Q : Exit → Env → World → Prop} {σ : Env} {w : World}
structure Rnd (N : Nums) (el : El) (ver : Int) (fl : Bool) (lo hi r n is b1 L cap p : Nat) (s1 : RS) (σ0 : Env) (w1 : World) (e : Value) (j : Nat) (σ : Env) (w : World) : Prop where
 ag : Ag n σ0 σ
 arr : σ (n + 1) = .slice (some ⟨b1, 0, none⟩) L cap
 len : σ (n + 2) = .int .i32 L
 i : σ p = .int .i32 j
 le : j ≤ L
 inv : ∃ s, Inv N w lo hi r s e ∧ ∃ vs css, rdN (el.rd ver fl) L s1 = (match rdN (el.rd ver fl) (L - j) s with | none => none | some (l, s) => some (vs ++ l, s)) ∧ vs.length = j ∧
  (∀ c ∈ css, c.length = el.sz) ∧ RepL w (GG lo hi (b1 + 1) w.heap.size) vs css ∧ w.rangeAt b1 0 (css.flatten ++ zs el.zero (L - j))
 pl : Pl N w lo hi r b1 0 (L * el.sz)
 mod : Mod w1 w (blk r)
theorem zxo {css : List (List Value)} {n : Nat} (h : ∀ c ∈ css, c.length = n) : css.flatten.length = css.length * n := by
 induction css with
 | nil => simp
 | cons c css ih => simp [h c (by simp), ih (fun c hc => h c (by simp [hc])), Nat.succ_mul, Nat.add_comm]
theorem round {fx : Bool} {el : El} {st : TypeId} (hA : ArrT P N st el) (hel : ElOk P N fx el) (hlo : zhy loc N') {u fl : Bool} {ver : Int} {lo hi r n is b1 L cap p k j : Nat} {s1 : RS} {σ0 : Env} {w1 : World} {e : Value}
  (hx : Cx σ0 fx u fl ver r) (hn : 7 ≤ n) (hp : n + 2 < p) (hb1 : w1.heap.size ≤ b1) (hrw : r < w1.heap.size) (hR : Rnd N el ver fl lo hi r n is b1 L cap p s1 σ0 w1 e j σ w) (hj : j < L)
  (hret : rdN (el.rd ver fl) L s1 = none → ∀ σ' w', σ' 3 = e → Mod w1 w' (blk r) → Q .ret σ' w') :
  W P loc N' (seqs (el.gen N fx (n + 1) p st (p + 2) k)) (fun ex σ' w' => match ex with
   | .normal => σ' p = .int .i32 j ∧ Rnd N el ver fl lo hi r n is b1 L cap p s1 σ0 w1 e (j + 1) (upd σ' p (.int .i32 ((j + 1 : Nat) : Int))) w'
   | .ret => Q .ret σ' w'
   | _ => False) σ w := by
 obtain ⟨s, hinv, vs, css, hrd, hvl, hcl, hrep, hrg⟩ := hR.inv
 have hfl := zxo hcl
 have hcss := hrep.length
 have hjs : css.flatten.length = j * el.sz := by rw [hfl, hcss, hvl]
 have hLj : L - j = (L - (j + 1)) + 1 := by omega
 rw [hLj, zs_succ, ← List.append_assoc] at hrg
 have hrg1 := zx.1 hrg
 have hrg2 := zx.1 hrg1.1
 rw [Nat.zero_add, hjs] at hrg2
 have hmul : j * el.sz + el.sz ≤ L * el.sz := by
  have : (j + 1) * el.sz ≤ L * el.sz := Nat.mul_le_mul_right _ (by omega)
  rwa [Nat.succ_mul] at this
 have hne : el.gen N fx (n + 1) p st (p + 2) k ≠ [] := by cases el <;> simp [El.gen]
 have hplj : Pl N w lo hi r b1 (j * el.sz) el.sz := hR.pl.sub (Nat.zero_le _) (by omega)
 refine zif hne (hel (s := s) (e := e) (fl := fl) (ver := ver) (b := b1) (j := j) (len := L) (c := cap) hlo (hx.ag hR.ag hn) hinv hplj hR.arr hR.i hj hA.st hrg2.2 (by omega) (by omega) (by omega) ?_)
 have hbr := hR.pl.br
 have hbs := hR.pl.bs
 have hblt := hR.pl.lt
 have toR : ∀ {w2 : World}, Mod w w2 (orM (blk r) (rng b1 (j * el.sz) el.sz)) → Mod w1 w2 (blk r) := fun hm => hR.mod.trans hm fun k i hk h => h.elim id fun h => h.elim id fun h => by have : k = b1 := h.1; omega
 rw [hLj] at hrd
 cases hv : el.rd ver fl s with
 | none =>
  simp only [rdN, hv] at hrd
  exact fun σ' w' h3 hm => hret hrd σ' w' h3 (toR hm)
 | some x =>
  obtain ⟨v, s2⟩ := x
  simp only [rdN, hv] at hrd
  intro σ2 w2 cs ha2 hr2 hm2 hrg3 hcl3 hrep3
  have hs2 := hm2.size
  have ha' : ∀ i, i < p + 2 → σ2 i = σ i := fun i hi => ha2 i hi
  refine ⟨by rw [ha' p (by omega)]; exact hR.i, ?_⟩
  refine ⟨(hR.ag.trans ha2 (by omega)).upd (by omega), by rw [zq (by omega), ha' _ (by omega)]; exact hR.arr, by rw [zq (by omega), ha' _ (by omega)]; exact hR.len, upd_same _ _ _, by omega, ?_, hR.pl.mod hm2, toR hm2⟩
  have hap := hinv.rd.apart
  have hhi := hinv.rd.hi_le
  have hrlt := hinv.rd.lt
  refine ⟨s2, hinv.mod hR.pl.bg hm2 hr2, vs ++ [v], css ++ [cs], ?_, by simp [hvl], ?_, ?_, ?_⟩
  ·rw [hrd]
   cases rdN (el.rd ver fl) (L - (j + 1)) s2 with
   | none => rfl
   | some x => simp
  ·intro c hc
   rcases List.mem_append.1 hc with hc | hc
   ·exact hcl c hc
   ·simp at hc; subst hc; exact hcl3
  ·refine RepL.append (RepL.mod hm2 (fun k hk => ?_) vs hrep) ?_
   ·have hnot : k ≠ b1 ∧ k ≠ r ∧ k < w.heap.size := by
     have hmsz := hR.mod.size
     rcases hk with ⟨h2, h3⟩ | ⟨h2, h3⟩
     ·omega
     ·omega
    refine ⟨hnot.2.2, fun o h => h.elim hnot.2.1 fun h => hnot.1 h.1, ?_⟩
    rcases hk with hk | ⟨h2, h3⟩
    ·exact .inl hk
    ·exact .inr ⟨h2, by omega⟩
   ·simp only [RepL]
    exact ⟨cs, [], rfl, Rep.mono (fun k hk => hk.imp id fun h => ⟨by omega, h.2⟩) v hrep3, rfl⟩
  ·simp only [List.flatten_append, List.flatten_cons, List.flatten_nil, List.append_nil]
   rw [zx, zx]
   have hz := hA.zl
   refine ⟨⟨hm2.rangeAt hblt (fun i h1 h2 h => h.elim hbr fun h => by have := h.2.1; omega) (by rw [hjs] at *; exact hrg2.1), by rw [Nat.zero_add, hjs]; exact hrg3⟩, ?_⟩
   have h5 := hrg1.2
   simp only [List.length_append, hjs, Nat.zero_add, hcl3] at h5 ⊢
   rw [hz] at h5
   exact hm2.rangeAt hblt (fun i h1 h2 h => h.elim hbr fun h => by have := h.2.2; omega) h5
end
end
def cDf (N : Nums) (Tt : TypeId) (idx : Nat) (k : PK) (d : Value) : C :=
 .ops [⟨some 0, .move (V 0), 0, none, []⟩, ⟨some 1, .nilCheck (T 0), 0, none, []⟩, ⟨some 2, .fieldAddr Tt (T 1) idx, 0, none, []⟩, ⟨none, .store (k.t N) (T 2) (.const d), 0, none, []⟩]
def cDfRow (Tt : TypeId) (idx q : Nat) : C :=
 .seq (.ops [⟨some 0, .move (V 0), 0, none, []⟩, ⟨some 1, .nilCheck (T 0), 0, none, []⟩, ⟨some 2, .fieldAddr Tt (T 1) idx, 0, none, []⟩, ⟨some (q + 100), .assign (T 2), 0, none, []⟩]) (.ops [⟨some 0, .move (V q), 0, none, []⟩])
def Fds.dflQ (N : Nums) (Tt : TypeId) : Fds → Nat → Nat → List C
 | .cons _ (.pr k (some d)) r, q, idx => cDf N Tt idx k d :: r.dflQ N Tt q (idx + 1)
 | .cons _ (.row ..) r, q, idx => cDfRow Tt idx q :: r.dflQ N Tt (q + 1) (idx + 1)
 | .cons _ _ r, q, idx => r.dflQ N Tt q (idx + 1)
 | _, _, _ => []
def Fds.dfl (N : Nums) (Tt : TypeId) (fs : Fds) (idx : Nat) : List C := fs.dflQ N Tt 1 idx
def Fds.plain (N : Nums) : Fds → Prop
 | .cons _ (.pr k (some d)) r => (k.isSg = true ∧ k.nt N) ∧ d.oneCell' = true ∧ r.plain N
 | .cons _ (.row _ _ _ fs) r => fs.zero = fs.ini ∧ r.plain N
 | .cons _ _ r => r.plain N
 | _ => True
theorem pk_sz {k : PK} (h : k.isSg = true) : k.sz = 1 := by cases k <;> first | rfl | cases h
theorem zis (k : PK) : k.zero.cells.toList.length = k.sz := by cases k <;> rfl
mutual
theorem Ty.zero_length : ∀ (t : Ty), t.zero.length = t.sz
 | .pr k _ => zis k
 | .txt _ => rfl
 | .arr .. => rfl
 | .row _ _ _ fs => Fds.zero_length fs
 | .tv _ => rfl
theorem Fds.zero_length : ∀ (fs : Fds), fs.zero.length = fs.sz
 | .nil => rfl
 | .tags => rfl
 | .cons _ t r => by
  simp only [Fds.zero, Fds.sz, List.length_append]
  rw [Ty.zero_length t, Fds.zero_length r]
end
section
variable {P : Program} {N : Nums}
theorem W_cDf (B : Base P N) {loc : List Nat} {N' : Nat} {Q : Exit → Env → World → Prop} {σ : Env} {w : World} {Tt : TypeId} {idx off b o : Nat} {k : PK} {d : Value} (hk : k.isSg = true ∧ k.nt N) (hd : d.oneCell' = true) (hT : HF P Tt idx off) (h0 : σ 0 = .pointer (some ⟨b, o, none⟩)) (ht : w.there b (o + off) 1)
  (hQ : Q .normal σ (w.setCell ⟨b, o + off, none⟩ d)) : W P loc N' (cDf N Tt idx k d) Q σ w := by
 obtain ⟨hk, hnt⟩ := hk
 unfold cDf
 obtain ⟨dd, by', hti⟩ := pk_ti B k hnt (fun t e => by rw [e] at hk; cases hk)
 rw [pk_sz hk] at hti
 refine zn fun τ => ?_
 have st := hti.run_store1 (w := w) (b := b) (o := o + off) (v := d) hd ht
 simp +decide (disch := omega) only [bK, bE, BEq.rfl, Nat.zero_add, h0]
 rw [zat rfl]
 simp +decide (disch := omega) only [bK, bE, BEq.rfl, hT.run, st, zjj, locs_envOf]
 exact hQ
theorem W_move {loc : List Nat} {N' : Nat} {Q : Exit → Env → World → Prop} {σ : Env} {w : World} {i : Nat} (h : Q .normal σ w) : W P loc N' (.ops [⟨some 0, .move (V i), 0, none, []⟩]) Q σ w := by
 refine zn fun τ => ?_
 simp +decide (disch := omega) only [bK, bE, zjj, locs_envOf]
 exact h
theorem W_cDfRow {loc : List Nat} {N' : Nat} {Q : Exit → Env → World → Prop} {σ : Env} {w : World} {Tt : TypeId} {idx off b o q : Nat} (hT : HF P Tt idx off) (h0 : σ 0 = .pointer (some ⟨b, o, none⟩))
  (hQ : Q .normal (upd σ q (.pointer (some ⟨b, o + off, none⟩))) w) : W P loc N' (cDfRow Tt idx q) Q σ w := by
 unfold cDfRow
 refine zf fun K hK => zn fun τ => ?_
 simp +decide (disch := omega) only [bK, bE, BEq.rfl, Nat.zero_add, h0]
 rw [zat rfl]
 simp +decide (disch := omega) only [bK, bE, BEq.rfl, hT.run, zci, zjj, locs_envOf]
 exact hK _ _ (W_move hQ)
def Fds.pre : Fds → List Value → Prop
 | .cons _ (.pr k (some _)) r, cs => ∃ u rest, cs = u ++ rest ∧ u.length = k.sz ∧ r.pre rest
 | .cons _ t r, cs => ∃ rest, cs = t.ini ++ rest ∧ r.pre rest
 | .nil, cs => cs = []
 | .tags, cs => cs = [.map none]
theorem zkn {N : Nums} : ∀ (fs : Fds), fs.plain N → fs.pre fs.zero
 | .nil, _ => rfl
 | .tags, _ => rfl
 | .cons g t r, h => by
  cases t with
  | pr k d =>
   cases d with
   | none => exact ⟨r.zero, rfl, zkn r h⟩
   | some d => exact ⟨_, r.zero, rfl, zis k, zkn r h.2.2⟩
  | txt k => exact ⟨r.zero, rfl, zkn r h⟩
  | arr st nul e => exact ⟨r.zero, rfl, zkn r h⟩
  | tv k => exact ⟨r.zero, rfl, zkn r h⟩
  | row T' pT f fs => exact ⟨r.zero, by simp only [Fds.zero, Ty.zero, Ty.ini, h.1], zkn r h.2⟩
theorem WL_dfl (B : Base P N) {loc : List Nat} {N' : Nat} {Q : Exit → Env → World → Prop} {Tt : TypeId} {b o : Nat} : ∀ (fs : Fds) (q : Nat) (σ : Env) (idx off : Nat) (w : World) (cs : List Value), q ≠ 0 → σ 0 = .pointer (some ⟨b, o, none⟩) → fs.plain N → fs.hf P Tt idx off → w.there b (o + off) fs.sz → b < w.heap.size → w.rangeAt b (o + off) cs → fs.pre cs →
  (∀ σ' w', Mod w w' (rng b (o + off) fs.sz) → w'.rangeAt b (o + off) fs.ini → Q .normal σ' w') → WL P loc N' (fs.dflQ N Tt q idx) Q σ w
 | .nil, _, σ, _, _, w, cs, _, _, _, _, _, _, hz, hp, hQ => by
  simp only [Fds.pre] at hp
  subst hp
  exact hQ σ w (.refl _ _) hz
 | .tags, _, σ, _, _, w, cs, _, _, _, _, _, _, hz, hp, hQ => by
  simp only [Fds.pre] at hp
  subst hp
  exact hQ σ w (.refl _ _) hz
 | .cons g t r, q, σ, idx, off, w, cs, hq, h0, hp, hf, ht, hb, hz, hpre, hQ => by
  obtain ⟨hf1, hf2⟩ := hf
  have same : ∀ {q1 : Nat} {σ1 : Env}, q1 ≠ 0 → σ1 0 = .pointer (some ⟨b, o, none⟩) → t.ini.length = t.sz → r.plain N → (∃ rest, cs = t.ini ++ rest ∧ r.pre rest) → WL P loc N' (r.dflQ N Tt q1 (idx + 1)) Q σ1 w := by
   rintro q1 σ1 hq1 h01 e1 hpr ⟨rest, rfl, hrest⟩
   have hz2 := zx.1 hz
   rw [e1, Nat.add_assoc] at hz2
   refine WL_dfl B r q1 σ1 (idx + 1) (off + t.sz) w rest hq1 h01 hpr hf2 (fun j hj => ?_) hb hz2.2 hrest fun σ' w' hm hr => ?_
   ·have := ht (t.sz + j) (by simp only [Fds.sz]; omega)
    rwa [show o + off + (t.sz + j) = o + (off + t.sz) + j by omega] at this
   ·refine hQ σ' w' (hm.mono fun k i _ h => ⟨h.1, by have := h.2.1; omega, by have := h.2.2; simp only [Fds.sz]; omega⟩) ?_
    simp only [Fds.ini]
    rw [zx]
    refine ⟨hm.rangeAt hb (fun i h1 h2 h => by have := h.2.1; rw [e1] at h2; omega) hz2.1, ?_⟩
    rw [e1, Nat.add_assoc]; exact hr
  cases t with
  | pr k d =>
   cases d with
   | none => exact same hq h0 (zis k) hp hpre
   | some d =>
    obtain ⟨h1, h2, h3⟩ := hp
    obtain ⟨u, rest, rfl, hu, hrest⟩ := hpre
    have hk1 := pk_sz h1.1
    have hz2 := zx.1 hz
    rw [hu, Nat.add_assoc] at hz2
    refine zau fun K hK => W_cDf B h1 h2 hf1 h0 (fun j hj => by have := ht j (by simp only [Fds.sz, Ty.sz]; omega); exact this) (hK _ _ ?_)
    have m1 : Mod w (w.setCell ⟨b, o + off, none⟩ d) (rng b (o + off) 1) := Mod.setCell fun _ => ⟨rfl, Nat.le_refl _, by omega⟩
    refine WL_dfl B r q σ (idx + 1) (off + (Ty.pr k (some d)).sz) _ rest hq h0 h3 hf2 (fun j hj => ?_) (by simpa [World.setCell] using hb) (m1.rangeAt hb (fun i h1 h2 h => by have := h.2.2; simp only [Ty.sz] at h1; omega) hz2.2) hrest fun σ' w' hm hr => ?_
    ·have := m1.there hb ht (k.sz + j) (by simp only [Fds.sz, Ty.sz]; omega)
     simp only [Ty.sz]
     rwa [show o + off + (k.sz + j) = o + (off + k.sz) + j by omega] at this
    ·simp only [Ty.sz] at hm hr
     refine hQ σ' w' (m1.trans hm fun k' i _ h => h.elim (fun h => ⟨h.1, h.2.1, by have := h.2.2; simp only [Fds.sz, Ty.sz]; omega⟩) (fun h => ⟨h.1, by have := h.2.1; omega, by have := h.2.2; simp only [Fds.sz, Ty.sz]; omega⟩)) ?_
     simp only [Fds.ini, Ty.ini, Option.getD_some]
     rw [zcn h2, zx]
     have hz1 : w.cell? ⟨b, o + off, none⟩ = some (u[0]'(by omega)) := by
      have := hz2.1 0 (u[0]'(by omega)) (by rw [List.getElem?_eq_getElem])
      simpa using this
     refine ⟨?_, ?_⟩
     ·have : (w.setCell ⟨b, o + off, none⟩ d).rangeAt b (o + off) [d] := zha.2 (World.cell?_setCell_same _ _ _ hz1)
      exact hm.rangeAt (by simpa [World.setCell] using hb) (fun i h1 h2 h => by have := h.2.1; simp at h2; omega) this
     ·rw [hk1] at hr
      simpa [Nat.add_assoc] using hr
  | txt k => exact same hq h0 rfl hp hpre
  | arr st nul e => exact same hq h0 rfl hp hpre
  | tv k => exact same hq h0 rfl hp hpre
  | row T' pT f fs =>
   refine zau fun K hK => W_cDfRow hf1 h0 (hK _ _ ?_)
   exact same (by omega) (by rw [zq (fun e => hq e.symm)]; exact h0) (by simp only [Ty.ini, Ty.sz]; rw [← hp.1]; exact Fds.zero_length fs) hp.2 hpre
end
section
variable {P : Program} {N : Nums}
end
section
variable {P : Program} {N : Nums}
theorem run_eqlMap {t a b : TypeId} (h : P.underlying t = some (.map a b)) {x y : Operand} {m : Option Nat} {w : World} :
  (do eqGuard .eql t x y (.map m) (.map none); binOp .eql t (.map m) (.map none) : Sem Value).run P w = .ok (.bool m.isNone) w := by
 have e : (Op.equal t (.map m) (.map none)).run P w = .ok m.isNone w := by
  unfold Op.equal Op.maxDepth
  rw [show (10000 : Nat) = 9999 + 1 from rfl]
  unfold Op.equalIn
  rw [Sem.run_bind, run_underlying h, Result.andThen_ok]
  cases m <;> rfl
 have e1 : (eqGuard .eql t x y (.map m) (.map none)).run P w = .ok () w := rfl
 rw [Sem.run_bind, e1, Result.andThen_ok]
 show ((do pure (.bool (← Op.equal t (.map m) (.map none))) : Sem Value)).run P w = _
 rw [Sem.run_bind, e, Result.andThen_ok]
 rfl
theorem Mod.setMap {w : World} {r : Nat} {es es' : Array MapEntry} {ck ck' : Nat} (h : w.heap[r]? = some (.map es ck)) : Mod w { w with heap := w.heap.setIfInBounds r (.map es' ck') } (blk r) := by
 obtain ⟨h1, h2⟩ := MapKept.heap_set (o' := .map es' ck') h
 refine ⟨rfl, rfl, rfl, by simp, fun k hk hn => h2 k fun e => hn 0 e, fun k o hk hn => ?_, fun k o hk => ?_, fun k o hk => ?_, fun k hk => ?_⟩
 ·exact World.cell?_of_block (h2 k fun e => hn e)
 ·by_cases e : k = r
  ·subst e
   simp only [World.cell?, h1, h]
  ·rw [World.cell?_of_block (h2 k e)]
 ·by_cases e : k = r
  ·subst e
   simp only [World.frozen?, h1, h]
  ·rw [World.frozen?_of_block (h2 k e)]
 ·by_cases e : k = r
  ·subst e
   simp only [World.shape?, h1, h]
  ·simp only [World.shape?, h2 k e]
def tagV (w : World) (G : Nat → Prop) (v : Value) (l : List UInt8) : Prop := (l = [] ∧ ∃ ad c, v = .slice ad 0 c) ∨ OctG w G v (some l)
theorem find_tag {w : World} {G : Nat → Prop} {k : Nat} {v : Value} {vl : List UInt8} (hv : tagV w G v vl) : ∀ (l : List (Nat × List UInt8)) (es : List MapEntry) (i0 : Nat), zbj w G l es → (l.map Prod.fst).Nodup →
  (∃ i val x, Instr.findNow (.int .u32) (.int .u32 k) es i0 = some (some (i0 + i, val)) ∧ es[i]? = some x ∧ x.key = .int .u32 k ∧ (l.map Prod.fst).contains k = true ∧
   zbj w G (l.map fun x => if x.1 = k then (k, vl) else x) (es.modify i fun e => { e with key := .int .u32 k, val := v })) ∨
  (Instr.findNow (.int .u32) (.int .u32 k) es i0 = some none ∧ (l.map Prod.fst).contains k = false)
 | [], es, i0, he, _ => by
  simp only [zbj] at he
  subst he
  exact .inr ⟨rfl, rfl⟩
 | (k', l') :: l, es, i0, he, hnd => by
  obtain ⟨v', b, rest, rfl, h2, h3⟩ := he
  simp only [List.map_cons, List.nodup_cons] at hnd
  by_cases hk : k' = k
  ·subst hk
   left
   refine ⟨0, v', ⟨.int .u32 k', v', b⟩, by simp [Instr.findNow, Instr.sameNow], rfl, rfl, by simp, ?_⟩
   have hrest : (l.map fun x => if x.1 = k' then (k', vl) else x) = l := by
    conv => rhs; rw [← List.map_id l]
    refine List.map_congr_left fun x hx => ?_
    have : x.1 ≠ k' := fun e => hnd.1 (List.mem_map.2 ⟨x, hx, e⟩)
    simp [this]
   simp only [List.map_cons, if_true, hrest, List.modify_zero_cons, zbj]
   exact ⟨v, b, rest, rfl, hv, h3⟩
  ·have hk2 : ((k : Int) == (k' : Int)) = false := by
    have : (k : Int) ≠ (k' : Int) := by omega
    simpa using this
   rcases find_tag hv l rest (i0 + 1) h3 hnd.2 with ⟨i, val, x, g1, g2, g3, g4, g5⟩ | ⟨g1, g2⟩
   ·left
    refine ⟨i + 1, val, x, ?_, by simpa using g2, g3, ?_, ?_⟩
    ·simp only [Instr.findNow, Instr.sameNow, if_true, hk2, g1]
     congr 3; omega
    ·simp only [List.map_cons, List.contains_cons, g4, Bool.or_true]
    ·simp only [List.map_cons, if_neg hk, List.modify_succ_cons, zbj]
     exact ⟨v', b, _, rfl, h2, g5⟩
   ·right
    refine ⟨by simp only [Instr.findNow, Instr.sameNow, if_true, hk2, g1], ?_⟩
    have : (k == k') = false := by simpa using fun e => hk e.symm
    simp only [List.map_cons, List.contains_cons, g2, this, Bool.or_false]
theorem zbj.append {w : World} {G : Nat → Prop} {k b : Nat} {v : Value} {vl : List UInt8} (hv : tagV w G v vl) : ∀ {l : List (Nat × List UInt8)} {es : List MapEntry}, zbj w G l es → zbj w G (l ++ [(k, vl)]) (es ++ [⟨.int .u32 k, v, b⟩])
 | [], es, he => by
  simp only [zbj] at he
  subst he
  exact ⟨v, b, [], rfl, hv, rfl⟩
 | (k', l') :: l, es, ⟨v', b', rest, h1, h2, h3⟩ => by
  subst h1
  exact ⟨v', b', _, rfl, h2, zbj.append hv h3⟩
theorem tput_keys {l : List (Nat × List UInt8)} {k : Nat} {v : List UInt8} (hn : (l.map Prod.fst).Nodup) : ((tput l k v).map Prod.fst).Nodup ∧ ∀ x ∈ tput l k v, x.1 = k ∨ x.1 ∈ l.map Prod.fst := by
 unfold tput
 split
 ·rename_i hc
  have e : (l.map fun x => if x.1 = k then (k, v) else x).map Prod.fst = l.map Prod.fst := by
   rw [List.map_map]
   refine List.map_congr_left fun x _ => ?_
   simp only [Function.comp]
   split
   ·rename_i h; exact h.symm
   ·rfl
  rw [e]
  refine ⟨hn, fun x hx => ?_⟩
  have : x.1 ∈ (l.map fun x => if x.1 = k then (k, v) else x).map Prod.fst := List.mem_map.2 ⟨x, hx, rfl⟩
  rw [e] at this
  exact .inr this
 ·rename_i hc
  refine ⟨?_, fun x hx => ?_⟩
  ·rw [List.map_append, List.nodup_append]
   refine ⟨hn, by simp, fun a ha b hb => ?_⟩
   simp at hb
   subst hb
   intro e
   subst e
   exact hc (by simpa using ha)
  ·rcases List.mem_append.1 hx with hx | hx
   ·exact .inr (List.mem_map.2 ⟨x, hx, rfl⟩)
   ·simp at hx; subst hx; exact .inl rfl
theorem run_setTag (B : Base P N) (hT : N.zcq ≠ 0) {w : World} {G : Nat → Prop} {mr : Nat} {l : List (Nat × List UInt8)} {es : Array MapEntry} {ck k : Nat} {v : Value} {vl : List UInt8} (hv : tagV w G v vl) (hk : k < 4294967296)
  (hb : w.heap[mr]? = some (.map es ck)) (h4 : ∀ e ∈ es.toList, e.born < ck) (h5 : (es.toList.map MapEntry.born).Nodup) (h6 : zbj w G l es.toList) (h7 : (l.map Prod.fst).Nodup) (h8 : ∀ x ∈ l, x.1 < 4294967296) :
  ∃ w' es' ck', (Instr.mapUpdate N.zz (.map (some mr)) (.int .u32 k) v).run P w = .ok () w' ∧ Mod w w' (blk mr) ∧ w'.heap.size = w.heap.size ∧ w'.heap[mr]? = some (.map es' ck') ∧ (∀ e ∈ es'.toList, e.born < ck') ∧ (es'.toList.map MapEntry.born).Nodup ∧
   zbj w G (tput l k vl) es'.toList ∧ ((tput l k vl).map Prod.fst).Nodup ∧ ∀ x ∈ tput l k vl, x.1 < 4294967296 := by
 obtain ⟨_, _, hmap⟩ := B.tags hT
 have hkeys := tput_keys (k := k) (v := vl) h7
 have hbound : ∀ x ∈ tput l k vl, x.1 < 4294967296 := fun x hx => by
  rcases hkeys.2 x hx with h | h
  ·omega
  ·obtain ⟨y, hy, e⟩ := List.mem_map.1 h
   rw [← e]; exact h8 y hy
 have hck := MapKept.run_checkKey (P := P) (w := w) (k := .int .u32 k) B.uint32.und rfl false 9999
 have hgo := MapKept.run_getObj_map (P := P) hb
 rcases find_tag (k := k) hv l es.toList 0 h6 h7 with ⟨i, val, x, g1, g2, g3, g4, g5⟩ | ⟨g1, g2⟩
 ·have hfk := MapKept.run_findKey (P := P) (w := w) (k := .int .u32 k) B.uint32.und g1
  have hks := MapKept.run_keyThatStays (P := P) (w := w) (d := .int .u32) (k := .int .u32 k) rfl
  have hi : es[i]? = some x := by simpa using g2
  have hold : (((es[i]?).map (·.key)).getD (.int .u32 k)) = .int .u32 k := by rw [hi]; simpa using g3
  have hso := MapKept.run_setObj_map (P := P) (.map (es.modify i fun e => { e with key := .int .u32 k, val := v }) ck) hb
  refine ⟨_, es.modify i (fun e => { e with key := .int .u32 k, val := v }), ck, ?_, Mod.setMap hb, by simp, (MapKept.heap_set hb).1, ?_, ?_, ?_, hkeys.1, hbound⟩
  ·simp only [Instr.mapUpdate, Sem.run_bind, hmap.run_und, Result.andThen_ok, hgo, hck, hfk, Nat.zero_add, hold, hks, hso]
  ·intro e he
   rw [Array.toList_modify] at he
   obtain ⟨j, hj⟩ := List.getElem?_of_mem he
   rw [List.getElem?_modify] at hj
   cases hx : es.toList[j]? with
   | none => rw [hx] at hj; simp at hj
   | some y =>
    rw [hx] at hj
    have hy := h4 y (List.mem_of_getElem? hx)
    simp at hj
    split at hj <;> (subst hj; exact hy)
  ·have : (es.modify i fun e => { e with key := .int .u32 k, val := v }).toList.map MapEntry.born = es.toList.map MapEntry.born := by
    rw [Array.toList_modify]
    apply List.ext_getElem?
    intro j
    rw [List.getElem?_map, List.getElem?_modify, List.getElem?_map]
    cases es.toList[j]? with
    | none => rfl
    | some y => simp; split <;> rfl
   rw [this]; exact h5
  ·unfold tput
   rw [if_pos g4, Array.toList_modify]
   exact g5
 ·have hfk := MapKept.run_findKey (P := P) (w := w) (k := .int .u32 k) B.uint32.und g1
  have hso := MapKept.run_setObj_map (P := P) (.map (es.push ⟨.int .u32 k, v, ck⟩) (ck + 1)) hb
  refine ⟨_, es.push ⟨.int .u32 k, v, ck⟩, ck + 1, ?_, Mod.setMap hb, by simp, (MapKept.heap_set hb).1, ?_, ?_, ?_, hkeys.1, hbound⟩
  ·simp only [Instr.mapUpdate, Sem.run_bind, hmap.run_und, Result.andThen_ok, hgo, hck, hfk, hso]
  ·intro e he
   simp at he
   rcases he with he | he
   ·have := h4 e (by simpa using he); omega
   ·subst he; simp
  ·simp only [Array.toList_push, List.map_append, List.map_cons, List.map_nil]
   rw [List.nodup_append]
   refine ⟨h5, by simp, fun a ha b hb' => ?_⟩
   simp at hb'
   subst hb'
   obtain ⟨y, hy, e⟩ := List.mem_map.1 ha
   have := h4 y hy
   omega
  ·unfold tput
   rw [if_neg (by rw [g2]; simp), Array.toList_push]
   exact zbj.append hv h6
end
section
variable {P : Program} {N : Nums}
theorem tagV.mod {w w' : World} {M : Nat → Nat → Prop} {G G' : Nat → Prop} (h : Mod w w' M) (hG : ∀ k, G k → k < w.heap.size ∧ (∀ o, ¬ M k o) ∧ G' k) {v : Value} {l : List UInt8} (hb : tagV w G v l) : tagV w' G' v l :=
 hb.imp (fun x => ⟨x.1, x.2⟩) fun x => x.mod h hG
def zrj (w : World) (G : Nat → Prop) (c : Nat) (v : Value) (l : List (Nat × List UInt8)) : Prop :=
 (v = .map none ∧ l = []) ∨ ∃ m es ck, v = .map (some m) ∧ c ≤ m ∧ m < w.heap.size ∧ w.heap[m]? = some (.map es ck) ∧ (∀ e ∈ es.toList, e.born < ck) ∧ (es.toList.map MapEntry.born).Nodup ∧ zbj w G l es.toList ∧ (l.map Prod.fst).Nodup ∧ ∀ x ∈ l, x.1 < 4294967296
theorem call_SetO (B : Base P N) (F : Fns P N) (hN : N.zdn ≠ 0) (hT : N.zcq ≠ 0) {w : World} {G : Nat → Prop} {b q c k : Nat} {m v : Value} {l : List (Nat × List UInt8)} {vl : List UInt8}
  (hc : w.cell? ⟨b, q, none⟩ = some m) (ht : w.there b q 1) (htg : zrj w G c m l) (hbc : b < c) (hcw : c ≤ w.heap.size) (hG : ∀ i, G i → i < c ∧ i ≠ b) (hv : tagV w G v vl) (hk : k < 4294967296) :
  Call P N.zdn #[.pointer (some ⟨b, q, none⟩), .int .u32 k, v] w fun _ w' => ∃ m', w'.cell? ⟨b, q, none⟩ = some m' ∧ m'.oneCell' = true ∧ zrj w' G c m' (tput l k vl) ∧ Mod w w' fun i o => (i = b ∧ o = q) ∨ c ≤ i := by
 obtain ⟨_, hHF, hmap⟩ := B.tags hT
 have hb := ztd ht (by omega)
 refine (F.PTags_Set hN).call rfl fun loc N' hlo => ?_
 unfold zra
 obtain ⟨σ, hσ⟩ : ∃ σ, σ = zef #[.pointer (some ⟨b, q, none⟩), .int .u32 k, v] := ⟨_, rfl⟩
 have f0 : σ 0 = .pointer (some ⟨b, q, none⟩) := by rw [hσ]; rfl
 have f1 : σ 1 = .int .u32 k := by rw [hσ]; rfl
 have f2 : σ 2 = v := by rw [hσ]; rfl
 rw [← hσ]
 clear hσ
 have fin : ∀ {σ' : Env} {w1 : World} {mr : Nat} {l1 : List (Nat × List UInt8)}, Ag 3 σ σ' → w1.cell? ⟨b, q, none⟩ = some (.map (some mr)) → zrj w1 G c (.map (some mr)) l → c ≤ w1.heap.size → Mod w w1 (fun i o => (i = b ∧ o = q) ∨ c ≤ i) → tagV w1 G v vl →
   W P loc N' (.ops [⟨some 0, .move (V 0), 0, none, []⟩, ⟨some 1, .nilCheck (T 0), 0, none, []⟩, ⟨some 2, .fieldAddr N.zcq (T 1) 0, 0, none, []⟩, ⟨some 3, .load N.zz (T 2), 0, none, []⟩, ⟨some 4, .move (V 1), 0, none, []⟩, ⟨some 5, .move (V 2), 0, none, []⟩,
    ⟨none, .mapUpdate N.zz (T 3) (T 4) (T 5), 0, none, []⟩]) (retQ P [] fun _ w' => ∃ m', w'.cell? ⟨b, q, none⟩ = some m' ∧ m'.oneCell' = true ∧ zrj w' G c m' (tput l k vl) ∧ Mod w w' fun i o => (i = b ∧ o = q) ∨ c ≤ i) σ' w1 := by
  intro σ' w1 mr l1 ha hc1 ht1 hcw1 hm1 hv1
  rcases ht1 with ⟨h, _⟩ | ⟨m1, es, ck, e1, h1, h2, h3, h4, h5, h6, h7, h8⟩
  ·cases h
  ·cases e1
   obtain ⟨w2, es', ck', hrun, hm2, hs2, g1, g2, g3, g4, g5, g6⟩ := run_setTag B hT hv1 hk h3 h4 h5 h6 h7 h8
   have e0 := ha 0 (by omega)
   have e1 := ha 1 (by omega)
   have e2 := ha 2 (by omega)
   rw [f0] at e0
   rw [f1] at e1
   rw [f2] at e2
   refine zn fun τ => ?_
   simp +decide (disch := omega) only [bK, bE, Nat.reduceBeqDiff, BEq.rfl, Nat.reduceAdd, Nat.zero_add, e0]
   rw [zat rfl]
   simp +decide (disch := omega) only [bK, bE, Nat.reduceBeqDiff, BEq.rfl, Nat.add_zero, hHF.run, hmap.run_load1 rfl, hc1, e1, e2, zrk, hrun]
   refine ⟨.inl rfl, .tuple #[], rfl, .map (some mr), ?_, rfl, .inr ⟨mr, es', ck', rfl, h1, by omega, g1, g2, g3, ?_, g5, g6⟩, hm1.trans hm2 fun i o _ h => h.elim id fun h => .inr (by have : i = mr := h; omega)⟩
   ·rw [hm2.cell _ _ (by omega) (fun h => by have : b = mr := h; omega)]; exact hc1
   ·exact g4.mod hm2 fun i hi => ⟨by have := hG i hi; omega, fun o h => by have : i = mr := h; have := hG i hi; omega, hi⟩
 refine zf fun K hK => zf fun K1 hK1 => zn fun τ => ?_
 simp +decide (disch := omega) only [bK, bE, BEq.rfl, Nat.reduceAdd, Nat.zero_add, f0]
 rw [zat rfl]
 have hml : ∃ mo, m = .map mo := by
  rcases htg with ⟨h, _⟩ | ⟨m1, es, ck, e1, _⟩
  ·exact ⟨_, h⟩
  ·exact ⟨_, e1⟩
 obtain ⟨mo, rfl⟩ := hml
 simp +decide (disch := omega) only [bK, bE, BEq.rfl, Nat.add_zero, hHF.run, hmap.run_load1 rfl, hc, run_eqlMap hmap.und]
 refine hK1 _ _ (zd fun σ1 hσ => ?_)
 have a1 : Ag 3 σ σ1 := fun i hi => by
  rw [hσ]
  match i, hi with
  | 0, _ => simp +decide only [bE, Nat.reduceBeqDiff, Nat.zero_add]
  | 1, _ => simp +decide only [bE, Nat.reduceBeqDiff, Nat.reduceAdd]
  | 2, _ => simp +decide only [bE, Nat.reduceBeqDiff, Nat.reduceAdd]
 have a3 := hσ 3
 simp +decide only [bE, BEq.rfl, Nat.reduceAdd] at a3
 clear hσ hK1 K1
 refine W_if hlo a3 ?_
 cases mo with
 | some mr =>
  refine zbv (hK _ _ (fin (l1 := l) a1 hc htg hcw (.refl _ _) hv))
 | none =>
  have hl : l = [] := by
   rcases htg with ⟨_, h⟩ | ⟨m1, es, ck, e1, _⟩
   ·exact h
   ·cases e1
  subst hl
  simp only [Option.isNone_none, if_true]
  have e0 := a1 0 (by omega)
  rw [f0] at e0
  have hmk : (Instr.makeMap N.zz none).run P w = .ok (.map (some w.heap.size)) (w.alloc (.map #[] 0)) := by
   simp [Instr.makeMap, newObj, Sem.run, bind, Sem.bind]
  obtain ⟨w1, hw1⟩ : ∃ w1, w1 = w.alloc (.map #[] 0) := ⟨_, rfl⟩
  have m1 : Mod w w1 zw := by rw [hw1]; exact Mod.alloc _ _ _
  have s1 : w1.heap.size = w.heap.size + 1 := by rw [hw1]; exact zae _ _
  have n1 : w1.heap[w.heap.size]? = some (.map #[] 0) := by rw [hw1]; exact zlx _ _
  have t1 : w1.there b q 1 := m1.there hb ht
  have st := hmap.run_store1 (w := w1) (b := b) (o := q) (v := .map (some w.heap.size)) rfl t1
  have c1 : w1.cell? ⟨b, q, none⟩ = some (.map none) := by rw [m1.cell _ _ hb (fun h => h)]; exact hc
  refine zn fun τ => ?_
  rw [hw1] at st
  simp +decide (disch := omega) only [bK, bE, Nat.reduceBeqDiff, BEq.rfl, Nat.zero_add, Option.map_none, e0, zut, hmk]
  rw [zat (a := ⟨b, q, none⟩) (by simp +decide only [bK, bE, Nat.reduceBeqDiff, BEq.rfl])]
  simp +decide (disch := omega) only [bK, bE, Nat.reduceBeqDiff, BEq.rfl, Nat.add_zero, hHF.run, st, zjj, locs_envOf]
  rw [← hw1]
  have m2 : Mod w1 (w1.setCell ⟨b, q, none⟩ (.map (some w.heap.size))) (fun i o => i = b ∧ o = q) := Mod.setCell fun _ => ⟨rfl, rfl⟩
  have m02 : Mod w (w1.setCell ⟨b, q, none⟩ (.map (some w.heap.size))) (fun i o => (i = b ∧ o = q) ∨ c ≤ i) := m1.trans m2 fun i o _ h => h.elim False.elim fun h => .inl h
  have s2 : (w1.setCell ⟨b, q, none⟩ (.map (some w.heap.size))).heap.size = w1.heap.size := by simp [World.setCell]
  refine hK _ _ (fin (l1 := []) a1 (World.cell?_setCell_same _ _ _ c1) (.inr ⟨w.heap.size, #[], 0, rfl, hcw, by omega, ?_, by simp, by simp, by simp [zbj], by simp, by simp⟩) (by omega) m02 ?_)
  ·rw [m2.block _ (by omega) (fun o h => by have : w.heap.size = b := h.1; omega)]; exact n1
  ·exact hv.mod m02 fun i hi => ⟨by have := hG i hi; omega, fun o h => by have := hG i hi; omega, hi⟩
end
def dEq : TypeDesc → TypeDesc → Bool
 | .int a, .int b => decide (a = b)
 | .bool, .bool => true
 | .string, .string => true
 | .slice a, .slice b => Nat.beq a b
 | .pointer a, .pointer b => Nat.beq a b
 | .map a b, .map c d => Nat.beq a c && Nat.beq b d
 | .array a b, .array c d => Nat.beq a c && Nat.beq b d
 | _, _ => false
theorem dEq_ok {a b : TypeDesc} (h : dEq a b = true) : a = b := by
 cases a <;> cases b <;> simp_all [dEq]
def vEq1 : Value → Value → Bool
 | .int a n, .int b m => decide (a = b) && decide (n = m)
 | .bool a, .bool b => a == b
 | .string a, .string b => decide (a.data = #[]) && decide (b.data = #[])
 | .slice none 0 0, .slice none 0 0 => true
 | .pointer none, .pointer none => true
 | .map none, .map none => true
 | .nilIface, .nilIface => true
 | _, _ => false
theorem vEq1_ok {a b : Value} (h : vEq1 a b = true) : a = b := by
 unfold vEq1 at h
 split at h
 ·simp at h; rw [h.1, h.2]
 ·simp at h; rw [h]
 ·rename_i a b
  simp at h
  obtain ⟨a⟩ := a
  obtain ⟨b⟩ := b
  simp at h
  rw [h.1, h.2]
 ·rfl
 ·rfl
 ·rfl
 ·rfl
 ·cases h
def vEqL : List Value → List Value → Bool
 | [], [] => true
 | a :: l, b :: m => vEq1 a b && vEqL l m
 | _, _ => false
theorem vEqL_ok : ∀ {l m : List Value}, vEqL l m = true → l = m
 | [], [], _ => rfl
 | a :: l, b :: m, h => by
  simp only [vEqL, Bool.and_eq_true] at h
  rw [vEq1_ok h.1, vEqL_ok h.2]
 | [], _ :: _, h => by simp [vEqL] at h
 | _ :: _, [], h => by simp [vEqL] at h
def vEq : Value → Value → Bool
 | .agg a, .agg b => vEqL a.toList b.toList
 | a, b => vEq1 a b
theorem vEq_ok {a b : Value} (h : vEq a b = true) : a = b := by
 unfold vEq at h
 split at h
 ·have := vEqL_ok h
  rw [Array.toList_inj] at this
  rw [this]
 ·exact vEq1_ok h
def infoB (P : Program) (t : TypeId) (sz by' : Nat) (z : Value) : Bool :=
 match P.info? t with
 | some i => Nat.beq i.size sz && Nat.beq i.bytes by' && (match i.zero with | some z' => vEq z' z | none => false)
 | none => false
theorem zpy {P : Program} {t : TypeId} {sz by' : Nat} {z : Value} (h : infoB P t sz by' z = true) : ∃ i, P.info? t = some i ∧ i.size = sz ∧ i.bytes = by' ∧ i.zero = some z := by
 unfold infoB at h
 split at h
 ·rename_i i hi
  simp only [Bool.and_eq_true] at h
  obtain ⟨⟨h1, h2⟩, h3⟩ := h
  refine ⟨i, hi, by simpa using h1, by simpa using h2, ?_⟩
  split at h3
  ·rename_i z' hz; rw [hz, vEq_ok h3]
  ·cases h3
 ·cases h
def tiB (P : Program) (t : TypeId) (d : TypeDesc) (sz by' : Nat) (z : Value) : Bool :=
 (match P.underlying t with | some d' => dEq d' d | none => false) && infoB P t sz by' z
theorem zin {P : Program} {t : TypeId} {d : TypeDesc} {sz by' : Nat} {z : Value} (h : tiB P t d sz by' z = true) : TI P t d sz by' z := by
 unfold tiB at h
 rw [Bool.and_eq_true] at h
 refine ⟨?_, zpy h.2⟩
 have h1 := h.1
 split at h1
 ·rename_i d' hd; rw [hd, dEq_ok h1]
 ·cases h1
def tsB (P : Program) (t : TypeId) (sz by' : Nat) (z : Value) : Bool :=
 (match P.underlying t with | some (.struct _) => true | _ => false) && infoB P t sz by' z
theorem tsB_ok {P : Program} {t : TypeId} {sz by' : Nat} {z : Value} (h : tsB P t sz by' z = true) : ∃ fs, TI P t (.struct fs) sz by' z := by
 unfold tsB at h
 rw [Bool.and_eq_true] at h
 have h1 := h.1
 split at h1
 ·rename_i fs hfs; exact ⟨fs, hfs, zpy h.2⟩
 ·cases h1
def hfB (P : Program) (t : TypeId) (k off : Nat) : Bool :=
 match P.underlying t with
 | some (.struct fs) => (match fs[k]? with
  | some f => Nat.beq f.offset off && (match P.info? f.type with | some i => !Nat.beq i.size 0 | none => false)
  | none => false)
 | _ => false
theorem zvm {P : Program} {t : TypeId} {k off : Nat} (h : hfB P t k off = true) : HF P t k off := by
 unfold hfB at h
 split at h
 ·rename_i fs hfs
  split at h
  ·rename_i f hf
   rw [Bool.and_eq_true] at h
   have h2 := h.2
   split at h2
   ·rename_i i hi
    exact ⟨fs, f, i, hfs, hf, by simpa using h.1, hi, fun e => by rw [e] at h2; cases h2⟩
   ·cases h2
  ·cases h
 ·cases h
def placesB (P : Program) (t : TypeId) (l : List (Nat × Nat)) : Bool :=
 match P.underlying t with
 | some (.struct fs) => (match fs.toList.mapM (fun f => (P.info? f.type).map fun i => (f.offset, i.size)) with
  | some l' => decide (l' = l)
  | none => false)
 | _ => false
def sfB (P : Program) (t : TypeId) (places : List (Nat × Nat)) (by' : Nat) (z : List Value) : Bool := tsB P t z.length by' (.agg z.toArray) && placesB P t places
theorem sfB_ok {P : Program} {t : TypeId} {places : List (Nat × Nat)} {by' : Nat} {z : List Value} (h : sfB P t places by' z = true) : SF P t places by' z := by
 unfold sfB at h
 rw [Bool.and_eq_true] at h
 obtain ⟨fs, ht⟩ := tsB_ok h.1
 refine ⟨fs, ht, ?_⟩
 have h2 := h.2
 unfold placesB at h2
 rw [ht.und] at h2
 simp only at h2
 split at h2
 ·rename_i l' hl; rw [hl]; simpa using h2
 ·cases h2
def ifB (n : Nat) (b : Bool) : Bool := Nat.beq n 0 || b
theorem zli {n : Nat} {b : Bool} (h : ifB n b = true) (hn : n ≠ 0) : b = true := by
 unfold ifB at h
 rw [Bool.or_eq_true] at h
 rcases h with h | h
 ·exact absurd (by simpa using h) hn
 ·exact h
def errB (P : Program) (t : TypeId) : Bool := (match P.underlying t with | some (.interface _) => true | _ => false) && infoB P t 1 16 .nilIface
theorem errB_ok {P : Program} {t : TypeId} (h : errB P t = true) : ∃ ms, TI P t (.interface ms) 1 16 .nilIface := by
 unfold errB at h
 rw [Bool.and_eq_true] at h
 have h1 := h.1
 split at h1
 ·rename_i fs hfs; exact ⟨fs, hfs, zpy h.2⟩
 ·cases h1
def bigB (P : Program) (t : TypeId) : Bool := (match P.underlying t with | some (.struct fs) => decide (fs.size = 0) | _ => false) && infoB P t 0 0 (.agg #[])
theorem bigB_ok {P : Program} {t : TypeId} (h : bigB P t = true) : TI P t (.struct #[]) 0 0 (.agg #[]) := by
 unfold bigB at h
 rw [Bool.and_eq_true] at h
 have h1 := h.1
 split at h1
 ·rename_i fs hfs
  have : fs = #[] := Array.eq_empty_of_size_eq_zero (by simpa using h1)
  subst this
  exact ⟨hfs, zpy h.2⟩
 ·cases h1
def base1B (P : Program) (N : Nums) : Bool :=
 ifB N.zjw (tiB P N.zjw (.int .i8) 1 1 (.int .i8 0)) && (tiB P N.zbd (.int .i16) 1 2 (.int .i16 0) && (tiB P N.zbp (.int .i32) 1 4 (.int .i32 0) && (tiB P N.zbn (.int .i64) 1 8 (.int .i64 0) && (tiB P N.ze (.int .i64) 1 8 (.int .i64 0) &&
 (tiB P N.zk (.int .u8) 1 1 (.int .u8 0) && (tiB P N.zed (.int .u16) 1 2 (.int .u16 0) && (tiB P N.zc (.int .u32) 1 4 (.int .u32 0) && (tiB P N.zad (.int .u64) 1 8 (.int .u64 0) && tiB P N.zaq .bool 1 1 (.bool false)))))))))
def base2B (P : Program) (N : Nums) : Bool :=
 tiB P N.zal .string 1 16 (.string ⟨#[]⟩) && (tiB P N.za (.slice N.zk) 1 24 (.slice none 0 0) && (ifB N.zbz (bigB P N.zbz) && (ifB N.zld (errB P N.zld) && (ifB N.zaf (sfB P N.zaf [(0, 1), (1, 1)] 32 [.slice none 0 0, .bool false]) && (ifB N.zaf (hfB P N.zaf 0 0) && (ifB N.zaf (hfB P N.zaf 1 1) &&
 (ifB N.zag (tiB P N.zag (.array 16 N.zk) 16 16 (.agg (Array.replicate 16 (.int .u8 0)))) && (ifB N.zay (tiB P N.zay (.pointer N.zal) 1 8 (.pointer none)) &&
 (ifB N.zcq (tsB P N.zcq 1 8 (.agg #[.map none])) && (ifB N.zcq (hfB P N.zcq 0 0) && ifB N.zcq (tiB P N.zz (.map N.zc N.za) 1 8 (.map none))))))))))))
theorem base_ok {P : Program} {N : Nums} (hm : P.follows .mixedOrders = true) (h1 : base1B P N = true) (h2 : base2B P N = true) : Base P N := by
 unfold base1B at h1
 unfold base2B at h2
 simp only [Bool.and_eq_true] at h1 h2
 obtain ⟨a1, a2, a3, a4, a5, a6, a7, a8, a9, a10⟩ := h1
 obtain ⟨b1, b2, b3, b4, b5, b6, b7, b8, b9, b10, b11, b12⟩ := h2
 exact { mixed := hm, int8 := fun h => zin (zli a1 h), int16 := zin a2, int32 := zin a3, int64 := zin a4, int := zin a5, uint8 := zin a6, uint16 := zin a7, uint32 := zin a8, uint64 := zin a9, bool := zin a10, string := zin b1, Lu8 := zin b2, big := fun h => bigB_ok (zli b3 h), error := fun h => errB_ok (zli b4 h), reader := fun h => sfB_ok (zli b5 h), reader0 := fun h => zvm (zli b6 h), reader1 := fun h => zvm (zli b7 h), uuid := fun h => zin (zli b8 h), pstring := fun h => zin (zli b9 h), tags := fun h => ⟨tsB_ok (zli b10 h), zvm (zli b11 h), zin (zli b12 h)⟩ }
def bytesOf (P : Program) (t : TypeId) : Nat := match P.info? t with | some i => i.bytes | none => 0
section
variable (P : Program) (N : Nums) (fx : Bool)
end
section
variable (P : Program) (N : Nums)
end
section
variable {P : Program} {N : Nums} {fx : Bool}
theorem pk_bytes (B : Base P N) {k : PK} (hu : k.nt N) (he : ∀ t, k = .en t → TI P t (.int .i8) 1 1 (.int .i8 0)) : ∃ d by', TI P (k.t N) d k.sz by' k.zero ∧ by' ≤ 131072 := by
 cases k with
 | bool => exact ⟨_, _, B.bool, by decide⟩
 | i8 => exact ⟨_, _, B.int8 (hu.2 rfl), by decide⟩
 | i16 => exact ⟨_, _, B.int16, by decide⟩
 | u16 => exact ⟨_, _, B.uint16, by decide⟩
 | i32 => exact ⟨_, _, B.int32, by decide⟩
 | i64 => exact ⟨_, _, B.int64, by decide⟩
 | uuid => exact ⟨_, _, B.uuid (hu.1 rfl), by decide⟩
 | en t => exact ⟨_, _, he t rfl, by decide⟩
theorem tx_bytes (B : Base P N) {k : Txt} (hp : k = .nstr → N.zay ≠ 0) : ∃ d by', TI P (k.t N) d 1 by' k.zero ∧ by' ≤ 131072 := by
 cases k with
 | str => exact ⟨_, _, B.string, by decide⟩
 | nstr => exact ⟨_, _, B.pstring (hp rfl), by decide⟩
 | byt => exact ⟨_, _, B.Lu8, by decide⟩
 | nbyt => exact ⟨_, _, B.Lu8, by decide⟩
end
def anyC (P : Program) (Cw : World → Prop) (l : List ROp) (rd : Nat → Bool) (K : Env → World → Prop) : Nat → List Nat → Env → World → Prop
 | 0, _, ρ, w => K ρ w
 | f + 1, C, ρ, w => ∀ i, readyP l C i → zbk P (l.getD i default) ρ w fun ρ w => (zrp l rd i = true ∨ Cw w) ∧ anyC P Cw l rd K f (C.erase i) ρ w
def pairB2 (l : List ROp) (rd : Nat → Bool) (i j : Nat) : Bool :=
 match (l.getD i default).dst with
 | none => true
 | some d =>
  if i == j then !(zfu (l.getD j default)).contains d
  else (match (l.getD j default).dst with | some d' => !(Nat.beq d' d) | none => true) &&
   (!(zfu (l.getD j default)).contains d || ((l.getD j default).after.contains i && (!rd j || rd i)))
def zng (l : List ROp) (rd : Nat → Bool) : Bool :=
 zrf l && l.all (fun r => !zxm r.op) && (List.range l.length).all fun i => (List.range l.length).all fun j => pairB2 l rd i j
section
variable {P : Program} {l : List ROp} {rd : Nat → Bool}
theorem zvg (h : zng l rd = true) {i : Nat} (hi : i < l.length) : zxm (l.getD i default).op = false := by
 unfold zng at h
 simp only [Bool.and_eq_true, List.all_eq_true] at h
 have := h.1.2 l[i] (List.getElem_mem hi)
 simpa [List.getD, hi] using this
theorem zom (h : zng l rd = true) : zrf l = true := by
 unfold zng at h
 simp only [Bool.and_eq_true] at h
 exact h.1.1
theorem zxf (h : zng l rd = true) {i j d : Nat} (hi : i < l.length) (hj : j < l.length) (hd : (l.getD i default).dst = some d) :
  (i = j → d ∉ zfu (l.getD j default)) ∧ (i ≠ j → (l.getD j default).dst ≠ some d ∧ (d ∈ zfu (l.getD j default) → i ∈ (l.getD j default).after ∧ (rd j = true → rd i = true))) := by
 have h1 : pairB2 l rd i j = true := by
  unfold zng at h
  rw [Bool.and_eq_true, List.all_eq_true] at h
  have h1 := h.2 i (List.mem_range.2 hi)
  rw [List.all_eq_true] at h1
  exact h1 j (List.mem_range.2 hj)
 unfold pairB2 at h1
 rw [hd] at h1
 simp only at h1
 refine ⟨fun e => ?_, fun e => ?_⟩
 ·have : (i == j) = true := by simpa using e
  rw [this] at h1; simpa using h1
 ·have : (i == j) = false := by simpa using e
  rw [this] at h1
  simp only [Bool.false_eq_true, if_false, Bool.and_eq_true] at h1
  refine ⟨fun hc => ?_, fun hm => ?_⟩
  ·rw [hc] at h1; simp at h1
  ·have h2 := h1.2
   simp only [Bool.or_eq_true, Bool.not_eq_true', List.contains_eq_mem, decide_eq_true_eq, Bool.and_eq_true, decide_eq_false_iff_not] at h2
   rcases h2 with h2 | h2
   ·exact absurd hm h2
   ·refine ⟨h2.1, fun hr => ?_⟩
    rcases h2.2 with h3 | h3
    ·rw [hr] at h3; cases h3
    ·exact h3
theorem zmu (hp : zng l rd = true) {Cw : World → Prop} {K : Env → Prop} : ∀ (is : List Nat) (ρ : Env), is.Pairwise (· < ·) → (∀ i ∈ is, i < l.length) → zmk P Cw l rd K is ρ →
  ∃ ρ1, K ρ1 ∧ (∀ t, (∀ i ∈ is, rd i = true → (l.getD i default).dst ≠ some t) → ρ1 t = ρ t) ∧
   ∀ i ∈ is, rd i = true → ∃ v, (∀ d, (l.getD i default).dst = some d → ρ1 d = v) ∧ ∀ w, Cw w → zkk P (l.getD i default) ρ1 w v
 | [], ρ, _, _, h => ⟨ρ, h, fun _ _ => rfl, fun _ hi => by cases hi⟩
 | i :: is, ρ, hs, hlt, h => by
  have hs' := List.pairwise_cons.1 hs
  have hi := hlt i (by simp)
  have hlt' : ∀ j ∈ is, j < l.length := fun j hj => hlt j (by simp [hj])
  unfold zmk at h
  by_cases hr : rd i = true
  ·rw [if_pos hr] at h
   obtain ⟨v, hy, h⟩ := h
   obtain ⟨ρ1, hK, hrest, hall⟩ := zmu hp is _ hs'.2 hlt' h
   refine ⟨ρ1, hK, fun t ht => ?_, fun j hj hrj => ?_⟩
   ·rw [hrest t fun j hj hrj => ht j (by simp [hj]) hrj]
    have := ht i (by simp) hr
    cases hd : (l.getD i default).dst with
    | none => rfl
    | some d =>
     simp only [put]
     rw [if_neg (fun e => this (by rw [hd, e]))]
   ·rcases List.mem_cons.1 hj with rfl | hj'
    ·have hval : ∀ d, (l.getD j default).dst = some d → ρ1 d = v := fun d hd => by
      rw [hrest d fun k hk hrk hdk => by
       have hne : j ≠ k := by have := hs'.1 k hk; omega
       exact ((zxf hp hi (hlt' k hk) hd ).2 hne).1 hdk]
      rw [hd]; simp [put]
     refine ⟨v, hval, fun w hw => zig (zvg hp hi) (fun t ht => ?_) (hy w hw)⟩
     have hnd : (l.getD j default).dst ≠ some t := fun hd => (zxf hp hi hi hd ).1 rfl ht
     rw [hrest t fun k hk hrk hdk => by
      have hk' := hlt' k hk
      have hne : k ≠ j := by have := hs'.1 k hk; omega
      have := ((zxf hp hk' hi hdk).2 hne).2 ht
      have := zki (zom hp) hi this.1
      have := hs'.1 k hk; omega]
     cases hd : (l.getD j default).dst with
     | none => rfl
     | some d =>
      simp only [put]
      rw [if_neg (fun e => hnd (by rw [hd, e]))]
    ·exact hall j hj' hrj
  ·rw [if_neg hr] at h
   obtain ⟨ρ1, hK, hrest, hall⟩ := zmu hp is _ hs'.2 hlt' h
   refine ⟨ρ1, hK, fun t ht => hrest t fun j hj hrj => ht j (by simp [hj]) hrj, fun j hj hrj => ?_⟩
   rcases List.mem_cons.1 hj with rfl | hj'
   ·exact absurd hrj hr
   ·exact hall j hj' hrj
theorem zui (hp : zng l rd = true) {Cw : World → Prop} {K : Env → World → Prop} {ρ1 : Env}
  (hread : ∀ i, i < l.length → rd i = true → ∃ v, (∀ d, (l.getD i default).dst = some d → ρ1 d = v) ∧ ∀ w, Cw w → zkk P (l.getD i default) ρ1 w v) :
  ∀ (f : Nat) (pend : List Nat) (ρ : Env) (w : World), pend.length = f → pend.Pairwise (· < ·) → (∀ i ∈ pend, i < l.length) →
   (∀ j, j < l.length → j ∉ pend → ∀ e ∈ (l.getD j default).after, e ∉ pend) →
   (∀ t, (∀ j, j < l.length → j ∉ pend → rd j = false → (l.getD j default).dst ≠ some t) → zfk l rd ρ1 pend ρ t = ρ1 t) →
   ((∃ i ∈ pend, rd i = true) → Cw w) →
   anyC P Cw l rd K (pend.filter fun i => !rd i).length (pend.filter fun i => !rd i) (zfk l rd ρ1 pend ρ) w → anyP P l K f pend ρ w := by
 intro f
 induction f with
 | zero =>
  intro pend ρ w hf _ _ _ _ _ hc
  have hnil : pend = [] := List.length_eq_zero_iff.1 hf
  subst hnil
  have : zfk l rd ρ1 [] ρ = ρ := funext fun t => zcz (fun i hi => by cases hi)
  rw [this] at hc
  exact hc
 | succ f ih =>
  intro pend ρ w hf hs hlt hcl hinv hCw hc i hready
  obtain ⟨hi, hall⟩ := hready
  have hil := hlt i hi
  have hnd : pend.Nodup := hs.imp (fun h => Nat.ne_of_lt h)
  have hlook : ∀ t ∈ zfu (l.getD i default), zfk l rd ρ1 pend ρ t = ρ t := fun t ht => zcz fun k hk hrk hdk => by
   have hkl := hlt k hk
   by_cases hki : k = i
   ·subst hki; exact (zxf hp hkl hkl hdk).1 rfl ht
   ·exact hall k (((zxf hp hkl hil hdk).2 hki).2 ht).1 hk
  have hsel := zvg hp hil
  have hs' : (pend.erase i).Pairwise (· < ·) := hs.sublist List.erase_sublist
  have hlt' : ∀ j ∈ pend.erase i, j < l.length := fun j hj => hlt j (List.mem_of_mem_erase hj)
  have hlen' : (pend.erase i).length = f := by rw [List.length_erase_of_mem hi]; omega
  have hmem : ∀ j, j ∈ pend.erase i ↔ j ≠ i ∧ j ∈ pend := fun j => hnd.mem_erase_iff
  have hcl' : ∀ j, j < l.length → j ∉ pend.erase i → ∀ e ∈ (l.getD j default).after, e ∉ pend.erase i := fun j hj hjp e he hep => by
   have hep' := (hmem e).1 hep
   by_cases hji : j = i
   ·subst hji; exact hall e he hep'.2
   ·exact hcl j hj (fun h => hjp ((hmem j).2 ⟨hji, h⟩)) e he hep'.2
  by_cases hr : rd i = true
  ·
   obtain ⟨v, hv, hy⟩ := hread i hil hr
   have heq : ∀ t ∈ zfu (l.getD i default), ρ1 t = ρ t := fun t ht => by
    rw [← hlook t ht]
    refine (hinv t fun j hj hjp hrj hdj => ?_).symm
    by_cases hji : j = i
    ·subst hji; rw [hr] at hrj; cases hrj
    ·have := (((zxf hp hj hil hdj).2 hji).2 ht).2 hr
     rw [hrj] at this; cases this
   have hy' := zig hsel heq (hy w (hCw ⟨i, hi, hr⟩))
   have hfill : zfk l rd ρ1 (pend.erase i) (put ρ (l.getD i default).dst v) = zfk l rd ρ1 pend ρ := by
    funext t
    by_cases ht : ∃ k ∈ pend.erase i, rd k = true ∧ (l.getD k default).dst = some t
    ·obtain ⟨k, hk, hrk, hdk⟩ := ht
     rw [zez hk hrk hdk, zez ((hmem k).1 hk).2 hrk hdk]
    ·rw [zcz fun k hk hrk hdk => ht ⟨k, hk, hrk, hdk⟩]
     cases hd : (l.getD i default).dst with
     | none =>
      simp only [put]
      exact (zcz fun k hk hrk hdk => by
       by_cases hki : k = i
       ·subst hki; rw [hd] at hdk; cases hdk
       ·exact ht ⟨k, (hmem k).2 ⟨hki, hk⟩, hrk, hdk⟩).symm
     | some d =>
      simp only [put]
      by_cases htd : t = d
      ·subst htd
       rw [if_pos rfl, zez hi hr hd, hv t hd]
      ·rw [if_neg htd]
       exact (zcz fun k hk hrk hdk => by
        by_cases hki : k = i
        ·subst hki; rw [hd] at hdk; exact htd (Option.some.inj hdk).symm
        ·exact ht ⟨k, (hmem k).2 ⟨hki, hk⟩, hrk, hdk⟩).symm
   have hfil : (pend.erase i).filter (fun j => !rd j) = pend.filter fun j => !rd j := by
    rw [hnd.erase_eq_filter, List.filter_filter]
    refine List.filter_congr fun j hj => ?_
    by_cases hji : j = i
    ·subst hji; simp [hr]
    ·simp [hji]
   have hgo : anyP P l K f (pend.erase i) (put ρ (l.getD i default).dst v) w := by
    refine ih _ _ _ hlen' hs' hlt' hcl' (fun t ht => ?_) (fun ⟨k, hk, hrk⟩ => hCw ⟨k, ((hmem k).1 hk).2, hrk⟩) (by rw [hfil, hfill]; exact hc)
    ·rw [hfill]
     refine hinv t fun j hj hjp hrj => ht j hj (fun h => hjp ((hmem j).1 h).2) hrj
   unfold zbk
   rcases hy' with ⟨hw, hrun⟩ | ⟨hw, rfl⟩
   ·rw [if_pos hw, hrun]; exact hgo
   ·rw [if_neg (by rw [hw]; simp)]; exact hgo
  ·
   have hr' : rd i = false := by simpa using hr
   have hiC : i ∈ pend.filter fun j => !rd j := List.mem_filter.2 ⟨hi, by simp [hr']⟩
   have hfil : (pend.erase i).filter (fun j => !rd j) = (pend.filter fun j => !rd j).erase i := by
    have hndC : (pend.filter fun j => !rd j).Nodup := hnd.sublist List.filter_sublist
    rw [hnd.erase_eq_filter, hndC.erase_eq_filter, List.filter_filter, List.filter_filter]
    refine List.filter_congr fun j _ => Bool.and_comm _ _
   have hlenC : (pend.filter fun j => !rd j).length = ((pend.filter fun j => !rd j).erase i).length + 1 := by
    have := List.length_erase_of_mem hiC
    have := List.length_pos_of_mem hiC
    omega
   rw [hlenC] at hc
   have hc := hc i ⟨hiC, fun e he hec => hall e he (List.mem_filter.1 hec).1⟩
   have hown : ∀ k ∈ pend.erase i, rd k = true → ∀ d, (l.getD i default).dst = some d → (l.getD k default).dst ≠ some d := fun k hk hrk d hd hdk => by
    have hkl := hlt' k hk
    exact ((zxf hp hil hkl hd).2 (fun e => ((hmem k).1 hk).1 e.symm)).1 hdk
   have hfill : ∀ v, zfk l rd ρ1 (pend.erase i) (put ρ (l.getD i default).dst v) = put (zfk l rd ρ1 pend ρ) (l.getD i default).dst v := by
    intro v
    have hsame : ∀ t, (l.getD i default).dst ≠ some t → zfk l rd ρ1 (pend.erase i) (put ρ (l.getD i default).dst v) t = zfk l rd ρ1 pend ρ t := by
     intro t hti
     by_cases ht : ∃ k ∈ pend.erase i, rd k = true ∧ (l.getD k default).dst = some t
     ·obtain ⟨k, hk, hrk, hdk⟩ := ht
      rw [zez hk hrk hdk, zez ((hmem k).1 hk).2 hrk hdk]
     ·rw [zcz fun k hk hrk hdk => ht ⟨k, hk, hrk, hdk⟩]
      rw [zcz (pend := pend) fun k hk hrk hdk => by
       by_cases hki : k = i
       ·subst hki; rw [hr'] at hrk; cases hrk
       ·exact ht ⟨k, (hmem k).2 ⟨hki, hk⟩, hrk, hdk⟩]
      cases hd : (l.getD i default).dst with
      | none => rfl
      | some d =>
       simp only [put]
       rw [if_neg (fun e => hti (by rw [hd, e]))]
    funext t
    by_cases hti : (l.getD i default).dst = some t
    ·rw [zcz fun k hk hrk => hown k hk hrk t hti, hti]
     simp [put]
    ·rw [hsame t hti]
     cases hd : (l.getD i default).dst with
     | none => rfl
     | some d =>
      simp only [put]
      rw [if_neg (fun e => hti (by rw [hd, e]))]
   have hgo : ∀ v w', ((zrp l rd i = true ∨ Cw w') ∧ anyC P Cw l rd K ((pend.filter fun j => !rd j).erase i).length ((pend.filter fun j => !rd j).erase i) (put (zfk l rd ρ1 pend ρ) (l.getD i default).dst v) w') → anyP P l K f (pend.erase i) (put ρ (l.getD i default).dst v) w' := by
    rintro v w' ⟨hlast, hch⟩
    refine ih _ _ _ hlen' hs' hlt' hcl' (fun t ht => ?_) (fun ⟨k, hk, hrk⟩ => ?_) (by rw [hfil, hfill]; exact hch)
    ·rw [hfill]
     have hti := ht i hil (fun h => ((hmem i).1 h).1 rfl) hr'
     have h1 : put (zfk l rd ρ1 pend ρ) (l.getD i default).dst v t = zfk l rd ρ1 pend ρ t := by
      cases hd : (l.getD i default).dst with
      | none => rfl
      | some d => simp only [put]; rw [if_neg (fun e => hti (by rw [hd, e]))]
     rw [h1]
     exact hinv t fun j hj hjp hrj => ht j hj (fun h => hjp ((hmem j).1 h).2) hrj
    ·rcases hlast with hlast | hcw
     ·unfold zrp at hlast
      rw [List.all_eq_true] at hlast
      have := hlast k (List.mem_range.2 (hlt' k hk))
      simp only [hrk, Bool.not_true, Bool.false_or] at this
      exact absurd ((hmem k).1 hk).2 (zoj (zom hp) hcl _ i k hil hall this)
     ·exact hcw
   have hexec : exec (zfk l rd ρ1 pend ρ) (l.getD i default) = exec ρ (l.getD i default) := zos hsel hlook
   have hwant : zea (zfk l rd ρ1 pend ρ) (l.getD i default).guard = zea ρ (l.getD i default).guard := zkl hlook
   unfold zbk at hc ⊢
   rw [hexec, hwant] at hc
   by_cases hw : zea ρ (l.getD i default).guard = true
   ·rw [if_pos hw] at hc ⊢
    exact upon_map hgo hc
   ·rw [if_neg hw] at hc ⊢
    exact hgo _ _ hc
theorem zxz (hp : zng l rd = true) {Cw : World → Prop} {K : Env → World → Prop} {ρ : Env} {w : World} (hw : Cw w)
  (h : zmk P Cw l rd (fun ρ1 => anyC P Cw l rd K ((List.range l.length).filter fun i => !rd i).length ((List.range l.length).filter fun i => !rd i) ρ1 w) (List.range l.length) ρ) : anyP P l K l.length (List.range l.length) ρ w := by
 obtain ⟨ρ1, hK, hrest, hall⟩ := zmu hp _ _ List.pairwise_lt_range (fun i hi => List.mem_range.1 hi) h
 have hfill : zfk l rd ρ1 (List.range l.length) ρ = ρ1 := by
  funext t
  by_cases ht : ∃ k ∈ List.range l.length, rd k = true ∧ (l.getD k default).dst = some t
  ·obtain ⟨k, hk, hrk, hdk⟩ := ht
   exact zez hk hrk hdk
  ·rw [zcz fun k hk hrk hdk => ht ⟨k, hk, hrk, hdk⟩]
   exact (hrest t fun k hk hrk hdk => ht ⟨k, hk, hrk, hdk⟩).symm
 refine zui hp (ρ1 := ρ1) (fun i hi hr => ?_) l.length _ ρ w (by simp) List.pairwise_lt_range (fun i hi => List.mem_range.1 hi) (fun j hj hjp => absurd (List.mem_range.2 hj) hjp)
  (fun t _ => by rw [hfill]) (fun _ => hw) (by rw [hfill]; exact hK)
 exact hall i (List.mem_range.2 hi) hr
def seqB (l : List ROp) : List Nat → Bool
 | [] => true
 | i :: C => C.all (fun j => (l.getD j default).after.any fun e => (i :: C).contains e) && seqB l C
theorem zgu {Cw : World → Prop} {K : Env → World → Prop} : ∀ (C : List Nat) (ρ : Env) (w : World), seqB l C = true → C.Nodup → (∀ j, C.getLast? = some j → zrp l rd j = true) →
  zgq P Cw K (C.map fun j => l.getD j default) ρ w → anyC P Cw l rd K C.length C ρ w
 | [], _, _, _, _, _, h => h
 | i :: C, ρ, w, hs, hnd, hlast, h => by
  simp only [seqB, Bool.and_eq_true, List.all_eq_true] at hs
  intro j hj
  have hji : j = i := by
   rcases List.mem_cons.1 hj.1 with e | he
   ·exact e
   ·have h1 := hs.1 j he
    rw [List.any_eq_true] at h1
    obtain ⟨e, he1, he2⟩ := h1
    exact absurd (by simpa using he2) (hj.2 e he1)
  subst hji
  rw [List.erase_cons_head]
  cases C with
  | nil =>
   refine zka (fun ρ w hk => ⟨.inl (hlast j rfl), ?_⟩) h
   exact hk
  | cons k C =>
   refine zka (fun ρ w hk => ⟨.inr hk.1, ?_⟩) h
   exact zgu (k :: C) ρ w hs.2 (List.nodup_cons.1 hnd).2 (fun j' h' => hlast j' (by simpa using h')) hk.2
end
def restI (l : List ROp) (rd : List Bool) : List Nat := (List.range l.length).filter fun i => !rdOf rd i
theorem zul {P : Program} {loc : List Nat} {N : Nat} {Q : Exit → Env → World → Prop} {σ : Env} {w : World} {l : List ROp} (hm : P.follows .mixedOrders = true) (rd : List Bool) (hl : rd.length = l.length) (hp : zng l (rdOf rd) = true) (Cw : World → Prop) (hw : Cw w.drew)
  (h : ∀ τ, zeb P Cw (fun ρ1 => anyC P Cw l (rdOf rd) (fun ρ w => Q .normal (locs ρ) w) (restI l rd).length (restI l rd) ρ1 w.drew) (l.zip rd) (zia σ τ)) : W P loc N (.draw l) Q σ w := by
 have hzl : (l.zip rd).length = l.length := by simp [hl]
 have hz : ∀ i p, (l.zip rd)[i]? = some p → l.getD (0 + i) default = p.1 ∧ rdOf rd (0 + i) = p.2 := by
  intro i p hi
  rw [List.getElem?_zip_eq_some] at hi
  simp [List.getD, rdOf, hi.1, hi.2]
 refine W_draw hm (zom hp) fun τ => zxz hp (Cw := Cw) hw ?_
 have e : List.range l.length = List.range' 0 (l.zip rd).length := by rw [hzl, List.range_eq_range']
 have h2 := zkm (P := P) (Cw := Cw) (l := l) (rd := rdOf rd) (l.zip rd) 0 _ hz (h τ)
 rw [← e] at h2
 exact h2
def planM (l : List ROp) (rd : List Bool) : Bool :=
 Nat.beq rd.length l.length && zng l (rdOf rd) && seqB l (restI l rd) && (match (restI l rd).getLast? with
  | some j => zrp l (rdOf rd) j
  | none => true)
theorem zky {P : Program} {loc : List Nat} {N : Nat} {Q : Exit → Env → World → Prop} {σ : Env} {w : World} {l : List ROp} (hm : P.follows .mixedOrders = true) (rd : List Bool) (hB : planM l rd = true) (Cw : World → Prop) (hw : Cw w.drew)
  (h : ∀ τ, zeb P Cw (fun ρ1 => zgq P Cw (fun ρ w => Q .normal (locs ρ) w) (zer l rd) ρ1 w.drew) (l.zip rd) (zia σ τ)) : W P loc N (.draw l) Q σ w := by
 unfold planM at hB
 rw [Bool.and_eq_true, Bool.and_eq_true, Bool.and_eq_true] at hB
 obtain ⟨⟨⟨hl, hp⟩, hs⟩, hlast⟩ := hB
 have hl : rd.length = l.length := by simpa using hl
 have hz : ∀ i p, (l.zip rd)[i]? = some p → l.getD (0 + i) default = p.1 ∧ rdOf rd (0 + i) = p.2 := by
  intro i p hi
  rw [List.getElem?_zip_eq_some] at hi
  simp [List.getD, rdOf, hi.1, hi.2]
 have hcs := zme (l := l) (rd := rdOf rd) (l.zip rd) 0 hz
 rw [show (l.zip rd).length = l.length by simp [hl], ← List.range_eq_range'] at hcs
 refine zul hm rd hl hp Cw hw fun τ => ?_
 have mono : ∀ (r : List (ROp × Bool)) (ρ : Env) (K K' : Env → Prop), (∀ ρ, K ρ → K' ρ) → zeb P Cw K r ρ → zeb P Cw K' r ρ := by
  intro r
  induction r with
  | nil => intro ρ K K' hk h; exact hk _ h
  | cons p r ih =>
   intro ρ K K' hk h
   obtain ⟨o, b⟩ := p
   cases b with
   | true => obtain ⟨v, hv, h⟩ := h; exact ⟨v, hv, ih _ _ _ hk h⟩
   | false => exact ih _ _ _ hk h
 refine mono _ _ _ _ (fun ρ1 hc => ?_) (h τ)
 refine zgu _ _ _ hs (List.nodup_range.sublist List.filter_sublist) (fun j hj => ?_) ?_
 ·rw [hj] at hlast; exact hlast
 ·have e : (restI l rd).map (fun j => l.getD j default) = zer l rd := hcs
  rw [e]; exact hc
section
variable {P : Program} {N : Nums} {loc : List Nat} {N' : Nat} {Q : Exit → Env → World → Prop} {σ : Env} {w : World}
def zny (N : Nums) (i l c k : Nat) (body : C) : C :=
 .block k (.loop (.seq (.ops [⟨some (c + 100), .binOp .lss N.ze (V i) (V l) N.ze, 0, none, []⟩]) (.seq (.cond c .skip (.exit k)) (.seq (.block (k + 1) body)
  (.ops [⟨some 0, .binOp .add N.ze (V i) (.const (.int .i64 1)) N.ze, 0, none, []⟩, ⟨some (i + 100), .move (T 0), 0, none, []⟩])))))
theorem zgv (hlo : zhy loc N') {i l c k L : Nat} {body : C} (hL : L < 4611686018427387904) (I : Nat → Env → World → Prop)
  (hI : ∀ j σ w, I j σ w → σ i = .int .i64 j ∧ σ l = .int .i64 L ∧ j ≤ L) (hc : ∀ j σ w b, I j σ w → I j (upd σ c (.bool b)) w)
  (h0 : I 0 σ w) (hend : ∀ σ w, I L σ w → Q .normal σ w)
  (hb : ∀ j σ w, j < L → I j σ w → W P loc N' body (fun e σ' w' => match e with
   | .normal => σ' i = .int .i64 j ∧ I (j + 1) (upd σ' i (.int .i64 ((j + 1 : Nat) : Int))) w'
   | .ret => Q .ret σ' w'
   | _ => False) σ w) : W P loc N' (zny N i l c k body) Q σ w := by
 unfold zny
 refine zey (zri (fun m σ w => ∃ j, m = L - j ∧ I j σ w) (n := L) ⟨0, by omega, h0⟩ ?_)
 rintro m σ1 w1 ⟨j, rfl, hj⟩
 obtain ⟨f1, f2, f3⟩ := hI j σ1 w1 hj
 refine zf fun K hK => zn fun τ => ?_
 simp +decide (disch := omega) only [bK, bE, f1, f2, zci, locs_envOf]
 refine hK _ _ ?_
 clear hK K
 refine zf fun K hK => W_if hlo (upd_same _ _ _) ?_
 by_cases hlt : (j : Int) < L
 ·rw [decide_eq_true hlt, if_pos rfl]
  refine zbv (hK _ _ ?_)
  clear hK K
  have hj2 := hc j σ1 w1 true hj
  refine zf fun K hK => zey (zpj (hb j _ w1 (by omega) hj2) ?_)
  rintro e σ2 w2 hq
  cases e with
  | normal =>
   obtain ⟨g1, g2⟩ := hq
   refine hK _ _ (zn fun τ => ?_)
   have hw : IntKind.i64.wrap ((j : Int) + 1) = (((j + 1 : Nat) : Int)) := by
    rw [show ((j : Int) + 1) = ((j + 1 : Nat) : Int) by omega]
    exact wrap_i64 (by omega) (by omega)
   simp +decide (disch := omega) only [bK, bE, BEq.rfl, g1, hw, zci, zjj, locs_envOf]
   exact ⟨L - (j + 1), by omega, j + 1, rfl, g2⟩
  | ret => exact hq
  | _ => exact hq.elim
 ·rw [decide_eq_false hlt, if_neg (by simp)]
  refine zpk ?_
  simp only [zgw, inB, if_true]
  have hjL : j = L := by omega
  subst hjL
  exact hend _ _ (hc _ _ _ _ hj)
end
theorem zlg {P : Program} {w : World} {K : Env → Prop} : ∀ (r : List ROp) (ρ : Env), (∀ o ∈ r, zqm o.op = true) → zmi P w K r ρ → zeb P (· = w) K (r.map fun o => (o, true)) ρ
 | [], _, _, h => h
 | o :: r, ρ, hp, h => by
  obtain ⟨v, w', hor, hw', hs⟩ := stepR_pure (hp o (by simp)) h
  refine ⟨v, fun w1 e => ?_, zlg r _ (fun o ho => hp o (by simp [ho])) hs⟩
  subst e
  rcases hor with ⟨ha, hb⟩ | ⟨ha, hb, _⟩
  ·left; refine ⟨ha, ?_⟩; rw [hb, hw']
  ·right; exact ⟨ha, hb⟩
def stillB (l : List ROp) : Bool := planM l (l.map fun _ => true) && l.all fun o => zqm o.op
theorem zvt (l : List ROp) : zer l (l.map fun _ => true) = [] := by
 unfold zer
 have : (l.zip (l.map fun _ => true)).filter (fun p => !p.2) = [] := by
  rw [List.filter_eq_nil_iff]
  intro p hp
  have := (List.of_mem_zip hp).2
  rw [List.mem_map] at this
  obtain ⟨_, _, e⟩ := this
  simp [← e]
 rw [this]; rfl
theorem zip_true (l : List ROp) : l.zip (l.map fun _ => true) = l.map fun o => (o, true) := by
 induction l with
 | nil => rfl
 | cons o l ih => simp only [List.map_cons, List.zip_cons_cons, ih]
theorem zuk {P : Program} {loc : List Nat} {N : Nat} {Q : Exit → Env → World → Prop} {σ : Env} {w : World} {l : List ROp} (hm : P.follows .mixedOrders = true) (hB : stillB l = true)
  (h : ∀ τ, zmi P w.drew (fun ρ => Q .normal (locs ρ) w.drew) l (zia σ τ)) : W P loc N (.draw l) Q σ w := by
 unfold stillB at hB
 rw [Bool.and_eq_true, List.all_eq_true] at hB
 refine zky hm (l.map fun _ => true) hB.1 (· = w.drew) rfl fun τ => ?_
 rw [zip_true, zvt]
 exact zlg l _ hB.2 (h τ)
section
variable {P : Program} {N : Nums}
theorem zh {w w' : World} (h : Mod w w' zw) {b o : Nat} {cs : List Value} (hr : w.rangeAt b o cs) : w'.rangeAt b o cs := fun j v hj => by
 have h1 := hr j v hj
 rw [h.cell b (o + j) (zfc (by rw [h1]; rfl)) (fun h => h)]
 exact h1
theorem OctG.stay {w w' : World} (h : Mod w w' zw) {G : Nat → Prop} {v : Value} {o : Option (List UInt8)} (hb : OctG w G v o) : OctG w' G v o := by
 cases o with
 | none => exact hb
 | some l =>
  obtain ⟨b, o, c, h1, h2, h3, h4⟩ := hb
  exact ⟨b, o, c, h1, h2, h3, zh h h4⟩
theorem tagV.stay {w w' : World} (h : Mod w w' zw) {G : Nat → Prop} {v : Value} {l : List UInt8} (hb : tagV w G v l) : tagV w' G v l := hb.imp (fun x => ⟨x.1, x.2⟩) fun x => x.stay h
end
inductive Tr where
 | mk (n : Int) (s : List UInt8) (nl : Bool) (l : List Tr) (u : List (Nat × List UInt8))
def UsG (w : World) (G : Nat → Prop) : List (Nat × List UInt8) → List Value → Prop
 | [], cs => cs = []
 | (k, l) :: r, cs => ∃ v rest, cs = .int .u32 k :: v :: rest ∧ tagV w G v l ∧ UsG w G r rest
def RepU (w : World) (G : Nat → Prop) (v : Value) (u : List (Nat × List UInt8)) : Prop :=
 (v = .slice none 0 0 ∧ u = []) ∨ ∃ b c cs, v = .slice (some ⟨b, 0, none⟩) u.length c ∧ u.length ≤ c ∧ (u ≠ [] → G b) ∧ UsG w G u cs ∧ w.rangeAt b 0 cs
mutual
def RepT (w : World) (G : Nat → Prop) : Tr → List Value → Prop
 | .mk n s nl l u, cs => ∃ vs vl vu, cs = [.int .i64 n, vs, .bool nl, vl, vu] ∧ tagV w G vs s ∧
   ((vl = .slice none 0 0 ∧ l = []) ∨ ∃ b c css, vl = .slice (some ⟨b, 0, none⟩) l.length c ∧ l.length ≤ c ∧ (l ≠ [] → G b) ∧ zcu w G l css ∧ w.rangeAt b 0 css.flatten) ∧ RepU w G vu u
def zcu (w : World) (G : Nat → Prop) : List Tr → List (List Value) → Prop
 | [], css => css = []
 | t :: l, css => ∃ c r, css = c :: r ∧ RepT w G t c ∧ zcu w G l r
end
theorem RepT.len {w : World} {G : Nat → Prop} {t : Tr} {cs : List Value} (h : RepT w G t cs) : cs.length = 5 := by
 cases t
 simp only [RepT] at h
 obtain ⟨_, _, _, rfl, _⟩ := h
 rfl
theorem tagV.one {w : World} {G : Nat → Prop} {v : Value} {l : List UInt8} (h : tagV w G v l) : v.oneCell' = true := by
 rcases h with ⟨_, h⟩ | ⟨b, o, c, rfl, _⟩
 ·obtain ⟨_, _, rfl⟩ := h; rfl
 ·rfl
theorem RepT.one {w : World} {G : Nat → Prop} {t : Tr} {cs : List Value} (h : RepT w G t cs) : ∀ c ∈ cs, c.oneCell' = true := by
 cases t
 simp only [RepT] at h
 obtain ⟨vs, vl, vu, rfl, h1, h2, h3⟩ := h
 have e2 : vl.oneCell' = true := by
  rcases h2 with ⟨rfl, _⟩ | ⟨b, c, css, rfl, _⟩ <;> rfl
 have e3 : vu.oneCell' = true := by
  rcases h3 with ⟨rfl, _⟩ | ⟨b, c, css, rfl, _⟩ <;> rfl
 intro c hc
 simp at hc
 rcases hc with rfl | rfl | rfl | rfl | rfl
 ·rfl
 ·exact h1.one
 ·rfl
 ·exact e2
 ·exact e3
theorem UsG.stay {w w' : World} (h : Mod w w' zw) {G : Nat → Prop} : ∀ {u : List (Nat × List UInt8)} {cs : List Value}, UsG w G u cs → UsG w' G u cs
 | [], _, hu => hu
 | (k, l) :: r, _, ⟨v, rest, h1, h2, h3⟩ => ⟨v, rest, h1, h2.stay h, UsG.stay h h3⟩
theorem RepU.stay {w w' : World} (h : Mod w w' zw) {G : Nat → Prop} {v : Value} {u : List (Nat × List UInt8)} (hu : RepU w G v u) : RepU w' G v u :=
 hu.imp id fun ⟨b, c, cs, h1, h2, h3, h4, h5⟩ => ⟨b, c, cs, h1, h2, h3, h4.stay h, zh h h5⟩
mutual
theorem RepT.stay {w w' : World} (h : Mod w w' zw) {G : Nat → Prop} : ∀ (t : Tr) {cs : List Value}, RepT w G t cs → RepT w' G t cs
 | .mk n s nl l u, _, ⟨vs, vl, vu, h1, h2, h3, h4⟩ => ⟨vs, vl, vu, h1, h2.stay h, h3.imp id fun ⟨b, c, css, g1, g2, g3, g4, g5⟩ => ⟨b, c, css, g1, g2, g3, zcu.stay h l g4, zh h g5⟩, h4.stay h⟩
theorem zcu.stay {w w' : World} (h : Mod w w' zw) {G : Nat → Prop} : ∀ (l : List Tr) {css : List (List Value)}, zcu w G l css → zcu w' G l css
 | [], _, hr => hr
 | t :: l, _, ⟨c, r, h1, h2, h3⟩ => ⟨c, r, h1, RepT.stay h t h2, zcu.stay h l h3⟩
end
theorem UsG.mod {w w' : World} {M : Nat → Nat → Prop} {G G' : Nat → Prop} (h : Mod w w' M) (hG : ∀ k, G k → k < w.heap.size ∧ (∀ o, ¬ M k o) ∧ G' k) : ∀ {u : List (Nat × List UInt8)} {cs : List Value}, UsG w G u cs → UsG w' G' u cs
 | [], _, hu => hu
 | (k, l) :: r, _, ⟨v, rest, h1, h2, h3⟩ => ⟨v, rest, h1, h2.mod h hG, UsG.mod h hG h3⟩
theorem RepU.mod {w w' : World} {M : Nat → Nat → Prop} {G G' : Nat → Prop} (h : Mod w w' M) (hG : ∀ k, G k → k < w.heap.size ∧ (∀ o, ¬ M k o) ∧ G' k) {v : Value} {u : List (Nat × List UInt8)} (hu : RepU w G v u) : RepU w' G' v u := by
 rcases hu with hu | ⟨b, c, cs, h1, h2, h3, h4, h5⟩
 ·exact .inl hu
 ·refine .inr ⟨b, c, cs, h1, h2, fun hne => (hG b (h3 hne)).2.2, h4.mod h hG, ?_⟩
  cases u with
  | nil => simp only [UsG] at h4; subst h4; intro j v hj; simp at hj
  | cons x u => obtain ⟨g1, g2, _⟩ := hG b (h3 (by simp)); exact h.rangeAt g1 (fun i _ _ => g2 i) h5
mutual
theorem RepT.mod {w w' : World} {M : Nat → Nat → Prop} {G G' : Nat → Prop} (h : Mod w w' M) (hG : ∀ k, G k → k < w.heap.size ∧ (∀ o, ¬ M k o) ∧ G' k) : ∀ (t : Tr) {cs : List Value}, RepT w G t cs → RepT w' G' t cs
 | .mk n s nl l u, _, ⟨vs, vl, vu, h1, h2, h3, h4⟩ => ⟨vs, vl, vu, h1, h2.mod h hG, h3.imp id fun ⟨b, c, css, g1, g2, g3, g4, g5⟩ => ⟨b, c, css, g1, g2, fun hne => (hG b (g3 hne)).2.2, zcu.mod h hG l g4, by
   cases l with
   | nil => simp only [zcu] at g4; subst g4; intro j v hj; simp at hj
   | cons x l => obtain ⟨k1, k2, _⟩ := hG b (g3 (by simp)); exact h.rangeAt k1 (fun i _ _ => k2 i) g5⟩, h4.mod h hG⟩
theorem zcu.mod {w w' : World} {M : Nat → Nat → Prop} {G G' : Nat → Prop} (h : Mod w w' M) (hG : ∀ k, G k → k < w.heap.size ∧ (∀ o, ¬ M k o) ∧ G' k) : ∀ (l : List Tr) {css : List (List Value)}, zcu w G l css → zcu w' G' l css
 | [], _, hr => hr
 | t :: l, _, ⟨c, r, h1, h2, h3⟩ => ⟨c, r, h1, RepT.mod h hG t h2, zcu.mod h hG l h3⟩
end
theorem zcu.append {w : World} {G : Nat → Prop} : ∀ {l : List Tr} {css : List (List Value)} {l' : List Tr} {css' : List (List Value)}, zcu w G l css → zcu w G l' css' → zcu w G (l ++ l') (css ++ css')
 | [], _, _, _, h, h' => by simp only [zcu] at h; subst h; exact h'
 | t :: l, _, _, _, ⟨c, r, h1, h2, h3⟩, h' => by subst h1; exact ⟨c, r ++ _, rfl, h2, zcu.append h3 h'⟩
theorem zcu.get {w : World} {G : Nat → Prop} : ∀ {l : List Tr} {css : List (List Value)} {j : Nat} {t : Tr}, zcu w G l css → l[j]? = some t → ∃ c, css[j]? = some c ∧ RepT w G t c
 | [], _, j, t, _, hj => by simp at hj
 | t' :: l, _, 0, t, ⟨c, r, h1, h2, h3⟩, hj => by subst h1; simp at hj; subst hj; exact ⟨c, rfl, h2⟩
 | t' :: l, _, j + 1, t, ⟨c, r, h1, h2, h3⟩, hj => by subst h1; simpa using zcu.get h3 (by simpa using hj)
theorem zit {w : World} {b n : Nat} : ∀ {css : List (List Value)} {o j : Nat} {c : List Value}, w.rangeAt b o css.flatten → (∀ x ∈ css, x.length = n) → css[j]? = some c → w.rangeAt b (o + j * n) c
 | [], o, j, c, _, _, hj => by simp at hj
 | x :: css, o, 0, c, h, hn, hj => by
  simp at hj; subst hj
  rw [List.flatten_cons, zx] at h
  simpa using h.1
 | x :: css, o, j + 1, c, h, hn, hj => by
  rw [List.flatten_cons, zx] at h
  have := zit (j := j) h.2 (fun y hy => hn y (by simp [hy])) (by simpa using hj)
  rw [hn x (by simp)] at this
  rwa [show o + n + j * n = o + (j + 1) * n by rw [Nat.succ_mul]; omega] at this
theorem zcu.len5 {w : World} {G : Nat → Prop} : ∀ {l : List Tr} {css : List (List Value)}, zcu w G l css → ∀ x ∈ css, x.length = 5
 | [], _, h, x, hx => by simp only [zcu] at h; subst h; simp at hx
 | t :: l, _, ⟨c, r, h1, h2, h3⟩, x, hx => by
  subst h1
  rcases List.mem_cons.1 hx with rfl | hx
  ·exact h2.len
  ·exact zcu.len5 h3 x hx
structure zct (P : Program) (N : Nums) (tt tg lt lg : TypeId) : Prop where
 tree : SF P tt [(0, 1), (1, 1), (2, 1), (3, 1), (4, 1)] 88 [.int .i64 0, .slice none 0 0, .bool false, .slice none 0 0, .slice none 0 0]
 tag : SF P tg [(0, 1), (1, 1)] 32 [.int .u32 0, .slice none 0 0]
 h0 : HF P tt 0 0
 h1 : HF P tt 1 1
 h2 : HF P tt 2 2
 h3 : HF P tt 3 3
 h4 : HF P tt 4 4
 g0 : HF P tg 0 0
 g1 : HF P tg 1 1
 lt : TI P lt (.slice tt) 1 24 (.slice none 0 0)
 lg : TI P lg (.slice tg) 1 24 (.slice none 0 0)
section
variable {P : Program} {N : Nums}
theorem len_of {t : TypeId} {e : TypeId} {a b : Nat} {z : Value} (h : TI P t (.slice e) a b z) {ty : TypeId} {w : World} {v : Value} {n : Nat} (hv : (v = .slice none 0 0 ∧ n = 0) ∨ ∃ b c, v = .slice (some ⟨b, 0, none⟩) n c) : (Builtin.len_ #[t] ty #[v]).run P w = .ok (.int .i64 n) w := by
 rcases hv with ⟨rfl, rfl⟩ | ⟨b, c, rfl⟩
 ·exact h.run_len
 ·exact h.run_len
theorem zmt {P : Program} {K : Env → World → Prop} : ∀ (a b : List ROp) (ρ : Env) (w : World), runR P a ρ w (fun ρ w => runR P b ρ w K) → runR P (a ++ b) ρ w K
 | [], _, _, _, h => h
 | o :: a, b, ρ, w, h => by
  show zbk P o ρ w fun ρ w => runR P (a ++ b) ρ w K
  exact zka (fun ρ w hk => zmt a b ρ w hk) h
end
section
variable {P : Program} {N : Nums}
end
section
variable {P : Program} {N : Nums}
end
section
variable {P : Program} {N : Nums}
end
def Own (w : World) (lo sz : Nat) (v : Value) (n : Nat) (cs : List Value) : Prop :=
 (v = .slice none 0 0 ∧ n = 0 ∧ cs = []) ∨ ∃ b c, v = .slice (some ⟨b, 0, none⟩) n c ∧ lo ≤ b ∧ b < w.heap.size ∧ n ≤ c ∧ w.there b 0 (c * sz) ∧ w.rangeAt b 0 cs ∧ cs.length = n * sz
def zaj (v : Value) (k : Nat) : Prop := ∀ b o s n c, v = .slice (some ⟨b, o, s⟩) n c → k ≠ b
section
variable {P : Program} {N : Nums}
theorem zgg {st et ty : TypeId} {a b sz by' : Nat} {z z' : Value} {d : TypeDesc} (hS : TI P st (.slice et) a b z') (ht : TI P et d sz by' z) {w : World} {lo n bs cb m : Nat} {v : Value} {cs new : List Value} (ho : Own w lo sz v n cs)
  (hn : w.rangeAt bs 0 new) (hnl : new.length = m * sz) (h1 : ∀ c ∈ new, c.oneCell' = true) (hlo : lo ≤ w.heap.size) (hz : z.cells.size = sz) (hold : ∀ c ∈ cs, c.oneCell' = true)
  (hbig : n + m < 1099511627776) (hby : by' ≤ 128) (hm : 0 < m) :
  ∃ v' w', (Builtin.append_ #[st, st] ty #[v, .slice (some ⟨bs, 0, none⟩) m cb]).run P w = .ok v' w' ∧ Own w' lo sz v' (n + m) (cs ++ new) ∧ Mod w w' (fun i _ => ¬ zaj v i) ∧ v'.oneCell' = true ∧ (∀ k, k < w.heap.size → zaj v k → zaj v' k) := by
 obtain ⟨i, hi, hsz, hbytes, hzero⟩ := ht.info
 subst hsz
 have hsrc : Src P i.size st (.slice (some ⟨bs, 0, none⟩) m cb) m new w := Src.ofSlice w hS.und ⟨bs, 0, none⟩ m cb new hnl (fun j u hj => by rw [Addr.add_mid]; exact hn j u hj) h1
 have fits : ∀ c, c < n + m → Builtin.nextslicecap (n + m) c * i.bytes ≤ 281474976710656 := by
  intro c hc
  have h1 := nextslicecap_le hc
  have h2 : Builtin.nextslicecap (n + m) c * i.bytes ≤ (2 * (n + m)) * 128 := Nat.mul_le_mul h1 (by omega)
  omega
 have grown : ∀ (base : Option Addr) (c : Nat), v = .slice base n c → c < n + m → (Builtin.firstCells i.size n (.slice base n c)).run P w.drew = .ok cs.toArray w.drew → cs.length = n * i.size →
   ∃ v' w', (Builtin.append_ #[st, st] ty #[v, .slice (some ⟨bs, 0, none⟩) m cb]).run P w = .ok v' w' ∧ Own w' lo i.size v' (n + m) (cs ++ new) ∧ Mod w w' (fun i _ => ¬ zaj v i) ∧ v'.oneCell' = true ∧ (∀ k, k < w.heap.size → zaj v k → zaj v' k) := by
  intro base c hv hc hold' hcl
  have hrun := run_append_grow_src (P := P) w st st ty et i z hS.und hi hzero base n c cs hold' (.slice (some ⟨bs, 0, none⟩) m cb) m new hsrc hc (by omega) (fits c hc)
  refine ⟨_, _, by rw [hv]; exact hrun, .inr ⟨w.heap.size, _, rfl, hlo, by rw [zae]; exact Nat.lt_succ_self _, grownCap_ge w (n + m) c et, ?_, ?_, by rw [List.length_append, hcl, hnl, Nat.add_mul]⟩, (Mod.drew w _).trans' (Mod.alloc _ _ _), rfl, fun k hk _ b o s n c e => by injection e with e1 _ _; injection e1 with e2; injection e2 with e3; omega⟩
  ·have ht2 := zbe w.drew ((cs ++ new).toArray ++ Builtin.zeroCells z.cells (grownCap w (n + m) c et - (n + m))) et
   intro j hj
   refine ht2 j ?_
   have hzc : (Builtin.zeroCells z.cells (grownCap w (n + m) c et - (n + m))).size = (grownCap w (n + m) c et - (n + m)) * i.size := by simp [Builtin.zeroCells, hz]
   rw [Array.size_append, hzc, List.size_toArray, List.length_append, hcl, hnl, ← Nat.add_mul, ← Nat.add_mul]
   have hge := grownCap_ge w (n + m) c et
   rwa [show n + m + (grownCap w (n + m) c et - (n + m)) = grownCap w (n + m) c et by omega]
  ·have hr := zu w.drew ((cs ++ new).toArray ++ Builtin.zeroCells z.cells (grownCap w (n + m) c et - (n + m))) et (0, 0)
   exact (zx.1 (by simpa using hr)).1
 rcases ho with ⟨hv, hn0, hcs⟩ | ⟨b, c, hv, hb1, hb2, hnc, hth, hrg, hcl⟩
 ·subst hcs
  exact grown none 0 (by rw [hv, hn0]) (by omega) (by rw [hn0]; rfl) (by rw [hn0]; simp)
 ·by_cases hroom : n + m ≤ c
  ·have hle : n * i.size + new.length ≤ c * i.size := by
    rw [hnl, ← Nat.add_mul]; exact Nat.mul_le_mul_right _ hroom
   have hrun := run_append_room_src (P := P) w st st ty et i hS.und hi b 0 n c (.slice (some ⟨bs, 0, none⟩) m cb) m new hsrc hroom (fun j hj => by
    have := (hth (n * i.size + j) (by omega)).1; simpa [Nat.add_assoc] using this) (fun j hj => by
    have := (hth (n * i.size + j) (by omega)).2; simpa [Nat.add_assoc] using this)
   have ms : Mod w (w.setCells b (0 + n * i.size) new) (rng b (0 + n * i.size) new.length) := Mod.setCells _ _ _ fun _ k h1 h2 => ⟨rfl, h1, h2⟩
   refine ⟨_, _, by rw [hv]; exact hrun, .inr ⟨b, c, rfl, hb1, Nat.lt_of_lt_of_le hb2 ms.size, hroom, ms.there hb2 hth, ?_, by rw [List.length_append, hcl, hnl, Nat.add_mul]⟩, ms.mono (fun k o _ h hn => hn b 0 none n c hv h.1), rfl, fun k hk hn b' o' s' n' c' e => by
    injection e with e1 _ _; injection e1 with e2; injection e2 with e3; subst e3; exact hn b 0 none n c hv⟩
   rw [zx]
   refine ⟨ms.rangeAt hb2 (fun k h1 h2 h => by have := h.2.1; omega) hrg, ?_⟩
   rw [hcl]
   have hset : ∀ (l : List Value) (o : Nat) (w : World), (∀ j, j < l.length → (w.cell? ⟨b, o + j, none⟩).isSome = true) → (w.setCells b o l).rangeAt b o l := by
    intro l o w hl
    have hex : ∃ old : List Value, old.length = l.length ∧ w.rangeAt b o old := by
     refine ⟨(List.range l.length).map fun j => (w.cell? ⟨b, o + j, none⟩).getD undef, by simp, fun j v hj => ?_⟩
     rw [List.getElem?_map] at hj
     cases hr : (List.range l.length)[j]? with
     | none => rw [hr] at hj; simp at hj
     | some k =>
      rw [hr] at hj
      have hk : k = j := by
       have := List.getElem?_eq_some_iff.1 hr
       obtain ⟨h1, h2⟩ := this
       simpa using h2.symm
      subst hk
      have hlt : k < l.length := by have := (List.getElem?_eq_some_iff.1 hr).1; simpa using this
      have hs := hl k hlt
      simp only [Option.map_some, Option.some.injEq] at hj
      cases hc : w.cell? ⟨b, o + k, none⟩ with
      | none => rw [hc] at hs; cases hs
      | some x => rw [hc] at hj; simp at hj; rw [hj]
    obtain ⟨old, ho1, ho2⟩ := hex
    have := zar l o w old ho2 (by omega)
    rwa [List.drop_of_length_le (by omega), List.append_nil] at this
   exact hset new _ w (fun j hj => by have := (hth (n * i.size + j) (by omega)).1; simpa [Nat.add_assoc] using this)
  ·have hfc : (Builtin.firstCells i.size n (.slice (some ⟨b, 0, none⟩) n c)).run P w.drew = .ok cs.toArray w.drew :=
    run_firstCells_some w.drew i.size n ⟨b, 0, none⟩ n c cs hcl (fun j u hj => by rw [Addr.add_mid]; exact hrg j u hj)
   exact grown (some ⟨b, 0, none⟩) c hv (by omega) hfc hcl
end
theorem zoq : ∀ (l : List Value) (k : Nat) (arr : Array Value), k + l.length ≤ arr.size →
  ((l.zipIdx k).foldl (fun cs (x : Value × Nat) => cs.setIfInBounds x.2 x.1) arr).toList = arr.toList.take k ++ l ++ arr.toList.drop (k + l.length)
 | [], k, arr, _ => by simp
 | v :: l, k, arr, h => by
  simp only [List.length_cons] at h
  rw [List.zipIdx_cons, List.foldl_cons, zoq l (k + 1) _ (by simp; omega)]
  simp only [Array.toList_setIfInBounds, List.length_cons]
  have hk : k < arr.toList.length := by simp; omega
  rw [List.set_eq_take_append_cons_drop, if_pos hk]
  have e1 : (arr.toList.take k ++ v :: arr.toList.drop (k + 1)).take (k + 1) = arr.toList.take k ++ [v] := by
   rw [List.take_append, List.length_take, Nat.min_eq_left (by omega)]
   rw [List.take_of_length_le (by simp; omega)]
   simp
  have e2 : (arr.toList.take k ++ v :: arr.toList.drop (k + 1)).drop (k + 1 + l.length) = arr.toList.drop (k + (l.length + 1)) := by
   rw [List.drop_append, List.length_take, Nat.min_eq_left (by omega)]
   rw [List.drop_of_length_le (by simp; omega)]
   simp only [List.nil_append]
   rw [show k + 1 + l.length - k = l.length + 1 by omega, List.drop_succ_cons, List.drop_drop]
   congr 1; omega
  rw [e1, e2]
  simp
section
variable {P : Program}
theorem ziq {st et : TypeId} {a b sz by' : Nat} {z z' : Value} {d : TypeDesc} (hS : TI P st (.slice et) a b z') (ht : TI P et d sz by' z) {w : World} {v : Value} {cs : List Value} (hv : v.cells = cs.toArray) (hl : cs.length = sz) (h0 : 0 < sz) (hsz : sz ≤ 16777216) :
  (Instr.buildSlice st 1 #[(0, v)]).run P w = .ok (.slice (some ⟨w.heap.size, 0, none⟩) 1 1) (w.alloc (.cells cs.toArray et)) := by
 obtain ⟨i, hi, h1, h2, h3⟩ := ht.info
 refine run_buildSlice w st et 1 _ cs.toArray i z hS.und hi h3 (by omega) (by omega) ?_
 have hsz2 : ((Array.range (1 * i.size)).map (z.cells[· % z.cells.size]!)).size = sz := by simp [h1]
 have hv2 : v.cells.size = sz := by rw [hv]; simpa using hl
 simp only [Instr.fill, h1, hv2, Nat.zero_mul, Nat.zero_add]
 rw [if_neg (by simp [h1] at hsz2 ⊢)]
 congr 1
 apply Array.ext'
 have := zoq cs 0 ((Array.range (1 * i.size)).map (z.cells[· % z.cells.size]!)) (by rw [hsz2]; omega)
 rw [h1] at this
 rw [hv]
 have e : cs.toArray.zipIdx = (cs.zipIdx 0).toArray := by simp
 rw [e, List.foldl_toArray]
 rw [this]
 simp
 omega
end
def GN (G : Nat → Prop) (a b : Nat) : Nat → Prop := fun k => G k ∨ (a ≤ k ∧ k < b)
def GX (G : Nat → Prop) (lo : Nat) (w : World) (v : Value) : Nat → Prop := fun k => G k ∨ (lo ≤ k ∧ k < w.heap.size ∧ zaj v k)
theorem zco {b : Nat} : ∀ (vs : List Value) (o : Nat) (w : World), (w.setCells b o vs).heap.size = w.heap.size
 | [], _, _ => rfl
 | v :: vs, o, w => by
  show ((w.setCell ⟨b, o, none⟩ v).setCells b (o + 1) vs).heap.size = _
  rw [zco vs (o + 1)]
  simp [World.setCell]
section
variable {P : Program} {N : Nums}
def zT : List Value := [.int .i64 0, .slice none 0 0, .bool false, .slice none 0 0, .slice none 0 0]
def zU : List Value := [.int .u32 0, .slice none 0 0]
theorem zct.ti {tt tg lt lg : TypeId} (h : zct P N tt tg lt lg) : ∃ fs, TI P tt (.struct fs) 5 88 (.agg zT.toArray) := by
 obtain ⟨fs, h, _⟩ := h.tree.out
 exact ⟨fs, h⟩
theorem zct.tu {tt tg lt lg : TypeId} (h : zct P N tt tg lt lg) : ∃ fs, TI P tg (.struct fs) 2 32 (.agg zU.toArray) := by
 obtain ⟨fs, h, _⟩ := h.tag.out
 exact ⟨fs, h⟩
theorem zoo {t : TypeId} {by' : Nat} {z : List Value} {fs : Array Field} (h : TI P t (.struct fs) z.length by' (.agg z.toArray)) (w : World) (cs : List Value) (hl : cs.length = z.length) (h1 : ∀ c ∈ cs, c.oneCell' = true) :
  ∃ w2, (Instr.storeAt t (.pointer (some ⟨w.heap.size, 0, none⟩)) (.agg cs.toArray)).run P (w.alloc (.cells (Value.cells (.agg z.toArray)) t)) = .ok () w2 ∧ Mod w w2 zw ∧ w2.heap.size = w.heap.size + 1 ∧ w2.rangeAt w.heap.size 0 cs ∧ w2.there w.heap.size 0 z.length := by
 obtain ⟨w1, hw1⟩ : ∃ w1, w1 = w.alloc (.cells (Value.cells (.agg z.toArray)) t) := ⟨_, rfl⟩
 have m1 : Mod w w1 zw := by rw [hw1]; exact Mod.alloc _ _ _
 have s1 : w1.heap.size = w.heap.size + 1 := by rw [hw1]; exact zae _ _
 have r1 : w1.rangeAt w.heap.size 0 z := by rw [hw1]; exact zu w z.toArray t (0, 0)
 have t1 : w1.there w.heap.size 0 z.length := by
  have := zbe w z.toArray t
  rw [hw1]
  have e : z.toArray.size = z.length := by simp
  rw [e] at this; exact this
 rw [← hw1]
 refine ⟨_, h.run_store (w := w1) (b := w.heap.size) (o := 0) (v := .agg cs.toArray) (cs := cs) rfl hl t1 h1, ?_, ?_, ?_, ?_⟩
 ·exact m1.fresh (Mod.setCells cs 0 _ fun _ _ _ _ => rfl : Mod w1 _ (blk w.heap.size)) fun k o e => by have : k = w.heap.size := e; omega
 ·rw [zco, s1]
 ·have := zar cs 0 w1 _ r1 (by omega)
  rwa [List.drop_of_length_le (by omega), List.append_nil] at this
 ·exact (Mod.setCells cs 0 _ fun _ _ _ _ => rfl : Mod w1 _ (blk w.heap.size)).there (by omega) t1
theorem Own.stay {w w' : World} {M : Nat → Nat → Prop} (h : Mod w w' M) {lo sz n : Nat} {v : Value} {cs : List Value} (hM : ∀ k o, ¬ zaj v k → ¬ M k o) (ho : Own w lo sz v n cs) : Own w' lo sz v n cs := by
 rcases ho with ho | ⟨b, c, e, h1, h2, h3, h4, h5, h6⟩
 ·exact .inl ho
 ·have hb : ¬ zaj v b := fun hn => hn b 0 none n c e rfl
  exact .inr ⟨b, c, e, h1, Nat.lt_of_lt_of_le h2 h.size, h3, h.there h2 h4, h.rangeAt h2 (fun i _ _ => hM b i hb) h5, h6⟩
theorem Own.blk {w : World} {lo sz n : Nat} {v : Value} {cs : List Value} (ho : Own w lo sz v n cs) {k : Nat} (hk : ¬ zaj v k) : lo ≤ k ∧ k < w.heap.size := by
 rcases ho with ⟨e, _, _⟩ | ⟨b, c, e, h1, h2, _⟩
 ·exact absurd (fun b o s n c e' => by rw [e] at e'; cases e') hk
 ·by_cases hkb : k = b
  ·subst hkb; exact ⟨h1, h2⟩
  ·refine absurd (fun b' o' s' n' c' e' => ?_) hk
   rw [e] at e'
   injection e' with e1 _ _; injection e1 with e2; injection e2 with e3
   intro hh; exact hkb (hh.trans e3.symm)
theorem Own.one {w : World} {lo sz n : Nat} {v : Value} {cs : List Value} (ho : Own w lo sz v n cs) : v.oneCell' = true := by
 rcases ho with ⟨rfl, _, _⟩ | ⟨b, c, rfl, _⟩ <;> rfl
theorem zni {w w6 w7 w8 w9 : World} {G : Nat → Prop} {lo : Nat} {v v' : Value} {b3 a : Nat}
  (hG : ∀ k, G k → k < b3) (hb3 : b3 < lo) (hlo : lo ≤ w.heap.size) (m6 : Mod w w6 zw) (ha : w.heap.size ≤ a) (m7 : Mod w6 w7 zw) (m8 : Mod w7 w8 fun i _ => ¬ zaj v i) (m9 : Mod w8 w9 (fun k _ => k = b3)) (hv : ∀ k, ¬ zaj v k → lo ≤ k ∧ k < w.heap.size) (hv' : ∀ k, k < w7.heap.size → zaj v k → zaj v' k) :
  Mod w w9 (fun k _ => ¬ zaj v k ∨ k = b3) ∧ (∀ k, GX G lo w v k → k < w.heap.size ∧ (∀ _o : Nat, ¬ (¬ zaj v k ∨ k = b3)) ∧ GX G lo w9 v' k) ∧ Mod w6 w9 (fun k _ => ¬ zaj v k ∨ k = b3) ∧ (∀ k, GN G a w6.heap.size k → k < w6.heap.size ∧ (∀ _o : Nat, ¬ (¬ zaj v k ∨ k = b3)) ∧ GX G lo w9 v' k) := by
 have s6 := m6.size
 have s7 := m7.size
 have s8 := m8.size
 have s9 := m9.size
 have m69 : Mod w6 w9 (fun k _ => ¬ zaj v k ∨ k = b3) := ((m7.mono fun _ _ _ h => h.elim).trans' (m8.mono fun _ _ _ h => .inl h)).trans' (m9.mono fun _ _ _ h => .inr h)
 have nb : ∀ k, k < lo → zaj v k := fun k hk => Classical.byContradiction fun h => by have := (hv k h).1; omega
 have nb2 : ∀ k, w.heap.size ≤ k → zaj v k := fun k hk => Classical.byContradiction fun h => by have := (hv k h).2; omega
 refine ⟨(m6.mono fun _ _ _ h => h.elim).trans' m69, fun k hk => ?_, m69, fun k hk => ?_⟩
 ·rcases hk with hk | ⟨h1, h2, h3⟩
  ·have := hG k hk
   exact ⟨by omega, fun _ h => h.elim (fun h => h (nb k (by omega))) fun h => by omega, .inl hk⟩
  ·exact ⟨h2, fun _ h => h.elim (fun h => h h3) fun h => by omega, .inr ⟨h1, by omega, hv' k (by omega) h3⟩⟩
 ·rcases hk with hk | ⟨h1, h2⟩
  ·have := hG k hk
   exact ⟨by omega, fun _ h => h.elim (fun h => h (nb k (by omega))) fun h => by omega, .inl hk⟩
  ·exact ⟨h2, fun _ h => h.elim (fun h => h (nb2 k (by omega))) fun h => by omega, .inr ⟨by omega, by omega, hv' k (by omega) (nb2 k (by omega))⟩⟩
end
section
variable {P : Program} {N : Nums}
def GT (P : Program) (N : Nums) (t : Tr) : Prop := ∀ (w : World) (G : Nat → Prop) (cs : List Value), (∀ k, G k → k < w.heap.size) → RepT w G t cs →
 Call P N.zrr #[.agg cs.toArray] w fun v w' => ∃ cs', v = .agg cs'.toArray ∧ RepT w' (GN G w.heap.size w'.heap.size) t cs' ∧ Mod w w' zw
structure G1 (w3 : World) (b1 bR b3 : Nat) (n vs nl vl : Value) (l : List Tr) (G : Nat → Prop) (j : Nat) (σ : Env) (w : World) : Prop where
 f1 : σ 1 = .pointer (some ⟨b1, 0, none⟩)
 f2 : σ 2 = .pointer (some ⟨bR, 0, none⟩)
 f3 : σ 3 = .pointer (some ⟨b3, 0, none⟩)
 f4 : σ 4 = vl
 f5 : σ 5 = .int .i64 l.length
 f6 : σ 6 = .int .i64 j
 le : j ≤ l.length
 mod : Mod w3 w (blk b3)
 ex : ∃ v css, w.rangeAt b3 0 [n, vs, nl, v, .slice none 0 0] ∧ w.there b3 0 5 ∧ Own w w3.heap.size 5 v j css.flatten ∧ zcu w (GX G w3.heap.size w v) (l.take j) css
def cGotL (N : Nums) : C :=
 .seq (.ops [⟨some 0, .indexAddr N.zbh (V 4) (V 6), 0, none, []⟩, ⟨some 1, .load N.zaa (T 0), 0, none, []⟩, ⟨some (8 + 100), .alloc N.zaa, 0, none, []⟩, ⟨none, .store N.zaa (V 8) (T 1), 0, none, []⟩])
  (.draw [⟨some 0, .fieldAddr N.zb (V 3) 3, 0, none, []⟩, ⟨some 1, .load N.zj (T 0), 0, none, [0]⟩, ⟨some 2, .load N.zaa (V 8), 0, none, []⟩,
   ⟨some 3, .call ⟨.value (.func N.zrr), #[T 2], #[N.zaa]⟩, N.zb, none, [2]⟩, ⟨some 4, .buildSlice N.zj 1 #[(0, T 3)], 0, none, [3]⟩,
   ⟨some 5, .call ⟨.builtin .append, #[T 1, T 4], #[N.zj, N.zj]⟩, N.zj, none, [1, 4, 3]⟩,
   ⟨some 6, .fieldAddr N.zb (V 3) 3, 0, none, [0, 1, 2, 3, 4, 5]⟩, ⟨none, .store N.zj (T 6) (T 5), 0, none, [6, 5, 5, 0, 1, 2, 3, 4, 5]⟩])
theorem zcu.ones {w : World} {G : Nat → Prop} : ∀ {l : List Tr} {css : List (List Value)}, zcu w G l css → ∀ c ∈ css.flatten, c.oneCell' = true
 | [], _, h, c, hc => by simp only [zcu] at h; subst h; simp at hc
 | t :: l, _, ⟨c0, r, h1, h2, h3⟩, c, hc => by
  subst h1
  rw [List.flatten_cons, List.mem_append] at hc
  rcases hc with hc | hc
  ·exact h2.one c hc
  ·exact zcu.ones h3 c hc
theorem got_elem (B : Base P N) (F : Fns P N) (hN : N.zrr ≠ 0) (hS : zct P N N.zb N.zy N.zj N.zi) (hI : zct P N N.zaa N.zcr N.zbh N.zbt) {loc : List Nat} {N' : Nat} {Q : Exit → Env → World → Prop}
  {w3 w : World} {b1 bR b3 : Nat} {n vs nl vl : Value} {l : List Tr} {G : Nat → Prop} {j : Nat} {σ : Env} (hj : j < l.length) (hll : l.length < 1099511627776) (hb3 : b3 < w3.heap.size) (hG : ∀ k, G k → k < b3)
  (h : G1 w3 b1 bR b3 n vs nl vl l G j σ w) (hsrc : ∃ b c css, vl = .slice (some ⟨b, 0, none⟩) l.length c ∧ G b ∧ zcu w3 G l css ∧ w3.rangeAt b 0 css.flatten) (ih : ∀ x ∈ l, GT P N x)
  (hQ : ∀ σ' w', σ' 6 = .int .i64 j → G1 w3 b1 bR b3 n vs nl vl l G (j + 1) (upd σ' 6 (.int .i64 ((j + 1 : Nat) : Int))) w' → Q .normal σ' w') :
  W P loc N' (cGotL N) Q σ w := by
 obtain ⟨f1, f2, f3, f4, f5, f6, _, mod, v, css, hr, ht, ho, hrep⟩ := h
 obtain ⟨bl, c, css0, rfl, hGb, hrs, hrg⟩ := hsrc
 obtain ⟨fs, hI1⟩ := hI.ti
 obtain ⟨fs', hS1⟩ := hS.ti
 have hx : l[j]? = some l[j] := List.getElem?_eq_getElem hj
 have hmG : ∀ k, G k → k < w3.heap.size ∧ (∀ o, ¬ blk b3 k o) ∧ G k := fun k hk => ⟨by have := hG k hk; omega, fun o e => by have : k = b3 := e; have := hG k hk; omega, hk⟩
 have hrs' := zcu.mod mod hmG l hrs
 have hrg' : w.rangeAt bl 0 css0.flatten := mod.rangeAt (hmG bl hGb).1 (fun i _ _ => (hmG bl hGb).2.1 i) hrg
 obtain ⟨cs, hcs, hxr⟩ := hrs'.get hx
 have hxg := zit hrg' hrs'.len5 hcs
 rw [Nat.zero_add] at hxg
 have hcl : cs.length = 5 := hxr.len
 have hld := hI1.run_load (w := w) (b := bl) (o := j * 5) hxg hcl (fun h => by cases h)
 have hlv : ∀ (f : Array Field) (x : List Value), ldv (.struct f) x = .agg x.toArray := fun _ _ => rfl
 have hsz := mod.size
 obtain ⟨w5, hst, m5, s5, r5, t5⟩ := zoo (z := zT) hI1 w cs (by rw [hcl]; rfl) hxr.one
 unfold cGotL
 refine zf fun K hK => zn fun τ => ?_
 simp +decide (disch := omega) only [bK, bE, Nat.reduceBeqDiff, BEq.rfl, Nat.reduceAdd, Nat.zero_add, f4, f6, zbf hI.lt hI1, hld, hlv, hI1.run_alloc, hst]
 refine hK _ _ (zd fun σ5 hσ => ?_)
 have g1 := hσ 1
 have g2 := hσ 2
 have g3 := hσ 3
 have g4 := hσ 4
 have g5 := hσ 5
 have g6 := hσ 6
 have g8 := hσ 8
 simp +decide only [bE, Nat.reduceBeqDiff, BEq.rfl, Nat.reduceAdd, f1, f2, f3, f4, f5, f6] at g1 g2 g3 g4 g5 g6 g8
 clear hσ hK K hst hld
 have md : Mod w w5.drew zw := m5.trans' (Mod.drew _ _)
 have hv : ∀ k, ¬ zaj v k → w3.heap.size ≤ k ∧ k < w.heap.size := fun k hk => ho.blk hk
 have hone := ho.one
 have cell3 : w.cell? ⟨b3, 3, none⟩ = some v := hr 3 v rfl
 refine zky B.mixed [true, true, true, false, false, false, false, false] (by kernel_rfl) (fun w' => w'.cell? ⟨b3, 3, none⟩ = some v ∧ w'.rangeAt w.heap.size 0 cs) ?_ fun τ => ?_
 ·refine ⟨?_, zh (Mod.drew _ _) r5⟩
  rw [md.cell _ _ (by omega) (fun h => h)]; exact cell3
 have e3 : zia σ5 τ 103 = .pointer (some ⟨b3, 0, none⟩) := by rw [← g3]; exact envOf_var σ5 τ 3
 have e8 : zia σ5 τ 108 = .pointer (some ⟨w.heap.size, 0, none⟩) := by rw [← g8]; exact envOf_var σ5 τ 8
 refine zp (.pointer (some ⟨b3, 3, none⟩)) (fun w' _ => zap (by
  simp +decide only [ev_tmp, e3, hS.h3.run])) rfl ?_
 refine zp v (fun w' hw => zap (by
  simp +decide only [bE, BEq.rfl, ev_tmp, hS.lt.run_load1 rfl, hw.1, ldc_some])) rfl ?_
 refine zp (.agg cs.toArray) (fun w' hw => zap (by
  have := hI1.run_load (w := w') (b := w.heap.size) (o := 0) hw.2 hcl (fun h => by cases h)
  simp +decide only [bE, Nat.reduceBeqDiff, Nat.reduceAdd, ev_tmp, g8, this, hlv])) rfl ?_
 simp only [zeb, zer, List.zip_cons_cons, List.zip_nil_right, List.zipWith_cons_cons, List.zipWith_nil_right, List.filter, Bool.not_true, Bool.not_false, List.map, zgq]
 rw [zbb (F.got hN).has]
 simp +decide only [bK, bE, Nat.reduceBeqDiff, BEq.rfl, Nat.reduceAdd]
 have hxr5 : RepT w5.drew G l[j] cs := RepT.stay md _ hxr
 refine (ih l[j] (List.getElem_mem hj) w5.drew G cs (fun k hk => ?_) hxr5).mono ?_
 ·have := hG k hk
  show k < w5.heap.size
  omega
 rintro _ w6 ⟨cs', rfl, hrep6, m6⟩
 have s6 := m6.size
 have s6' : w5.heap.size ≤ w6.heap.size := s6
 have m06 : Mod w w6 zw := md.trans' m6
 have keep : ∀ {w' : World}, Mod w w' zw → w'.cell? ⟨b3, 3, none⟩ = some v ∧ w'.rangeAt w.heap.size 0 cs → True := fun _ _ => trivial
 clear keep
 have c6 : w6.cell? ⟨b3, 3, none⟩ = some v ∧ w6.rangeAt w.heap.size 0 cs :=
  ⟨by rw [m06.cell _ _ (by omega) (fun h => h)]; exact cell3, zh m6 (zh (Mod.drew _ _) r5)⟩
 refine ⟨c6, ?_⟩
 have hcl' : cs'.length = 5 := hrep6.len
 have hbs := ziq (w := w6) (v := .agg cs'.toArray) (cs := cs') hS.lt hS1 rfl hcl' (by decide) (by decide)
 have e9 : ∀ ρ : Env, (#[(0, T 3)] : Array (Nat × Operand)).map (fun p => (p.1, ev ρ p.2)) = #[(0, ρ 3)] := fun ρ => by simp
 simp +decide only [bK, bE, BEq.rfl, e9, hbs]
 obtain ⟨w7, hw7⟩ : ∃ w7, w7 = w6.alloc (.cells cs'.toArray N.zb) := ⟨_, rfl⟩
 have m7 : Mod w6 w7 zw := by rw [hw7]; exact Mod.alloc _ _ _
 have s7 : w7.heap.size = w6.heap.size + 1 := by rw [hw7]; exact zae _ _
 have r7 : w7.rangeAt w6.heap.size 0 cs' := by rw [hw7]; exact zu w6 _ _ _
 rw [← hw7]
 clear hw7 hbs
 have m07 : Mod w w7 zw := m06.trans' m7
 have c7 : w7.cell? ⟨b3, 3, none⟩ = some v ∧ w7.rangeAt w.heap.size 0 cs :=
  ⟨by rw [m07.cell _ _ (by omega) (fun h => h)]; exact cell3, zh m7 c6.2⟩
 refine ⟨c7, ?_⟩
 have ho7 : Own w7 w3.heap.size 5 v j css.flatten := ho.stay m07 fun _ _ _ h => h
 obtain ⟨v', w8, happ, ho8, m8, hone', hnb⟩ := zgg (P := P) (ty := N.zj) (m := 1) (cb := 1) hS.lt hS1 ho7 r7 (by rw [hcl']) hrep6.one (by omega) rfl (zcu.ones hrep) (by omega) (by decide) (by decide)
 simp +decide only [bK, happ]
 clear happ
 have nb3 : ¬ ¬ zaj v b3 := fun h => by have := (hv b3 h).1; omega
 have nb8 : ¬ ¬ zaj v w.heap.size := fun h => by have := (hv _ h).2; omega
 have c8 : w8.cell? ⟨b3, 3, none⟩ = some v ∧ w8.rangeAt w.heap.size 0 cs :=
  ⟨by rw [m8.cell _ _ (by omega) nb3]; exact c7.1, m8.rangeAt (by omega) (fun _ _ _ => nb8) c7.2⟩
 refine ⟨c8, ?_⟩
 simp +decide only [bK, Nat.zero_add, g3, hS.h3.run]
 refine ⟨c8, ?_⟩
 have s8 := m8.size
 have h8 : w8.there b3 0 5 := m8.there (by omega) (m07.there (by omega) ht)
 have t8 : w8.there b3 3 1 := fun i hi => by
  have := h8 (3 + i) (by omega)
  rwa [show 0 + (3 + i) = 3 + i by omega] at this
 have hsto := hS.lt.run_store1 (w := w8) (b := b3) (o := 3) (v := v') hone' t8
 simp +decide only [bK, hsto]
 obtain ⟨w9, hw9⟩ : ∃ w9, w9 = w8.setCell ⟨b3, 3, none⟩ v' := ⟨_, rfl⟩
 have m9 : Mod w8 w9 fun k _ => k = b3 := by rw [hw9]; exact Mod.setCell fun _ => rfl
 have s9 : w9.heap.size = w8.heap.size := by rw [hw9]; simp [World.setCell]
 have r8 : w8.rangeAt b3 0 [n, vs, nl, v, .slice none 0 0] := m8.rangeAt (by omega) (fun _ _ _ => nb3) (zh m07 hr)
 have r9 : w9.rangeAt b3 0 [n, vs, nl, v', .slice none 0 0] := by
  have q := zar [v'] 3 w8 [v, .slice none 0 0] ((zx (cs := [n, vs, nl])).1 r8).2 (by simp)
  rw [hw9]
  refine (zx (cs := [n, vs, nl])).2 ⟨?_, q⟩
  exact (Mod.setCell (M := rng b3 3 1) fun _ => ⟨rfl, Nat.le_refl _, by omega⟩ : Mod w8 _ (rng b3 3 1)).rangeAt (by omega) (fun i h1 h2 h => by have := h.2.1; simp at h2; omega) ((zx (cs := [n, vs, nl])).1 r8).1
 rw [← hw9]
 clear hw9 hsto
 obtain ⟨q1, q2, q3, q4⟩ := zni (w := w) (w6 := w6) (w7 := w7) (w8 := w8) (w9 := w9) (G := G) (lo := w3.heap.size) (v := v) (v' := v') (b3 := b3) (a := w5.heap.size) hG hb3 hsz m06 (by omega) m7 m8 m9 hv hnb
 refine zd (K := fun σ' w' => Q .normal σ' w') fun σ9 hσ => hQ _ _ ?_ ?_
 ·have := hσ 6
  simp +decide only [bE, Nat.reduceBeqDiff, Nat.reduceAdd, g6] at this
  exact this
 ·have p1 := hσ 1
  have p2 := hσ 2
  have p3 := hσ 3
  have p4 := hσ 4
  have p5 := hσ 5
  simp +decide only [bE, Nat.reduceBeqDiff, Nat.reduceAdd, g1, g2, g3, g4, g5] at p1 p2 p3 p4 p5
  refine ⟨by rw [zq (by decide)]; exact p1, by rw [zq (by decide)]; exact p2, by rw [zq (by decide)]; exact p3, by rw [zq (by decide)]; exact p4, by rw [zq (by decide)]; exact p5, upd_same _ _ _, by omega, ?_, v', css ++ [cs'], r9, m9.there (by omega) h8, ?_, ?_⟩
  ·exact mod.trans q1 fun k _ hk h => h.elim id fun h => h.elim (fun h => by have := (hv k h).1; omega) id
  ·have := ho8.stay m9 (fun k o h e => by have : k = b3 := e; have := ho8.blk h; omega)
   simpa using this
  ·rw [List.take_add_one, hx]
   exact (zcu.mod q1 q2 _ hrep).append ⟨cs', [], rfl, RepT.mod q3 q4 _ hrep6, rfl⟩
end
section
variable {P : Program} {N : Nums}
theorem UsG.append {w : World} {G : Nat → Prop} : ∀ {l : List (Nat × List UInt8)} {cs : List Value} {l' : List (Nat × List UInt8)} {cs' : List Value}, UsG w G l cs → UsG w G l' cs' → UsG w G (l ++ l') (cs ++ cs')
 | [], _, _, _, h, h' => by simp only [UsG] at h; subst h; exact h'
 | (k, x) :: l, _, _, _, ⟨v, r, h1, h2, h3⟩, h' => by subst h1; exact ⟨v, r ++ _, rfl, h2, UsG.append h3 h'⟩
theorem UsG.ones {w : World} {G : Nat → Prop} : ∀ {l : List (Nat × List UInt8)} {cs : List Value}, UsG w G l cs → ∀ c ∈ cs, c.oneCell' = true
 | [], _, h, c, hc => by simp only [UsG] at h; subst h; simp at hc
 | (k, x) :: l, _, ⟨v, r, h1, h2, h3⟩, c, hc => by
  subst h1
  rcases List.mem_cons.1 hc with rfl | hc
  ·rfl
  ·rcases List.mem_cons.1 hc with rfl | hc
   ·exact h2.one
   ·exact UsG.ones h3 c hc
structure G2 (w4 : World) (bR b3 : Nat) (n vs nl v1 vu : Value) (u : List (Nat × List UInt8)) (G : Nat → Prop) (j : Nat) (σ : Env) (w : World) : Prop where
 f2 : σ 2 = .pointer (some ⟨bR, 0, none⟩)
 f3 : σ 3 = .pointer (some ⟨b3, 0, none⟩)
 f9 : σ 9 = vu
 f10 : σ 10 = .int .i64 u.length
 f11 : σ 11 = .int .i64 j
 le : j ≤ u.length
 mod : Mod w4 w (blk b3)
 ex : ∃ v cs, w.rangeAt b3 0 [n, vs, nl, v1, v] ∧ w.there b3 0 5 ∧ Own w w4.heap.size 2 v j cs ∧ UsG w (GX G w4.heap.size w v) (u.take j) cs
def cGotU (N : Nums) : C :=
 .seq (.ops [⟨some 0, .indexAddr N.zbt (V 9) (V 11), 0, none, []⟩, ⟨some 1, .load N.zcr (T 0), 0, none, []⟩, ⟨some (13 + 100), .alloc N.zcr, 0, none, []⟩, ⟨none, .store N.zcr (V 13) (T 1), 0, none, []⟩])
  (.ops [⟨some 0, .fieldAddr N.zb (V 3) 4, 0, none, []⟩, ⟨some 1, .load N.zi (T 0), 0, none, []⟩, ⟨some 2, .fieldAddr N.zcr (V 13) 0, 0, none, []⟩, ⟨some 3, .load N.zc (T 2), 0, none, []⟩,
   ⟨some 4, .fieldAddr N.zcr (V 13) 1, 0, none, []⟩, ⟨some 5, .load N.za (T 4), 0, none, []⟩, ⟨some 6, .build N.zy #[(0, T 3), (1, T 5)], 0, none, []⟩, ⟨some 7, .buildSlice N.zi 1 #[(0, T 6)], 0, none, []⟩,
   ⟨some 8, .call ⟨.builtin .append, #[T 1, T 7], #[N.zi, N.zi]⟩, N.zi, none, []⟩,
   ⟨some 9, .fieldAddr N.zb (V 3) 4, 0, none, []⟩, ⟨none, .store N.zi (T 9) (T 8), 0, none, []⟩])
theorem UsG.get5 {w : World} {G : Nat → Prop} : ∀ {u : List (Nat × List UInt8)} {cs : List Value} {j : Nat} {x : Nat × List UInt8}, UsG w G u cs → u[j]? = some x → ∃ v, cs[j * 2]? = some (.int .u32 x.1) ∧ cs[j * 2 + 1]? = some v ∧ tagV w G v x.2
 | [], _, j, x, _, hj => by simp at hj
 | (k, l) :: u, _, 0, x, ⟨v, r, h1, h2, h3⟩, hj => by subst h1; simp at hj; subst hj; exact ⟨v, rfl, rfl, h2⟩
 | (k, l) :: u, _, j + 1, x, ⟨v, r, h1, h2, h3⟩, hj => by
  subst h1
  obtain ⟨v', g1, g2, g3⟩ := UsG.get5 h3 (by simpa using hj)
  refine ⟨v', ?_, ?_, g3⟩
  ·rw [show (j + 1) * 2 = j * 2 + 1 + 1 by omega]; simpa using g1
  ·rw [show (j + 1) * 2 + 1 = j * 2 + 1 + 1 + 1 by omega]; simpa using g2
theorem tagBuild {tt tg lt lg : TypeId} (h : zct P N tt tg lt lg) (w : World) (k : Nat) {v : Value} (hv : v.oneCell' = true) : (Instr.build tg #[(0, .int .u32 k), (1, v)]).run P w = .ok (.agg #[.int .u32 k, v]) w :=
 h.tag.run_build (by simp [Instr.fill, zcn hv, zcn (show (Value.int .u32 k).oneCell' = true from rfl)])
theorem got_tag (B : Base P N) (hS : zct P N N.zb N.zy N.zj N.zi) (hI : zct P N N.zaa N.zcr N.zbh N.zbt) {loc : List Nat} {N' : Nat} {Q : Exit → Env → World → Prop}
  {w4 w : World} {bR b3 : Nat} {n vs nl v1 vu : Value} {u : List (Nat × List UInt8)} {G : Nat → Prop} {j : Nat} {σ : Env} (hj : j < u.length) (hll : u.length < 1099511627776) (hb3 : b3 < w4.heap.size) (hG : ∀ k, G k → k < b3)
  (h : G2 w4 bR b3 n vs nl v1 vu u G j σ w) (hsrc : RepU w4 G vu u)
  (hQ : ∀ σ' w', σ' 11 = .int .i64 j → G2 w4 bR b3 n vs nl v1 vu u G (j + 1) (upd σ' 11 (.int .i64 ((j + 1 : Nat) : Int))) w' → Q .normal σ' w') :
  W P loc N' (cGotU N) Q σ w := by
 obtain ⟨f2, f3, f9, f10, f11, _, mod, v, cs0, hr, ht, ho, hrep⟩ := h
 have hx : u[j]? = some u[j] := List.getElem?_eq_getElem hj
 obtain ⟨fs, hI1⟩ := hI.tu
 obtain ⟨fs', hS1⟩ := hS.tu
 have hmG : ∀ k, G k → k < w4.heap.size ∧ (∀ o, ¬ blk b3 k o) ∧ G k := fun k hk => ⟨by have := hG k hk; omega, fun o e => by have : k = b3 := e; have := hG k hk; omega, hk⟩
 have hsrc' := hsrc.mod mod hmG
 rcases hsrc' with ⟨_, h0⟩ | ⟨bl, c, cs, rfl, _, _, hus, hrg⟩
 ·rw [h0] at hj; simp at hj
 obtain ⟨tv, hk1, hk2, htv⟩ := hus.get5 hx
 have hxg : w.rangeAt bl (j * 2) [.int .u32 (u[j]).1, tv] := by
  have a := hrg _ _ hk1
  have b := hrg _ _ hk2
  rw [Nat.zero_add] at a b
  intro i x hi
  match i, hi with
  | 0, hi => simp at hi; subst hi; exact a
  | 1, hi => simp at hi; subst hi; exact b
  | i + 2, hi => simp at hi
 have hld := hI1.run_load (w := w) (b := bl) (o := j * 2) hxg rfl (fun h => by cases h)
 have hlv : ∀ (f : Array Field) (x : List Value), ldv (.struct f) x = .agg x.toArray := fun _ _ => rfl
 have hsz := mod.size
 have hone2 : ∀ c ∈ [Value.int .u32 (u[j]).1, tv], c.oneCell' = true := fun c hc => by
  simp at hc; rcases hc with rfl | rfl
  ·rfl
  ·exact htv.one
 obtain ⟨w5, hst, m5, s5, r5, t5⟩ := zoo (z := zU) hI1 w [.int .u32 (u[j]).1, tv] rfl hone2
 unfold cGotU
 refine zf fun K hK => zn fun τ => ?_
 simp +decide (disch := omega) only [bK, bE, Nat.reduceBeqDiff, BEq.rfl, Nat.reduceAdd, Nat.zero_add, f9, f11, zbf hI.lg hI1, hld, hlv, hI1.run_alloc, hst]
 refine hK _ _ (zd fun σ5 hσ => ?_)
 have g2 := hσ 2
 have g3 := hσ 3
 have g9 := hσ 9
 have g10 := hσ 10
 have g11 := hσ 11
 have g13 := hσ 13
 simp +decide only [bE, Nat.reduceBeqDiff, BEq.rfl, Nat.reduceAdd, f2, f3, f9, f10, f11] at g2 g3 g9 g10 g11 g13
 clear hσ hK K hst hld
 have hv : ∀ k, ¬ zaj v k → w4.heap.size ≤ k ∧ k < w.heap.size := fun k hk => ho.blk hk
 have cell4 : w5.cell? ⟨b3, 4, none⟩ = some v := by rw [m5.cell _ _ (by omega) (fun h => h)]; exact hr 4 v rfl
 have d0 : w5.cell? ⟨w.heap.size, 0, none⟩ = some (.int .u32 (u[j]).1) := r5 0 _ rfl
 have d1 : w5.cell? ⟨w.heap.size, 1, none⟩ = some tv := r5 1 _ rfl
 have hbu := tagBuild hS w5 (u[j]).1 htv.one
 have hbs := ziq (w := w5) (v := .agg #[.int .u32 (u[j]).1, tv]) (cs := [.int .u32 (u[j]).1, tv]) hS.lg hS1 rfl rfl (by decide) (by decide)
 have e6 : ∀ ρ : Env, (#[(0, T 3), (1, T 5)] : Array (Nat × Operand)).map (fun p => (p.1, ev ρ p.2)) = #[(0, ρ 3), (1, ρ 5)] := fun ρ => by simp
 have e7 : ∀ ρ : Env, (#[(0, T 6)] : Array (Nat × Operand)).map (fun p => (p.1, ev ρ p.2)) = #[(0, ρ 6)] := fun ρ => by simp
 refine zn fun τ => ?_
 simp +decide (disch := omega) only [bK, bE, Nat.reduceBeqDiff, BEq.rfl, Nat.reduceAdd, Nat.add_zero, Nat.zero_add, g3, g13, hS.h4.run, hS.lg.run_load1 rfl, cell4, hI.g0.run, hI.g1.run, B.uint32.run_load1 rfl, B.Lu8.run_load1 rfl, d0, d1, e6, e7, hbu, hbs]
 obtain ⟨w7, hw7⟩ : ∃ w7, w7 = w5.alloc (.cells [Value.int .u32 (u[j]).1, tv].toArray N.zy) := ⟨_, rfl⟩
 have m7 : Mod w5 w7 zw := by rw [hw7]; exact Mod.alloc _ _ _
 have s7 : w7.heap.size = w5.heap.size + 1 := by rw [hw7]; exact zae _ _
 have r7 : w7.rangeAt w5.heap.size 0 [.int .u32 (u[j]).1, tv] := by rw [hw7]; exact zu w5 _ _ _
 rw [← hw7]
 clear hw7 hbs
 have m07 : Mod w w7 zw := m5.trans' m7
 have ho7 : Own w7 w4.heap.size 2 v j cs0 := ho.stay m07 fun _ _ _ h => h
 obtain ⟨v', w8, happ, ho8, m8, hone', hnb⟩ := zgg (P := P) (ty := N.zi) (m := 1) (cb := 1) hS.lg hS1 ho7 r7 rfl hone2 (by omega) rfl hrep.ones (by omega) (by decide) (by decide)
 have s8 := m8.size
 have nb3 : ¬ ¬ zaj v b3 := fun h => by have := (hv b3 h).1; omega
 have h8 : w8.there b3 0 5 := m8.there (by omega) (m07.there (by omega) ht)
 have t8 : w8.there b3 4 1 := fun i hi => by
  have := h8 (4 + i) (by omega)
  rwa [show 0 + (4 + i) = 4 + i by omega] at this
 have hsto := hS.lg.run_store1 (w := w8) (b := b3) (o := 4) (v := v') hone' t8
 simp +decide only [bK, happ, hsto]
 clear happ
 obtain ⟨w9, hw9⟩ : ∃ w9, w9 = w8.setCell ⟨b3, 4, none⟩ v' := ⟨_, rfl⟩
 have m9 : Mod w8 w9 fun k _ => k = b3 := by rw [hw9]; exact Mod.setCell fun _ => rfl
 have s9 : w9.heap.size = w8.heap.size := by rw [hw9]; simp [World.setCell]
 have r8 : w8.rangeAt b3 0 [n, vs, nl, v1, v] := m8.rangeAt (by omega) (fun _ _ _ => nb3) (zh m07 hr)
 have r9 : w9.rangeAt b3 0 [n, vs, nl, v1, v'] := by
  have q := zar [v'] 4 w8 [v] ((zx (cs := [n, vs, nl, v1])).1 r8).2 (by simp)
  rw [hw9]
  refine (zx (cs := [n, vs, nl, v1])).2 ⟨?_, q⟩
  exact (Mod.setCell (M := rng b3 4 1) fun _ => ⟨rfl, Nat.le_refl _, by omega⟩ : Mod w8 _ (rng b3 4 1)).rangeAt (by omega) (fun i h1 h2 h => by have := h.2.1; simp at h2; omega) ((zx (cs := [n, vs, nl, v1])).1 r8).1
 rw [← hw9]
 clear hw9 hsto
 obtain ⟨q1, q2, q3, q4⟩ := zni (w := w) (w6 := w5) (w7 := w7) (w8 := w8) (w9 := w9) (G := G) (lo := w4.heap.size) (v := v) (v' := v') (b3 := b3) (a := w5.heap.size) hG hb3 hsz m5 (by omega) m7 m8 m9 hv hnb
 refine zd (K := fun σ' w' => Q .normal σ' w') fun σ9 hσ => hQ _ _ ?_ ?_
 ·have := hσ 11
  simp +decide only [bE, Nat.reduceBeqDiff, Nat.reduceAdd, g11] at this
  exact this
 ·have p2 := hσ 2
  have p3 := hσ 3
  have p9 := hσ 9
  have p10 := hσ 10
  simp +decide only [bE, Nat.reduceBeqDiff, Nat.reduceAdd, g2, g3, g9, g10] at p2 p3 p9 p10
  refine ⟨by rw [zq (by decide)]; exact p2, by rw [zq (by decide)]; exact p3, by rw [zq (by decide)]; exact p9, by rw [zq (by decide)]; exact p10, upd_same _ _ _, by omega, ?_, v', cs0 ++ [.int .u32 (u[j]).1, tv], r9, m9.there (by omega) h8, ?_, ?_⟩
  ·exact mod.trans q1 fun k _ hk h => h.elim id fun h => h.elim (fun h => by have := (hv k h).1; omega) id
  ·exact ho8.stay m9 (fun k o h e => by have : k = b3 := e; have := ho8.blk h; omega)
  ·rw [List.take_add_one, hx]
   have htv5 : tagV w5 (GN G w5.heap.size w5.heap.size) tv (u[j]).2 := (htv.mod m5 fun k hk => ⟨by have := hG k hk; omega, fun _ h => h, .inl hk⟩)
   exact (UsG.mod q1 q2 hrep).append ⟨tv, [], rfl, htv5.mod q3 q4, rfl⟩
end
section
variable {P : Program} {N : Nums}
theorem UsG.mono {w : World} {G G' : Nat → Prop} (hG : ∀ k, G k → G' k) : ∀ {u : List (Nat × List UInt8)} {cs : List Value}, UsG w G u cs → UsG w G' u cs
 | [], _, hu => hu
 | (k, l) :: r, _, ⟨v, rest, h1, h2, h3⟩ => ⟨v, rest, h1, h2.imp (fun x => ⟨x.1, x.2⟩) (fun x => x.mono hG), UsG.mono hG h3⟩
theorem RepU.mono {w : World} {G G' : Nat → Prop} (hG : ∀ k, G k → G' k) {v : Value} {u : List (Nat × List UInt8)} (hu : RepU w G v u) : RepU w G' v u :=
 hu.imp id fun ⟨b, c, cs, h1, h2, h3, h4, h5⟩ => ⟨b, c, cs, h1, h2, fun h => hG b (h3 h), h4.mono hG, h5⟩
mutual
theorem RepT.mono {w : World} {G G' : Nat → Prop} (hG : ∀ k, G k → G' k) : ∀ (t : Tr) {cs : List Value}, RepT w G t cs → RepT w G' t cs
 | .mk n s nl l u, _, ⟨vs, vl, vu, h1, h2, h3, h4⟩ => ⟨vs, vl, vu, h1, h2.imp (fun x => ⟨x.1, x.2⟩) (fun x => x.mono hG), h3.imp id fun ⟨b, c, css, g1, g2, g3, g4, g5⟩ => ⟨b, c, css, g1, g2, fun h => hG b (g3 h), zcu.mono hG l g4, g5⟩, h4.mono hG⟩
theorem zcu.mono {w : World} {G G' : Nat → Prop} (hG : ∀ k, G k → G' k) : ∀ (l : List Tr) {css : List (List Value)}, zcu w G l css → zcu w G' l css
 | [], _, hr => hr
 | t :: l, _, ⟨c, r, h1, h2, h3⟩ => ⟨c, r, h1, RepT.mono hG t h2, zcu.mono hG l h3⟩
end
theorem treeBuild {tt tg lt lg : TypeId} (h : zct P N tt tg lt lg) (w : World) {n vs nl : Value} (h0 : n.oneCell' = true) (h1 : vs.oneCell' = true) (h2 : nl.oneCell' = true) : (Instr.build tt #[(0, n), (1, vs), (2, nl)]).run P w = .ok (.agg [n, vs, nl, .slice none 0 0, .slice none 0 0].toArray) w :=
 h.tree.run_build (by simp [Instr.fill, zcn h0, zcn h1, zcn h2])
theorem got_step (B : Base P N) (F : Fns P N) (hN : N.zrr ≠ 0) (hS : zct P N N.zb N.zy N.zj N.zi) (hI : zct P N N.zaa N.zcr N.zbh N.zbt)
  {n : Int} {s : List UInt8} {nl : Bool} {l : List Tr} {u : List (Nat × List UInt8)} (hll : l.length < 1099511627776) (hul : u.length < 1099511627776) (ih : ∀ x ∈ l, GT P N x) : GT P N (.mk n s nl l u) := by
 intro w G cs hG hrep
 simp only [RepT] at hrep
 obtain ⟨vs, vl, vu, rfl, a1, a2, a3⟩ := hrep
 obtain ⟨fs, hI1⟩ := hI.ti
 obtain ⟨fs', hS1⟩ := hS.ti
 have e2 : vl.oneCell' = true := by rcases a2 with ⟨rfl, _⟩ | ⟨b, c, css, rfl, _⟩ <;> rfl
 have e3 : vu.oneCell' = true := by rcases a3 with ⟨rfl, _⟩ | ⟨b, c, css, rfl, _⟩ <;> rfl
 refine (F.got hN).call rfl fun loc N' hlo => ?_
 unfold c_got
 refine zf fun K hK => zn fun τ => ?_
 simp +decide only [bK, bE, Nat.reduceAdd, Nat.zero_add, hS1.run_alloc]
 obtain ⟨w1, hw1⟩ : ∃ w1, w1 = w.alloc (.cells (Value.cells (.agg [.int .i64 n, vs, .bool nl, vl, vu].toArray)) N.zaa) := ⟨_, rfl⟩
 have m1 : Mod w w1 zw := by rw [hw1]; exact Mod.alloc _ _ _
 have s1 : w1.heap.size = w.heap.size + 1 := by rw [hw1]; exact zae _ _
 have r1 : w1.rangeAt w.heap.size 0 [.int .i64 n, vs, .bool nl, vl, vu] := by rw [hw1]; exact zu w _ _ _
 rw [← hw1]
 clear hw1
 obtain ⟨w2, hw2⟩ : ∃ w2, w2 = w1.alloc (.cells (Value.cells (.agg zT.toArray)) N.zb) := ⟨_, rfl⟩
 have m2 : Mod w1 w2 zw := by rw [hw2]; exact Mod.alloc _ _ _
 have s2 : w2.heap.size = w1.heap.size + 1 := by rw [hw2]; exact zae _ _
 have r2 : w2.rangeAt w1.heap.size 0 zT := by rw [hw2]; exact zu w1 _ _ _
 have t2 : w2.there w1.heap.size 0 5 := by rw [hw2]; exact zbe w1 _ _
 rw [← hw2]
 clear hw2
 have m02 : Mod w w2 zw := m1.trans' m2
 obtain ⟨b1, hb1⟩ : ∃ b, b = w.heap.size := ⟨_, rfl⟩
 obtain ⟨bR, hbR⟩ : ∃ b, b = w1.heap.size := ⟨_, rfl⟩
 obtain ⟨b3, hb3⟩ : ∃ b, b = w2.heap.size := ⟨_, rfl⟩
 rw [← hb1] at r1 ⊢
 rw [← hbR] at r2 t2 ⊢
 have r1' := zh m2 r1
 refine hK _ _ (zd fun σ hσ => ?_)
 have f1 := hσ 1
 have f2 := hσ 2
 simp +decide only [bE, Nat.reduceBeqDiff, BEq.rfl, Nat.reduceAdd] at f1 f2
 clear hσ hK K r1 m1 m2
 have x0 : w2.cell? ⟨b1, 0, none⟩ = some (.int .i64 n) := r1' 0 _ rfl
 have x1 : w2.cell? ⟨b1, 1, none⟩ = some vs := r1' 1 _ rfl
 have x2 : w2.cell? ⟨b1, 2, none⟩ = some (.bool nl) := r1' 2 _ rfl
 have hbu := treeBuild hS w2 (n := .int .i64 n) (vs := vs) (nl := .bool nl) rfl a1.one rfl
 have e6 : ∀ ρ : Env, (#[(0, T 1), (1, T 3), (2, T 5)] : Array (Nat × Operand)).map (fun p => (p.1, ev ρ p.2)) = #[(0, ρ 1), (1, ρ 3), (2, ρ 5)] := fun ρ => by simp
 obtain ⟨w3, hst, m3, s3, r3, t3⟩ := zoo (z := zT) hS1 w2 [.int .i64 n, vs, .bool nl, .slice none 0 0, .slice none 0 0] rfl (fun c hc => by
  simp at hc; rcases hc with rfl | rfl | rfl | rfl
  ·rfl
  ·exact a1.one
  ·rfl
  ·rfl)
 rw [← hb3] at r3 t3 hst
 refine zf fun K hK => zn fun τ => ?_
 simp +decide only [bK, bE, Nat.reduceBeqDiff, BEq.rfl, Nat.reduceAdd, Nat.add_zero, Nat.zero_add, f1, hI.h0.run, hI.h1.run, hI.h2.run, B.int64.run_load1 rfl, B.Lu8.run_load1 rfl, B.bool.run_load1 rfl, x0, x1, x2, e6, hbu, hS1.run_alloc, ← hb3, hst]
 refine hK _ _ (zd fun σ3 hσ => ?_)
 have g1 := hσ 1
 have g2 := hσ 2
 have g3 := hσ 3
 simp +decide only [bE, Nat.reduceBeqDiff, BEq.rfl, Nat.reduceAdd, f1, f2] at g1 g2 g3
 clear hσ hK K hst hbu
 have r13 := zh m3 r1'
 have y3 : w3.cell? ⟨b1, 3, none⟩ = some vl := r13 3 _ rfl
 have hl1 : (vl = .slice none 0 0 ∧ l.length = 0) ∨ ∃ b c, vl = .slice (some ⟨b, 0, none⟩) l.length c := a2.imp (fun h => ⟨h.1, by rw [h.2]; rfl⟩) fun ⟨b, c, _, h, _⟩ => ⟨b, c, h⟩
 have hu1 : (vu = .slice none 0 0 ∧ u.length = 0) ∨ ∃ b c, vu = .slice (some ⟨b, 0, none⟩) u.length c := a3.imp (fun h => ⟨h.1, by rw [h.2]; rfl⟩) fun ⟨b, c, _, h, _⟩ => ⟨b, c, h⟩
 have m03 : Mod w w3 zw := m02.trans' m3
 have hGb : ∀ k, G k → k < b3 := fun k hk => by have := hG k hk; omega
 refine zf fun K hK => zf fun K1 hK1 => zn fun τ => ?_
 simp +decide only [bK, bE, BEq.rfl, Nat.reduceAdd, Nat.zero_add, g1, hI.h3.run, hI.lt.run_load1 rfl, y3, len_of hI.lt hl1]
 refine hK1 _ _ (zd fun σ4 hσ => ?_)
 have p1 := hσ 1
 have p2 := hσ 2
 have p3 := hσ 3
 have p4 := hσ 4
 have p5 := hσ 5
 have p6 := hσ 6
 simp +decide only [bE, Nat.reduceBeqDiff, BEq.rfl, Nat.reduceAdd, g1, g2, g3] at p1 p2 p3 p4 p5 p6
 clear hσ hK1 K1
 refine zgv (i := 6) (l := 5) (c := 7) (k := 0) hlo (L := l.length) (by omega) (G1 w3 b1 bR b3 (.int .i64 n) vs (.bool nl) vl l G) (fun j σ w h => ⟨h.f6, h.f5, h.le⟩) (fun j σ w b h => ?_) ?_ (fun σ5 w5 h => hK _ _ ?_) (fun j σ' w' hj h => ?_)
 ·exact ⟨by rw [zq (by decide)]; exact h.f1, by rw [zq (by decide)]; exact h.f2, by rw [zq (by decide)]; exact h.f3, by rw [zq (by decide)]; exact h.f4, by rw [zq (by decide)]; exact h.f5, by rw [zq (by decide)]; exact h.f6, h.le, h.mod, h.ex⟩
 ·exact ⟨p1, p2, p3, p4, p5, p6, Nat.zero_le _, .refl _ _, .slice none 0 0, [], r3, t3, .inl ⟨rfl, rfl, rfl⟩, by simp only [List.take_zero, zcu]⟩
 ·
  clear hK K
  obtain ⟨h1, h2, h3, _, _, _, _, hmod, v1, css, hr5, ht5, ho5, hrep5⟩ := h
  rw [List.take_length] at hrep5
  have m05 : Mod w w5 zw := m03.fresh hmod fun k o e => by have : k = b3 := e; omega
  have s5 := hmod.size
  have y4 : w5.cell? ⟨b1, 4, none⟩ = some vu := by
   rw [hmod.cell _ _ (by omega) (fun h => by have : b1 = b3 := h; omega)]; exact r13 4 _ rfl
  refine zf fun K hK => zf fun K1 hK1 => zn fun τ => ?_
  simp +decide only [bK, bE, BEq.rfl, Nat.reduceAdd, Nat.zero_add, h1, hI.h4.run, hI.lg.run_load1 rfl, y4, len_of hI.lg hu1]
  refine hK1 _ _ (zd fun σ6 hσ => ?_)
  have q2 := hσ 2
  have q3 := hσ 3
  have q9 := hσ 9
  have q10 := hσ 10
  have q11 := hσ 11
  simp +decide only [bE, Nat.reduceBeqDiff, BEq.rfl, Nat.reduceAdd, h2, h3] at q2 q3 q9 q10 q11
  clear hσ hK1 K1
  refine zgv (i := 11) (l := 10) (c := 12) (k := 2) hlo (L := u.length) (by omega) (G2 w5 bR b3 (.int .i64 n) vs (.bool nl) v1 vu u G) (fun j σ w h => ⟨h.f11, h.f10, h.le⟩) (fun j σ w b h => ?_) ?_ (fun σ7 w7 h => hK _ _ ?_) (fun j σ' w' hj h => ?_)
  ·exact ⟨by rw [zq (by decide)]; exact h.f2, by rw [zq (by decide)]; exact h.f3, by rw [zq (by decide)]; exact h.f9, by rw [zq (by decide)]; exact h.f10, by rw [zq (by decide)]; exact h.f11, h.le, h.mod, h.ex⟩
  ·exact ⟨q2, q3, q9, q10, q11, Nat.zero_le _, .refl _ _, .slice none 0 0, [], hr5, ht5, .inl ⟨rfl, rfl, rfl⟩, by simp only [List.take_zero, UsG]⟩
  ·
   clear hK K
   obtain ⟨k2, k3, _, _, _, _, hmod7, v2, cs2, hr7, ht7, ho7, hrep7⟩ := h
   rw [List.take_length] at hrep7
   have s7 := hmod7.size
   have m07 : Mod w w7 zw := m05.fresh hmod7 fun k o e => by have : k = b3 := e; omega
   have hld := hS1.run_load (w := w7) (b := b3) (o := 0) hr7 rfl (fun h => by cases h)
   have hlv : ∀ (f : Array Field) (x : List Value), ldv (.struct f) x = .agg x.toArray := fun _ _ => rfl
   have ones : ∀ c ∈ [Value.int .i64 n, vs, .bool nl, v1, v2], c.oneCell' = true := fun c hc => by
    simp at hc; rcases hc with rfl | rfl | rfl | rfl | rfl
    ·rfl
    ·exact a1.one
    ·rfl
    ·exact ho5.one
    ·exact ho7.one
   have m27 : Mod w2 w7 (blk b3) := (m3.mono fun _ _ _ h => h.elim).trans' (hmod.trans' hmod7)
   have rR : w7.rangeAt bR 0 zT := m27.rangeAt (by omega) (fun _ _ _ e => by have : bR = b3 := e; omega) r2
   have tR : w7.there bR 0 5 := m27.there (by omega) t2
   have hst := hS1.run_store (w := w7) (b := bR) (o := 0) (v := .agg [Value.int .i64 n, vs, .bool nl, v1, v2].toArray) (cs := [Value.int .i64 n, vs, .bool nl, v1, v2]) rfl rfl tR ones
   refine zf fun K hK => zn fun τ => ?_
   simp +decide only [bK, bE, Nat.reduceBeqDiff, BEq.rfl, Nat.reduceAdd, k2, k3, hld, hlv, hst]
   obtain ⟨w8, hw8⟩ : ∃ w8, w8 = w7.setCells bR 0 [Value.int .i64 n, vs, .bool nl, v1, v2] := ⟨_, rfl⟩
   have m8 : Mod w7 w8 (blk bR) := by rw [hw8]; exact Mod.setCells _ 0 _ fun _ _ _ _ => rfl
   have r8 : w8.rangeAt bR 0 [Value.int .i64 n, vs, .bool nl, v1, v2] := by
    have := zar [Value.int .i64 n, vs, .bool nl, v1, v2] 0 w7 _ rR (by simp [zT])
    rw [hw8]; simpa [zT] using this
   have s8 : w8.heap.size = w7.heap.size := by rw [hw8]; exact zco _ _ _
   rw [← hw8]
   clear hw8 hst hld
   have m08 : Mod w w8 zw := m07.fresh m8 fun k o e => by have : k = bR := e; omega
   refine hK _ _ (zd fun σ8 hσ => zbl ⟨.inr rfl, .agg [Value.int .i64 n, vs, .bool nl, v1, v2].toArray, ⟨⟨bR, 0, none⟩, ?_, ?_⟩, [Value.int .i64 n, vs, .bool nl, v1, v2], rfl, ?_, m08⟩)
   ·have := hσ 2
    simp +decide only [bE, Nat.reduceBeqDiff, Nat.reduceAdd, k2] at this
    exact this
   ·have hl2 := hS1.run_load (w := w8) (b := bR) (o := 0) r8 rfl (fun h => by cases h)
    simpa [Instr.loadAt, Instr.sureAddr, Sem.run_bind, hlv] using hl2
   ·
    have hl8 : zcu w8 (GN G w.heap.size w8.heap.size) l css ∧ w8.rangeAt b3 0 [] := by
     refine ⟨?_, fun j v hj => by simp at hj⟩
     have h7 : zcu w7 (GX G w3.heap.size w5 v1) l css := by
      refine zcu.mod hmod7 (fun k hk => ⟨?_, fun o e => ?_, hk⟩) l hrep5
      ·rcases hk with hk | hk
       ·have := hGb k hk; omega
       ·exact hk.2.1
      ·have e : k = b3 := e
       rcases hk with hk | hk
       ·have := hGb k hk; omega
       ·have := hk.1; omega
     refine zcu.mod m8 (fun k hk => ⟨?_, fun o e => ?_, ?_⟩) l h7
     ·rcases hk with hk | hk
      ·have := hGb k hk; omega
      ·have := hk.2.1; omega
     ·have e : k = bR := e
      rcases hk with hk | hk
      ·have := hG k hk; omega
      ·have := hk.1; omega
     ·rcases hk with hk | hk
      ·exact .inl hk
      ·exact .inr ⟨by have := hk.1; omega, by have := hk.2.1; omega⟩
    have keep : ∀ {b : Nat} {cs : List Value}, w3.heap.size ≤ b → b < w7.heap.size → w7.rangeAt b 0 cs → w8.rangeAt b 0 cs := fun h1 h2 hr => m8.rangeAt h2 (fun _ _ _ e => by have e : _ = bR := e; omega) hr
    simp only [RepT]
    refine ⟨vs, v1, v2, rfl, a1.mod m08 fun k hk => ⟨hG k hk, fun _ h => h, .inl hk⟩, ?_, ?_⟩
    ·rcases ho5 with ⟨e1, e2, e3⟩ | ⟨b, c, e1, c1, c2, c3, c4, c5, c6⟩
     ·exact .inl ⟨e1, List.length_eq_zero_iff.1 e2⟩
     ·refine .inr ⟨b, c, css, e1, c3, fun _ => .inr ⟨by omega, by omega⟩, hl8.1, keep c1 (by omega) (hmod7.rangeAt c2 (fun _ _ _ e => by have e : b = b3 := e; omega) c5)⟩
    ·rcases ho7 with ⟨e1, e2, e3⟩ | ⟨b, c, e1, c1, c2, c3, c4, c5, c6⟩
     ·exact .inl ⟨e1, List.length_eq_zero_iff.1 e2⟩
     ·refine .inr ⟨b, c, cs2, e1, c3, fun _ => .inr ⟨by omega, by omega⟩, hrep7.mod m8 fun k hk => ⟨?_, fun o e => ?_, ?_⟩, keep (by omega) (by omega) c5⟩
      ·rcases hk with hk | hk
       ·have := hGb k hk; omega
       ·have := hk.2.1; omega
      ·have e : k = bR := e
       rcases hk with hk | hk
       ·have := hG k hk; omega
       ·have := hk.1; omega
      ·rcases hk with hk | hk
       ·exact .inl hk
       ·exact .inr ⟨by have := hk.1; omega, by have := hk.2.1; omega⟩
  ·refine got_tag B hS hI hj hul (by omega) hGb h (a3.mod m05 fun k hk => ⟨hG k hk, fun _ h => h, hk⟩) fun σ' w' h1 h2 => ⟨h1, h2⟩
 ·have hsrc : ∃ b c css, vl = .slice (some ⟨b, 0, none⟩) l.length c ∧ G b ∧ zcu w3 G l css ∧ w3.rangeAt b 0 css.flatten := by
   rcases a2 with ⟨_, h0⟩ | ⟨b, c, css, h1, h2, h3, h4, h5⟩
   ·rw [h0] at hj; simp at hj
   ·exact ⟨b, c, css, h1, h3 (by intro e; rw [e] at hj; simp at hj), zcu.mod m03 (fun k hk => ⟨hG k hk, fun _ h => h, hk⟩) l h4, zh m03 h5⟩
  exact got_elem B F hN hS hI hj hll (by omega) hGb h hsrc ih fun σ' w' h1 h2 => ⟨h1, h2⟩
def shortT : Tr → Prop
 | .mk _ _ _ l u => l.length < 1099511627776 ∧ u.length < 1099511627776
mutual
def okS : Tr → Prop
 | .mk n s nl l u => shortT (.mk n s nl l u) ∧ okSs l
def okSs : List Tr → Prop
 | [] => True
 | t :: l => okS t ∧ okSs l
end
mutual
theorem gotT (B : Base P N) (F : Fns P N) (hN : N.zrr ≠ 0) (hS : zct P N N.zb N.zy N.zj N.zi) (hI : zct P N N.zaa N.zcr N.zbh N.zbt) : ∀ (t : Tr), okS t → GT P N t
 | .mk n s nl l u, h => got_step B F hN hS hI h.1.1 h.1.2 (gotTs B F hN hS hI l h.2)
theorem gotTs (B : Base P N) (F : Fns P N) (hN : N.zrr ≠ 0) (hS : zct P N N.zb N.zy N.zj N.zi) (hI : zct P N N.zaa N.zcr N.zbh N.zbt) : ∀ (l : List Tr), okSs l → ∀ x ∈ l, GT P N x
 | [], _, x, hx => by simp at hx
 | t :: l, h, x, hx => by
  rcases List.mem_cons.1 hx with e | hx
  ·rw [e]; exact gotT B F hN hS hI t h.1
  ·exact gotTs B F hN hS hI l h.2 x hx
end
end
def NB (a b : Nat) : Nat → Prop := fun k => a ≤ k ∧ k < b
section
variable {P : Program} {N : Nums}
theorem zxd {st ty et : TypeId} {a b sz by' : Nat} {z z' : Value} {d : TypeDesc} (hS : TI P st (.slice et) a b z') (ht : TI P et d sz by' z) {w : World} {ad : Option Addr} {c : Nat} :
  (Builtin.append_ #[st, st] ty #[.slice none 0 0, .slice ad 0 c]).run P w = .ok (.slice none 0 0) w := by
 obtain ⟨i, hi, _, _, _⟩ := ht.info
 cases ad with
 | none => simp [Builtin.append_, run_underlying hS.und, sizeOf, typeInfo, hi, Builtin.lenOf, Builtin.firstCells]
 | some a =>
  have : (loadCells a 0).run P w = .ok #[] w := by
   have := run_loadCells_list (P := P) w a [] (fun j v hj => by simp at hj)
   simpa using this
  simp [Builtin.append_, run_underlying hS.und, sizeOf, typeInfo, hi, Builtin.lenOf, Builtin.firstCells, this]
def zpm (n : Int) (s : List UInt8) (nl : Bool) : Tr := .mk n s nl [] []
theorem zpv {tt tg lt lg : TypeId} (hT : zct P N tt tg lt lg) {w1 : World} {b : Nat} {cs : List Value} (hr : w1.rangeAt b 0 cs) (hl : cs.length = 5) : (loadVar tt ⟨b, 0, none⟩).run P w1 = .ok (.agg cs.toArray) w1 := by
 obtain ⟨fs, h⟩ := hT.ti
 have hlv : ∀ (f : Array Field) (x : List Value), ldv (.struct f) x = .agg x.toArray := fun _ _ => rfl
 have hl2 := h.run_load (w := w1) (b := b) (o := 0) hr hl (fun h => by cases h)
 simpa [Instr.loadAt, Instr.sureAddr, Sem.run_bind, hlv] using hl2
theorem zpw {tt tg lt lg : TypeId} (hT : zct P N tt tg lt lg) {w : World} {b : Nat} {old cs : List Value} (hr : w.rangeAt b 0 old) (ho : old.length = 5) (ht : w.there b 0 5) (hl : cs.length = 5) (h1 : ∀ c ∈ cs, c.oneCell' = true) :
  ∃ w', (Instr.storeAt tt (.pointer (some ⟨b, 0, none⟩)) (.agg cs.toArray)).run P w = .ok () w' ∧ Mod w w' (blk b) ∧ w'.heap.size = w.heap.size ∧ w'.rangeAt b 0 cs ∧ w'.there b 0 5 := by
 obtain ⟨fs, h⟩ := hT.ti
 have m : Mod w (w.setCells b 0 cs) (blk b) := Mod.setCells cs 0 w fun _ _ _ _ => rfl
 refine ⟨_, h.run_store (w := w) (b := b) (o := 0) (v := .agg cs.toArray) (cs := cs) rfl hl ht h1, m, zco _ _ _, ?_, m.there (ztd ht (by decide)) ht⟩
 have := zar cs 0 w _ hr (by omega)
 rwa [List.drop_of_length_le (by omega), List.append_nil] at this
theorem build0 {tt tg lt lg : TypeId} (hT : zct P N tt tg lt lg) (w : World) : (Instr.build tt #[]).run P w = .ok (.agg zT.toArray) w :=
 hT.tree.run_build (by simp [Instr.fill, zT])
theorem buildB {tt tg lt lg : TypeId} (hT : zct P N tt tg lt lg) (w : World) (b : Bool) : (Instr.build tt #[(2, .bool b)]).run P w = .ok (.agg [.int .i64 0, .slice none 0 0, .bool b, .slice none 0 0, .slice none 0 0].toArray) w :=
 hT.tree.run_build (by simp [Instr.fill, zcn (show (Value.bool b).oneCell' = true from rfl)])
end
section
variable {P : Program} {N : Nums}
theorem run_eqlP {t a : TypeId} (h : P.underlying t = some (.pointer a)) {x y : Operand} {m : Option Addr} {w : World} :
  (do eqGuard .eql t x y (.pointer m) (.pointer none); binOp .eql t (.pointer m) (.pointer none) : Sem Value).run P w = .ok (.bool m.isNone) w := by
 have e : (Op.equal t (.pointer m) (.pointer none)).run P w = .ok m.isNone w := by
  unfold Op.equal Op.maxDepth
  rw [show (10000 : Nat) = 9999 + 1 from rfl]
  unfold Op.equalIn
  rw [Sem.run_bind, run_underlying h, Result.andThen_ok]
  cases m <;> rfl
 have e1 : (eqGuard .eql t x y (.pointer m) (.pointer none)).run P w = .ok () w := rfl
 rw [Sem.run_bind, e1, Result.andThen_ok]
 show ((do pure (.bool (← Op.equal t (.pointer m) (.pointer none))) : Sem Value)).run P w = _
 rw [Sem.run_bind, e, Result.andThen_ok]
 rfl
theorem run_eqlS {t a : TypeId} (h : P.underlying t = some (.slice a)) {x y : Operand} {m : Option Addr} {n c : Nat} {w : World} :
  (do eqGuard .eql t x y (.slice m n c) (.slice none 0 0); binOp .eql t (.slice m n c) (.slice none 0 0) : Sem Value).run P w = .ok (.bool m.isNone) w := by
 have e : (Op.equal t (.slice m n c) (.slice none 0 0)).run P w = .ok m.isNone w := by
  unfold Op.equal Op.maxDepth
  rw [show (10000 : Nat) = 9999 + 1 from rfl]
  unfold Op.equalIn
  rw [Sem.run_bind, run_underlying h, Result.andThen_ok]
  cases m <;> rfl
 have e1 : (eqGuard .eql t x y (.slice m n c) (.slice none 0 0)).run P w = .ok () w := rfl
 rw [Sem.run_bind, e1, Result.andThen_ok]
 show ((do pure (.bool (← Op.equal t (.slice m n c) (.slice none 0 0))) : Sem Value)).run P w = _
 rw [Sem.run_bind, e, Result.andThen_ok]
 rfl
end
section
variable {P : Program} {N : Nums}
end
section
variable {P : Program} {N : Nums}
theorem call_less (B : Base P N) (F : Fns P N) (hN : N.zcm ≠ 0) {st : TI P N.zav (.slice N.zc) 1 24 (.slice none 0 0)} {w : World} {bv blk n c : Nat} (hv : w.cell? ⟨bv, 0, none⟩ = some (.slice (some ⟨blk, 0, none⟩) n c)) {g : Nat → Int}
  (hc : ∀ t, t < n → w.cell? ⟨blk, t, none⟩ = some (.int .u32 (g t))) {i j : Nat} (hi : i < n) (hj : j < n) :
  Call P N.zcm #[.int .i64 i, .int .i64 j, .pointer (some ⟨bv, 0, none⟩)] w fun v w' => v = .bool (decide (g i < g j)) ∧ w' = w.drew := by
 refine (F.PTags_Each_1 hN).call rfl fun loc N' hlo => ?_
 unfold zmn
 refine zf fun K hK => zcy (hK _ _ ?_)
 clear hK K
 obtain ⟨σ, hσ⟩ : ∃ σ, σ = upd (zef #[.int .i64 i, .int .i64 j, .pointer (some ⟨bv, 0, none⟩)]) 3 (.bool false) := ⟨_, rfl⟩
 have f0 : σ 0 = .int .i64 i := by rw [hσ, zq (by decide)]; rfl
 have f1 : σ 1 = .int .i64 j := by rw [hσ, zq (by decide)]; rfl
 have f2 : σ 2 = .pointer (some ⟨bv, 0, none⟩) := by rw [hσ, zq (by decide)]; rfl
 rw [← hσ]
 clear hσ
 have hv' : w.drew.cell? ⟨bv, 0, none⟩ = some (.slice (some ⟨blk, 0, none⟩) n c) := hv
 have ci : w.drew.cell? ⟨blk, i, none⟩ = some (.int .u32 (g i)) := hc i hi
 have cj : w.drew.cell? ⟨blk, j, none⟩ = some (.int .u32 (g j)) := hc j hj
 refine zf fun K hK => zuk B.mixed (by kernel_rfl) fun τ => ?_
 simp +decide only [bK, bE, zmi, Nat.reduceBeqDiff, BEq.rfl, Nat.reduceAdd, Nat.zero_add, Nat.mul_one, true_and, f0, f1, f2, st.run_load1 rfl, hv', zbf st B.uint32 hi, zbf st B.uint32 hj, B.uint32.run_load1 rfl, ci, cj]
 refine hK _ _ (zd fun σ4 hσ => zbl ⟨.inr rfl, _, rfl, ?_, rfl⟩)
 have := hσ 3
 simp +decide only [bE, BEq.rfl, Nat.reduceAdd] at this
 exact this
end
open Go.ChangeMaps (setBlock)
theorem nodup_le : ∀ (l m : List Nat), l.Nodup → (∀ x ∈ l, x ∈ m) → l.length ≤ m.length
 | [], _, _, _ => Nat.zero_le _
 | x :: l, m, hn, hs => by
  have hx := hs x (by simp)
  have hn2 := List.nodup_cons.1 hn
  have h1 := nodup_le l (m.erase x) hn2.2 fun y hy => (List.mem_erase_of_ne fun e => by subst e; exact hn2.1 hy).2 (hs y (by simp [hy]))
  rw [List.length_erase_of_mem hx] at h1
  have := List.length_pos_of_mem hx
  simp only [List.length_cons]
  omega
theorem zsx {l : List MapEntry} (h : (l.map MapEntry.born).Nodup) : l.Nodup := List.Pairwise.of_map MapEntry.born (fun _ _ h e => h (by rw [e])) h
section
variable {P : Program} {N : Nums}
theorem zqi {t a b : TypeId} (h : P.underlying t = some (.map a b)) {ty : TypeId} {w : World} : (Builtin.len_ #[t] ty #[.map none]).run P w = .ok (.int .i64 0) w := by
 simp [Builtin.len_, run_underlying h, goInt]
theorem zoh {t a b : TypeId} (h : P.underlying t = some (.map a b)) {ty : TypeId} {w : World} {m : Nat} {es : Array MapEntry} {ck : Nat} (hm : w.heap[m]? = some (.map es ck)) : (Builtin.len_ #[t] ty #[.map (some m)]).run P w = .ok (.int .i64 es.size) w := by
 simp [Builtin.len_, run_underlying h, MapKept.run_getObj_map hm, goInt]
theorem Mod.setIter {w : World} {r : Nat} {m m' : Option Nat} {a a' c c' : Nat} {s s' : Array Nat} (h : w.heap[r]? = some (.mapIter m a s c)) : Mod w (setBlock w r (.mapIter m' a' s' c')) (blk r) ∧ (setBlock w r (.mapIter m' a' s' c')).heap[r]? = some (.mapIter m' a' s' c') ∧ (setBlock w r (.mapIter m' a' s' c')).heap.size = w.heap.size := by
 have hlt : r < w.heap.size := (Array.getElem?_eq_some_iff.1 h).1
 have h1 : (setBlock w r (.mapIter m' a' s' c')).heap[r]? = some (.mapIter m' a' s' c') := by simp [setBlock, hlt]
 have h2 : ∀ k, k ≠ r → (setBlock w r (.mapIter m' a' s' c')).heap[k]? = w.heap[k]? := fun k hk => by
  simp only [setBlock]
  rw [Array.getElem?_setIfInBounds_ne (fun e => hk e.symm)]
 refine ⟨⟨rfl, rfl, rfl, by simp [setBlock], fun k hk hn => h2 k fun e => hn 0 e, fun k o hk hn => ?_, fun k o hk => ?_, fun k o hk => ?_, fun k hk => ?_⟩, h1, by simp [setBlock]⟩
 ·exact World.cell?_of_block (h2 k fun e => hn e)
 ·by_cases e : k = r
  ·subst e; simp only [World.cell?, h1, h]
  ·rw [World.cell?_of_block (h2 k e)]
 ·by_cases e : k = r
  ·subst e; simp only [World.frozen?, h1, h]
  ·rw [World.frozen?_of_block (h2 k e)]
 ·by_cases e : k = r
  ·subst e; simp only [World.shape?, h1, h]
  ·simp only [World.shape?, h2 k e]
theorem zva {st et : TypeId} {a b sz by' : Nat} {z z' : Value} {d : TypeDesc} (hS : TI P st (.slice et) a b z') (ht : TI P et d sz by' z) (hz : z.cells.size = sz) {w : World} {n : Nat} (hn : by' * n ≤ 281474976710656) (hn2 : n < 4611686018427387904) :
  ∃ w', (Instr.makeSlice st (.int .i64 0) (.int .i64 n)).run P w = .ok (.slice (some ⟨w.heap.size, 0, none⟩) 0 n) w' ∧ Own w' w.heap.size sz (.slice (some ⟨w.heap.size, 0, none⟩) 0 n) 0 [] ∧ Mod w w' zw ∧ w'.heap.size = w.heap.size + 1 := by
 obtain ⟨i, hi, hsz, hbytes, hzero⟩ := ht.info
 have hb : (i.bytes : Int) * (n : Int) ≤ 281474976710656 := by
  have : ((i.bytes * n : Nat) : Int) ≤ 281474976710656 := by rw [hbytes]; omega
  rwa [Int.natCast_mul] at this
 have hr := run_make (P := P) w st et i z hS.und hi hzero .i64 .i64 0 n (Int.le_refl _) (by omega) hb (by omega)
 simp only [Int.toNat_zero, Int.toNat_natCast] at hr
 refine ⟨_, hr, .inr ⟨w.heap.size, n, rfl, Nat.le_refl _, by rw [zae]; exact Nat.lt_succ_self _, Nat.zero_le _, ?_, fun j v hj => by simp at hj, by simp⟩, Mod.alloc _ _ _, zae _ _⟩
 have := zbe w (madeCells z.cells (n * i.size)) et
 rw [size_madeCells, hsz] at this
 rw [hsz]
 exact this
structure LU (P : Program) (N : Nums) : Prop where
 lu : TI P N.zav (.slice N.zc) 1 24 (.slice none 0 0)
structure EC (es : List MapEntry) (ck mr : Nat) (w0 : World) (lo b3 rI : Nat) (v0 v1 : Value) (picked : List MapEntry) (σ : Env) (w : World) : Prop where
 f0 : σ 0 = v0
 f1 : σ 1 = v1
 f3 : σ 3 = .pointer (some ⟨b3, 0, none⟩)
 f4 : σ 4 = .pointer (some ⟨rI, 0, none⟩)
 mod : Mod w0 w zw
 map : w.heap[mr]? = some (.map es.toArray ck)
 iter : ∃ seen, w.heap[rI]? = some (.mapIter (some mr) ck seen ck) ∧ seen.toList = picked.map MapEntry.born
 mem : ∀ e ∈ picked, e ∈ es
 nd : (picked.map MapEntry.born).Nodup
 row : ∃ v, w.cell? ⟨b3, 0, none⟩ = some v ∧ w.there b3 0 1 ∧ Own w lo 1 v picked.length (picked.map MapEntry.key) ∧ zaj v b3 ∧ zaj v rI
 lt : b3 < w.heap.size ∧ rI < w.heap.size ∧ w0.heap.size ≤ b3 ∧ w0.heap.size ≤ rI ∧ mr < w0.heap.size ∧ w0.heap.size ≤ lo ∧ lo ≤ w.heap.size ∧ b3 ≠ rI
def cCollect (N : Nums) : C :=
 .seq (.ops [⟨some 0, .next (V 4) false, N.t_, none, []⟩, ⟨some (5+100), .extract (T 0) 0, 0, none, []⟩])
  (.seq (.cond 5 .skip (.exit 0))
   (.block 1 (.seq (.ops [⟨some 0, .entry (V 4), 0, none, []⟩, ⟨some 1, .extract (T 0) 0, 0, none, []⟩, ⟨some (6+100), .assign (T 1), 0, none, []⟩])
    (.ops [⟨some 0, .load N.zav (V 3), 0, none, []⟩, ⟨some 1, .move (V 6), 0, none, []⟩, ⟨some 2, .buildSlice N.zav 1 #[(0, (T 1))], 0, none, []⟩,
     ⟨some 3, .call ⟨.builtin .append, #[T 0, T 2], #[N.zav, N.zav]⟩, N.zav, none, []⟩, ⟨none, .store N.zav (V 3) (T 3), 0, none, []⟩]))))
theorem ztn {a b c : Value} {w : World} : (Instr.extract (.tuple #[a, b, c]) 0).run P w = .ok a w := rfl
theorem zrm {a : Value} {w : World} : (Instr.extract (.tuple #[a]) 0).run P w = .ok a w := rfl
theorem ztz (B : Base P N) (hL : LU P N) {loc : List Nat} {N' : Nat} (hlo : zhy loc N') {Q : Exit → Env → World → Prop} {es : List MapEntry} {ck mr : Nat} {w0 w : World} {lo b3 rI : Nat} {v0 v1 : Value} {picked : List MapEntry} {σ : Env}
  (hes : ∀ e ∈ es, e.born < ck) (hnd : (es.map MapEntry.born).Nodup) (hkey : ∀ e ∈ es, e.key.oneCell' = true) (hsz : es.length < 1099511627776)
  (h : EC es ck mr w0 lo b3 rI v0 v1 picked σ w)
  (hend : ∀ σ' w', EC es ck mr w0 lo b3 rI v0 v1 picked σ' w' → picked.Perm es → Q (.exit 0) σ' w')
  (hstep : ∀ σ' w' e, picked.length < es.length → EC es ck mr w0 lo b3 rI v0 v1 (picked ++ [e]) σ' w' → Q .normal σ' w') : W P loc N' (cCollect N) Q σ w := by
 obtain ⟨f0, f1, f3, f4, mod, map, ⟨seen, iter, hseen⟩, mem, nd, ⟨v, hc, ht, ho, nb3, nbI⟩, l1, l2, l3, l4, l5, l6, l7, l8⟩ := h
 have hnx := run_next_at (P := P) w N.t_ rI mr ck ck seen es.toArray ck iter map (by simpa using hes) (Nat.le_refl _)
 unfold cCollect
 rcases hnx with ⟨h0, hrun⟩ | ⟨e, he, w1, hw1, hrun⟩
 ·
  refine zf fun K hK => zn fun τ => ?_
  simp +decide only [bK, bE, BEq.rfl, Nat.reduceAdd, f4, zus, hrun, zrm]
  refine hK _ _ (zd fun σ' hσ => ?_)
  have g0 := hσ 0
  have g1 := hσ 1
  have g3 := hσ 3
  have g4 := hσ 4
  have g5 := hσ 5
  simp +decide only [bE, Nat.reduceBeqDiff, BEq.rfl, Nat.reduceAdd, Nat.zero_add, f0, f1, f3, f4] at g0 g1 g3 g4 g5
  clear hσ hK K
  refine zf fun K hK => W_if hlo g5 ?_
  rw [if_neg (by simp)]
  refine zpk ?_
  refine hend _ _ ⟨g0, g1, g3, g4, mod, map, ⟨seen, iter, hseen⟩, mem, nd, ⟨v, hc, ht, ho, nb3, nbI⟩, l1, l2, l3, l4, l5, l6, l7, l8⟩ ?_
  have hall := all_seen es.toArray seen h0
  have ndp : picked.Nodup := zsx nd
  have nde : es.Nodup := zsx hnd
  rw [List.perm_ext_iff_of_nodup ndp nde]
  intro x
  refine ⟨mem x, fun hx => ?_⟩
  have hb := hall x (by simpa using hx)
  have hb2 : x.born ∈ picked.map MapEntry.born := by
   rw [← hseen]; simpa using hb
  obtain ⟨y, hy, hyb⟩ := List.mem_map.1 hb2
  have := born_inj hnd (mem y hy) hx hyb
  rw [← this]; exact hy
 ·
  obtain ⟨hem, hns⟩ := mem_left he
  have hem' : e ∈ es := by simpa using hem
  have iter1 : w1.heap[rI]? = some (.mapIter (some mr) ck seen ck) := by rcases hw1 with rfl | rfl <;> exact iter
  have m1 : Mod w w1 zw := by
   rcases hw1 with rfl | rfl
   ·exact .refl _ _
   ·exact Mod.drew _ _
  have s1 : w1.heap.size = w.heap.size := by rcases hw1 with rfl | rfl <;> rfl
  obtain ⟨m2, it2, s2⟩ := Mod.setIter (m' := some mr) (a' := ck) (s' := seen.push e.born) (c' := ck) iter1
  obtain ⟨w2, hw2⟩ : ∃ w2, w2 = setBlock w1 rI (.mapIter (some mr) ck (seen.push e.born) ck) := ⟨_, rfl⟩
  rw [← hw2] at hrun m2 it2 s2
  clear hw2
  have m02 : Mod w w2 (blk rI) := (m1.mono fun _ _ _ h => h.elim).trans' m2
  have map2 : w2.heap[mr]? = some (.map es.toArray ck) := by rw [m02.block _ (by omega) (fun o h => by have : mr = rI := h; omega)]; exact map
  have hent := run_entry_at (P := P) w2 rI mr ck seen es.toArray ck e it2 map2 hem (by simpa using hnd)
  refine zf fun K hK => zn fun τ => ?_
  simp +decide only [bK, bE, BEq.rfl, Nat.reduceAdd, f4, zus, hrun, ztn]
  refine hK _ _ (zd fun σ2 hσ => ?_)
  have g0 := hσ 0
  have g1 := hσ 1
  have g3 := hσ 3
  have g4 := hσ 4
  have g5 := hσ 5
  simp +decide only [bE, Nat.reduceBeqDiff, BEq.rfl, Nat.reduceAdd, Nat.zero_add, f0, f1, f3, f4] at g0 g1 g3 g4 g5
  clear hσ hK K
  refine zf fun K hK => W_if hlo g5 ?_
  rw [if_pos rfl]
  refine zbv (hK _ _ (zey ?_))
  clear hK K
  refine zf fun K hK => zn fun τ => ?_
  simp +decide only [bK, bE, BEq.rfl, Nat.reduceAdd, g4, step_entry, hent]
  refine hK _ _ (zd fun σ3 hσ => ?_)
  have p0 := hσ 0
  have p1 := hσ 1
  have p3 := hσ 3
  have p4 := hσ 4
  have p6 := hσ 6
  simp +decide only [bE, Nat.reduceBeqDiff, BEq.rfl, Nat.reduceAdd, Nat.zero_add, g0, g1, g3, g4] at p0 p1 p3 p4 p6
  clear hσ hK K
  have hcw2 : w2.cell? ⟨b3, 0, none⟩ = some v := by rw [m02.cell _ _ (by omega) (fun h => by have : b3 = rI := h; omega)]; exact hc
  have hbs := ziq (w := w2) (v := e.key) (cs := [e.key]) hL.lu B.uint32 (zcn (hkey e hem')) rfl (by decide) (by decide)
  have e9 : ∀ ρ : Env, (#[(0, T 1)] : Array (Nat × Operand)).map (fun p => (p.1, ev ρ p.2)) = #[(0, ρ 1)] := fun ρ => by simp
  refine zn fun τ => ?_
  simp +decide only [bK, bE, Nat.reduceBeqDiff, BEq.rfl, Nat.reduceAdd, p3, p6, hL.lu.run_load1 rfl, hcw2, e9, hbs]
  obtain ⟨w7, hw7⟩ : ∃ w7, w7 = w2.alloc (.cells [e.key].toArray N.zc) := ⟨_, rfl⟩
  have m7 : Mod w2 w7 zw := by rw [hw7]; exact Mod.alloc _ _ _
  have s7 : w7.heap.size = w2.heap.size + 1 := by rw [hw7]; exact zae _ _
  have r7 : w7.rangeAt w2.heap.size 0 [e.key] := by rw [hw7]; exact zu w2 _ _ _
  rw [← hw7]
  clear hw7 hbs
  have m07 : Mod w w7 (blk rI) := m02.trans' (m7.mono fun _ _ _ h => h.elim)
  have ho7 : Own w7 lo 1 v picked.length (picked.map MapEntry.key) := ho.stay m07 fun k o hk e => hk (by have e : k = rI := e; rw [e]; exact nbI)
  have ndE : ((picked ++ [e]).map MapEntry.born).Nodup := by
   rw [List.map_append, List.nodup_append]
   refine ⟨nd, by simp, fun a ha b hb => ?_⟩
   simp at hb
   subst hb
   intro hab
   subst hab
   rw [← hseen] at ha
   have : seen.contains e.born = true := by simpa using ha
   rw [this] at hns; cases hns
  have hple : picked.length < es.length := by
   have := nodup_le ((picked ++ [e]).map MapEntry.born) (es.map MapEntry.born) ndE fun x hx => by
    obtain ⟨y, hy, rfl⟩ := List.mem_map.1 hx
    refine List.mem_map.2 ⟨y, ?_, rfl⟩
    rcases List.mem_append.1 hy with hy | hy
    ·exact mem y hy
    ·simp at hy; subst hy; exact hem'
   simp at this
   omega
  obtain ⟨v', w8, happ, ho8, m8, hone', hnb⟩ := zgg (P := P) (ty := N.zav) (m := 1) (cb := 1) hL.lu B.uint32 ho7 r7 rfl (fun c hc => by simp at hc; subst hc; exact hkey e hem') (by omega) rfl (fun c hc => by
   obtain ⟨x, hx, rfl⟩ := List.mem_map.1 hc; exact hkey x (mem x hx)) (by omega) (by decide) (by decide)
  have s8 := m8.size
  have t8 : w8.there b3 0 1 := m8.there (by omega) (m07.there (by omega) ht)
  have hsto := hL.lu.run_store1 (w := w8) (b := b3) (o := 0) (v := v') hone' t8
  simp +decide only [bK, happ, hsto]
  clear happ
  obtain ⟨w9, hw9⟩ : ∃ w9, w9 = w8.setCell ⟨b3, 0, none⟩ v' := ⟨_, rfl⟩
  have m9 : Mod w8 w9 (blk b3) := by rw [hw9]; exact Mod.setCell fun _ => rfl
  have s9 : w9.heap.size = w8.heap.size := by rw [hw9]; simp [World.setCell]
  have c8 : w8.cell? ⟨b3, 0, none⟩ = some v := by
   rw [m8.cell _ _ (by omega) (fun h => h nb3), m7.cell _ _ (by omega) (fun h => h)]; exact hcw2
  have c9 : w9.cell? ⟨b3, 0, none⟩ = some v' := by rw [hw9]; exact World.cell?_setCell_same _ _ _ c8
  rw [← hw9]
  clear hw9 hsto
  have hb3' : zaj v' b3 := hnb b3 (by omega) nb3
  have hI' : zaj v' rI := hnb rI (by omega) nbI
  have nbm : zaj v mr := Classical.byContradiction fun h => by have := (ho.blk h).1; omega
  have m09 : Mod w w9 (fun k _ => k = rI ∨ ¬ zaj v k ∨ k = b3) := ((m07.mono fun _ _ _ h => .inl h).trans' (m8.mono fun _ _ _ h => .inr (.inl h))).trans' (m9.mono fun _ _ _ h => .inr (.inr h))
  refine zd (K := fun σ' w' => inB 1 Q .normal σ' w') fun σ9 hσ => hstep _ _ e hple ?_
  have q0 := hσ 0
  have q1 := hσ 1
  have q3 := hσ 3
  have q4 := hσ 4
  simp +decide only [bE, Nat.reduceBeqDiff, Nat.reduceAdd, Nat.zero_add, p0, p1, p3, p4] at q0 q1 q3 q4
  refine ⟨q0, q1, q3, q4, mod.trans m09 fun k o hk h => ?_, ?_, ⟨seen.push e.born, ?_, by simp [hseen]⟩, fun x hx => ?_, ?_, ⟨v', c9, m9.there (by omega) t8, ?_, hb3', hI'⟩, by omega, by omega, l3, l4, l5, l6, by omega, l8⟩
  ·rcases h with h | h | h | h
   ·exact h
   ·omega
   ·have := (ho.blk h).1; omega
   ·omega
  ·rw [m09.block mr (by omega) (fun o h => by
    rcases h with h | h | h
    ·omega
    ·exact h nbm
    ·omega)]
   exact map
  ·rw [m9.block rI (by omega) (fun o h => by have : rI = b3 := h; omega), m8.block rI (by omega) (fun o h => h nbI), m7.block rI (by omega) (fun o h => h)]; exact it2
  ·rcases List.mem_append.1 hx with hx | hx
   ·exact mem x hx
   ·simp at hx; subst hx; exact hem'
  ·exact ndE
  ·have := ho8.stay m9 (fun k o h e => h (by have e : k = b3 := e; rw [e]; exact hb3'))
   simpa using this
end
def zdd (l : List (Nat × List UInt8)) : List (Nat × List UInt8) := l.mergeSort fun x y => decide (x.1 ≤ y.1)
theorem zih (l : List (Nat × List UInt8)) : (zdd l).Perm l := List.mergeSort_perm l _
theorem zww (l : List (Nat × List UInt8)) : ((zdd l).map Prod.fst).Pairwise (· ≤ ·) := by
 have := List.pairwise_mergeSort (le := fun x y : Nat × List UInt8 => decide (x.1 ≤ y.1)) (fun a b c h1 h2 => by simp at *; omega) (fun a b => by simp; omega) l
 rw [List.pairwise_map]
 exact this.imp fun h => by simpa using h
theorem zuy : ∀ {l m : List Nat}, l.Perm m → l.Pairwise (· ≤ ·) → m.Pairwise (· ≤ ·) → l = m
 | [], m, h, _, _ => by rw [List.nil_perm.1 h]
 | x :: l, [], h, _, _ => by simp at h
 | x :: l, y :: m, h, h1, h2 => by
  have a := List.pairwise_cons.1 h1
  have b := List.pairwise_cons.1 h2
  have hxy : x = y := by
   have hx : x ∈ y :: m := h.mem_iff.1 (by simp)
   have hy : y ∈ x :: l := h.mem_iff.2 (by simp)
   rcases List.mem_cons.1 hx with e | hx
   ·exact e
   ·rcases List.mem_cons.1 hy with e | hy
    ·exact e.symm
    ·have := a.1 y hy; have := b.1 x hx; omega
  subst hxy
  rw [zuy (List.perm_cons x |>.1 h) a.2 b.2]
def keyV (k : Nat) : Value := .int .u32 (k : Int)
structure SortOk (P : Program) (N : Nums) : Prop where
 has : zdh P N.zgj
 ok : ∀ (w : World) (bv bs c : Nat) (ks : List Nat), w.cell? ⟨bv, 0, none⟩ = some (.slice (some ⟨bs, 0, none⟩) ks.length c) → bv ≠ bs → bs < w.heap.size → ks ≠ [] → ks.length < 4611686018427387904 → w.rangeAt bs 0 (ks.map keyV) → w.there bs 0 ks.length →
  Call P N.zgj #[.iface N.zav (.slice (some ⟨bs, 0, none⟩) ks.length c), .func (.func N.zcm) #[] #[.pointer (some ⟨bv, 0, none⟩)]] w fun _ w' =>
   ∃ ks' : List Nat, ks'.Perm ks ∧ ks'.Pairwise (· ≤ ·) ∧ w'.rangeAt bs 0 (ks'.map keyV) ∧ Mod w w' (blk bs)
section
variable {P : Program} {N : Nums}
theorem find_val {w : World} {G : Nat → Prop} {k : Nat} {vl : List UInt8} : ∀ (l : List (Nat × List UInt8)) (es : List MapEntry) (i0 : Nat), zbj w G l es → (l.map Prod.fst).Nodup → (k, vl) ∈ l →
  ∃ i val, Instr.findNow (.int .u32) (.int .u32 k) es i0 = some (some (i, val)) ∧ tagV w G val vl
 | [], es, i0, he, _, hm => by simp at hm
 | (k', l') :: l, es, i0, he, hnd, hm => by
  obtain ⟨v', b, rest, rfl, h2, h3⟩ := he
  simp only [List.map_cons, List.nodup_cons] at hnd
  by_cases hk : k' = k
  ·subst hk
   have e : l' = vl := by
    rcases List.mem_cons.1 hm with e | hm
    ·injection e with _ e; exact e.symm
    ·exact absurd (List.mem_map.2 ⟨_, hm, rfl⟩) hnd.1
   subst e
   exact ⟨i0, v', by simp [Instr.findNow, Instr.sameNow], h2⟩
  ·have hk2 : ((k : Int) == (k' : Int)) = false := by
    have : (k : Int) ≠ (k' : Int) := by omega
    simpa using this
   have hm' : (k, vl) ∈ l := by
    rcases List.mem_cons.1 hm with e | hm
    ·injection e with e _; exact absurd e.symm hk
    ·exact hm
   obtain ⟨i, val, g1, g2⟩ := find_val l rest (i0 + 1) h3 hnd.2 hm'
   exact ⟨i, val, by simp only [Instr.findNow, Instr.sameNow, if_true, hk2, g1], g2⟩
theorem ztl (B : Base P N) (hT : N.zcq ≠ 0) {w : World} {G : Nat → Prop} {mr k : Nat} {l : List (Nat × List UInt8)} {es : Array MapEntry} {ck : Nat} {vl : List UInt8} (hb : w.heap[mr]? = some (.map es ck)) (h6 : zbj w G l es.toList) (h7 : (l.map Prod.fst).Nodup) (hm : (k, vl) ∈ l) :
  ∃ val, (Instr.lookup N.zz (.map (some mr)) (.int .u32 k) false).run P w = .ok val w ∧ tagV w G val vl := by
 obtain ⟨_, _, hmap⟩ := B.tags hT
 obtain ⟨i, val, g1, g2⟩ := find_val (k := k) l es.toList 0 h6 h7 hm
 have hck := MapKept.run_checkKey (P := P) (w := w) (k := .int .u32 k) B.uint32.und rfl es.isEmpty 9999
 have hgo := MapKept.run_getObj_map (P := P) hb
 have hfk := MapKept.run_findKey (P := P) (w := w) (k := .int .u32 k) B.uint32.und g1
 refine ⟨val, ?_, g2⟩
 simp only [Instr.lookup, Sem.run_bind, hmap.run_und, Result.andThen_ok, hgo, Sem.run_pure, hck, hfk]
 rfl
theorem zwz (hL : LU P N) {w : World} {v : Value} : (Instr.makeInterface N.zav v).run P w = .ok (.iface N.zav v) w := by
 simp only [Instr.makeInterface, Sem.run_bind, hL.lu.run_und, Result.andThen_ok]
 rfl
theorem zsf {fn : Fn} {a b : Array Value} {w : World} : (Instr.makeFunc fn a b).run P w = .ok (.func fn a b) w := rfl
structure ET (S : List (Nat × List UInt8)) (wS : World) (lo : Nat) (Mo : Nat → Nat → Prop) (I : Nat → List (Nat × List UInt8) → World → Prop) (v0 v1 vr : Value) (j : Nat) (σ : Env) (w : World) : Prop where
 f0 : σ 0 = v0
 f1 : σ 1 = v1
 f7 : σ 7 = vr
 f8 : σ 8 = .int .i64 S.length
 f9 : σ 9 = .int .i64 j
 le : j ≤ S.length
 mod : Mod wS w fun k o => Mo k o ∨ lo ≤ k
 inv : I lo (S.take j) w
def cTellTag (N : Nums) : C :=
 .seq (.ops [⟨some 0, .indexAddr N.zav (V 7) (V 9), 0, none, []⟩, ⟨some 1, .load N.zc (T 0), 0, none, []⟩, ⟨some (11+100), .assign (T 1), 0, none, []⟩])
  (.ops [⟨some 0, .move (V 1), 0, none, []⟩, ⟨some 1, .move (V 11), 0, none, []⟩, ⟨some 2, .move (V 0), 0, none, []⟩, ⟨some 3, .nilCheck (T 2), 0, none, []⟩, ⟨some 4, .fieldAddr N.zcq (T 3) 0, 0, none, []⟩,
   ⟨some 5, .load N.zz (T 4), 0, none, []⟩, ⟨some 6, .move (V 11), 0, none, []⟩, ⟨some 7, .lookup N.zz (T 5) (T 6) false, 0, none, []⟩, ⟨some 8, .call ⟨.value (T 0), #[T 1, T 7], #[N.zc, N.za]⟩, N.t_, none, []⟩])
def CbOk (P : Program) (f : FuncId) (cap : Value) (lo : Nat) (G : Nat → Prop) (Mo : Nat → Nat → Prop) (I : Nat → List (Nat × List UInt8) → World → Prop) (S : List (Nat × List UInt8)) : Prop :=
 ∀ (j : Nat) (x : Nat × List UInt8) (w1 : World) (v : Value), S[j]? = some x → I lo (S.take j) w1 → lo ≤ w1.heap.size → tagV w1 G v x.2 → Call P f #[.int .u32 x.1, v, cap] w1 fun _ w2 => I lo (S.take (j + 1)) w2 ∧ Mod w1 w2 fun k o => Mo k o ∨ lo ≤ k
theorem tell_round (B : Base P N) (hT : N.zcq ≠ 0) (hL : LU P N) {loc : List Nat} {N' : Nat} {Q : Exit → Env → World → Prop} {S l : List (Nat × List UInt8)} {wS w : World} {lo : Nat} {Mo : Nat → Nat → Prop} {I : Nat → List (Nat × List UInt8) → World → Prop} {G : Nat → Prop}
  {b o bs c mr f j : Nat} {es : Array MapEntry} {ck : Nat} {cap : Value} {σ : Env}
  (hS : ∀ x ∈ S, x ∈ l) (hf : zdh P f) (hcb : CbOk P f cap lo G Mo I S) (hloS : lo ≤ wS.heap.size) (hbs : bs < lo) (hMbs : ∀ o, ¬ Mo bs o) (hblt : b < lo) (hMb : ¬ Mo b o) (hmr : mr < lo) (hMm : ∀ o, ¬ Mo mr o) (hMG : ∀ k, G k → k < lo ∧ ∀ o, ¬ Mo k o)
  (hrow : wS.rangeAt bs 0 (S.map fun x => keyV x.1)) (hcell : wS.cell? ⟨b, o, none⟩ = some (.map (some mr))) (hmap : wS.heap[mr]? = some (.map es ck)) (hent : zbj wS G l es.toList) (hnd : (l.map Prod.fst).Nodup)
  (hj : j < S.length) (h : ET S wS lo Mo I (.pointer (some ⟨b, o, none⟩)) (.func (.func f) #[] #[cap]) (.slice (some ⟨bs, 0, none⟩) S.length c) j σ w)
  (hQ : ∀ σ' w', σ' 9 = .int .i64 j → ET S wS lo Mo I (.pointer (some ⟨b, o, none⟩)) (.func (.func f) #[] #[cap]) (.slice (some ⟨bs, 0, none⟩) S.length c) (j + 1) (upd σ' 9 (.int .i64 ((j + 1 : Nat) : Int))) w' → Q .normal σ' w') :
  W P loc N' (cTellTag N) Q σ w := by
 obtain ⟨f0, f1, f7, f8, f9, _, mod, inv⟩ := h
 obtain ⟨_, hHF, hmt⟩ := B.tags hT
 have hs := mod.size
 have no : ∀ {k o : Nat}, k < lo → ¬ Mo k o → ¬ (Mo k o ∨ lo ≤ k) := fun h1 h2 h => h.elim h2 fun h => by omega
 have hx : S[j]? = some S[j] := List.getElem?_eq_getElem hj
 have hrow' : w.rangeAt bs 0 (S.map fun x => keyV x.1) := mod.rangeAt (by omega) (fun i _ _ => no hbs (hMbs i)) hrow
 have hk : w.cell? ⟨bs, j, none⟩ = some (.int .u32 ((S[j]).1 : Int)) := by
  have := hrow' j _ (by rw [List.getElem?_map, hx]; rfl)
  simpa [keyV] using this
 have hcell' : w.cell? ⟨b, o, none⟩ = some (.map (some mr)) := by rw [mod.cell _ _ (by omega) (no hblt hMb)]; exact hcell
 have hmap' : w.heap[mr]? = some (.map es ck) := by rw [mod.block _ (by omega) (fun o => no hmr (hMm o))]; exact hmap
 have hent' : zbj w G l es.toList := hent.mod mod fun k hk => ⟨by have := (hMG k hk).1; omega, fun o => no (hMG k hk).1 ((hMG k hk).2 o), hk⟩
 obtain ⟨val, hlk, htv⟩ := ztl B hT hmap' hent' hnd (show ((S[j]).1, (S[j]).2) ∈ l from hS _ (List.getElem_mem hj))
 unfold cTellTag
 refine zf fun K hK => zn fun τ => ?_
 simp +decide only [bK, bE, BEq.rfl, Nat.reduceAdd, Nat.zero_add, Nat.mul_one, f7, f9, zbf hL.lu B.uint32 hj, B.uint32.run_load1 rfl, hk]
 refine hK _ _ (zd fun σ2 hσ => ?_)
 have g0 := hσ 0
 have g1 := hσ 1
 have g7 := hσ 7
 have g8 := hσ 8
 have g9 := hσ 9
 have g11 := hσ 11
 simp +decide only [bE, Nat.reduceBeqDiff, BEq.rfl, Nat.reduceAdd, Nat.zero_add, f0, f1, f7, f8, f9] at g0 g1 g7 g8 g9 g11
 clear hσ hK K
 refine zn fun τ => ?_
 simp +decide only [bK, bE, Nat.reduceBeqDiff, BEq.rfl, Nat.reduceAdd, Nat.zero_add, g0, g1, g11]
 rw [zat rfl]
 simp +decide only [bK, bE, Nat.reduceBeqDiff, BEq.rfl, Nat.add_zero, hHF.run, hmt.run_load1 rfl, hcell', g11, zwt, hlk]
 rw [step_callV (f := f) (cap := #[cap]) (by simp +decide only [bE, Nat.reduceBeqDiff, BEq.rfl, ev_tmp]) hf]
 have e2 : ∀ ρ : Env, (#[T 1, T 7] : Array Operand).map (ev ρ) ++ #[cap] = #[ρ 1, ρ 7, cap] := fun ρ => by simp
 rw [e2]
 simp +decide only [bE, Nat.reduceBeqDiff, BEq.rfl]
 have := hcb j S[j] w val hx inv (by omega) htv
 refine Call.mono (Rt' := _) this ?_
 rintro v w2 ⟨hi2, hm2⟩
 refine zd (K := fun σ' w' => Q .normal σ' w') fun σ3 hσ => hQ _ _ ?_ ?_
 ·have := hσ 9
  simp +decide only [bE, Nat.reduceBeqDiff, Nat.reduceAdd, g9] at this
  exact this
 ·have p0 := hσ 0
  have p1 := hσ 1
  have p7 := hσ 7
  have p8 := hσ 8
  simp +decide only [bE, Nat.reduceBeqDiff, Nat.reduceAdd, Nat.zero_add, g0, g1, g7, g8] at p0 p1 p7 p8
  exact ⟨by rw [zq (by decide)]; exact p0, by rw [zq (by decide)]; exact p1, by rw [zq (by decide)]; exact p7, by rw [zq (by decide)]; exact p8, upd_same _ _ _, by omega, mod.trans' hm2, hi2⟩
end
section
variable {P : Program} {N : Nums}
theorem zbj.keys {w : World} {G : Nat → Prop} : ∀ {l : List (Nat × List UInt8)} {es : List MapEntry}, zbj w G l es → es.map MapEntry.key = l.map (fun x => keyV x.1)
 | [], es, h => by simp only [zbj] at h; subst h; rfl
 | (k, x) :: l, es, ⟨v, b, rest, h1, h2, h3⟩ => by subst h1; simp only [List.map_cons, keyV]; rw [zbj.keys h3]; rfl
theorem call_Each (B : Base P N) (F : Fns P N) (hN : N.zgk ≠ 0) (hT : N.zcq ≠ 0) (hL : LU P N) (hS : SortOk P N) {w : World} {b o f : Nat} {v cap : Value} {G : Nat → Prop} {l : List (Nat × List UInt8)}
  (hc : w.cell? ⟨b, o, none⟩ = some v) (hG : ∀ k, G k → k < w.heap.size) (ht : zoe w G v l) (hf : zdh P f) (hsz : l.length < 1099511627776) (I : Nat → List (Nat × List UInt8) → World → Prop) (Mo : Nat → Nat → Prop)
  (hMo : ∀ k o, Mo k o → k < w.heap.size) (hMb : ¬ Mo b o) (hMG : ∀ k, G k → ∀ o, ¬ Mo k o) (hI0 : ∀ w', Mod w w' zw → I w'.heap.size [] w') (hcb : ∀ lo, w.heap.size ≤ lo → CbOk P f cap lo G Mo I (zdd l)) :
  Call P N.zgk #[.pointer (some ⟨b, o, none⟩), .func (.func f) #[] #[cap]] w fun _ w' => ∃ lo, w.heap.size ≤ lo ∧ lo ≤ w'.heap.size ∧ I lo (zdd l) w' ∧ Mod w w' Mo := by
 obtain ⟨_, hHF, hmt⟩ := B.tags hT
 have hb : b < w.heap.size := zfc (by rw [hc]; rfl)
 refine (F.PTags_Each hN).1.call rfl fun loc N' hlo => ?_
 unfold zpi
 obtain ⟨σ, hσ⟩ : ∃ σ, σ = zef #[.pointer (some ⟨b, o, none⟩), .func (.func f) #[] #[cap]] := ⟨_, rfl⟩
 have f0 : σ 0 = .pointer (some ⟨b, o, none⟩) := by rw [hσ]; rfl
 have f1 : σ 1 = .func (.func f) #[] #[cap] := by rw [hσ]; rfl
 rw [← hσ]
 clear hσ
 have emptyS : ∀ σ' : Env, l = [] → retQ P [] (fun _ w' => ∃ lo, w.heap.size ≤ lo ∧ lo ≤ w'.heap.size ∧ I lo (zdd l) w' ∧ Mod w w' Mo) .ret σ' w := by
  intro σ' e
  subst e
  exact ⟨.inr rfl, .tuple #[], rfl, w.heap.size, Nat.le_refl _, Nat.le_refl _, by simpa [zdd] using hI0 w (.refl _ _), .refl _ _⟩
 rcases ht with ⟨rfl, hl⟩ | ⟨mr, es, ck, rfl, hGm, hmap, hborn, hbnd, hent, hknd, hkb⟩
 ·refine zf fun K hK => zf fun K1 hK1 => zn fun τ => ?_
  simp +decide only [bK, bE, BEq.rfl, Nat.reduceAdd, Nat.zero_add, f0]
  rw [zat rfl]
  simp +decide only [bK, bE, BEq.rfl, Nat.add_zero, hHF.run, hmt.run_load1 rfl, hc, zqi hmt.und]
  refine hK1 _ _ (zd fun σ1 hσ => ?_)
  have g2 := hσ 2
  simp +decide only [bE, BEq.rfl, Nat.reduceAdd] at g2
  refine W_if hlo g2 ?_
  rw [if_pos rfl]
  exact zbl (emptyS _ hl)
 have hlen : es.size = l.length := by
  have := congrArg List.length hent.keys
  simpa using this
 refine zf fun K hK => zf fun K1 hK1 => zn fun τ => ?_
 simp +decide only [bK, bE, BEq.rfl, Nat.reduceAdd, Nat.zero_add, f0]
 rw [zat rfl]
 simp +decide only [bK, bE, BEq.rfl, Nat.add_zero, hHF.run, hmt.run_load1 rfl, hc, zoh hmt.und hmap]
 refine hK1 _ _ (zd fun σ1 hσ => ?_)
 have g0 := hσ 0
 have g1 := hσ 1
 have g2 := hσ 2
 simp +decide only [bE, Nat.reduceBeqDiff, BEq.rfl, Nat.reduceAdd, Nat.zero_add, f0, f1] at g0 g1 g2
 clear hσ hK1 K1
 refine W_if hlo g2 ?_
 by_cases h0 : l = []
 ·have : (((es.size : Nat) : Int) == 0) = true := by rw [hlen, h0]; rfl
  rw [if_pos this]
  exact zbl (emptyS _ h0)
 have hpos : 0 < l.length := List.length_pos_iff.2 h0
 have : (((es.size : Nat) : Int) == 0) = false := by rw [hlen]; simp; omega
 rw [if_neg (by rw [this]; simp)]
 refine zbv (hK _ _ ?_)
 clear hK K emptyS
 obtain ⟨w1, hmk, ho1, m1, s1⟩ := zva (w := w) (n := es.size) hL.lu B.uint32 rfl (by omega) (by omega)
 obtain ⟨w2, hw2⟩ : ∃ w2, w2 = w1.alloc (.cells (Value.cells (.slice none 0 0)) N.zav) := ⟨_, rfl⟩
 have m2 : Mod w1 w2 zw := by rw [hw2]; exact Mod.alloc _ _ _
 have s2 : w2.heap.size = w1.heap.size + 1 := by rw [hw2]; exact zae _ _
 have r2 : w2.rangeAt w1.heap.size 0 [.slice none 0 0] := by rw [hw2]; exact zu w1 _ _ _
 have t2 : w2.there w1.heap.size 0 1 := by rw [hw2]; exact zbe w1 _ _
 have hst := hL.lu.run_store1 (w := w2) (b := w1.heap.size) (o := 0) (v := .slice (some ⟨w.heap.size, 0, none⟩) 0 es.size) rfl t2
 obtain ⟨w3, hw3⟩ : ∃ w3, w3 = w2.setCell ⟨w1.heap.size, 0, none⟩ (.slice (some ⟨w.heap.size, 0, none⟩) 0 es.size) := ⟨_, rfl⟩
 have m3 : Mod w2 w3 (blk w1.heap.size) := by rw [hw3]; exact Mod.setCell fun _ => rfl
 have s3 : w3.heap.size = w2.heap.size := by rw [hw3]; simp [World.setCell]
 have c3 : w3.cell? ⟨w1.heap.size, 0, none⟩ = some (.slice (some ⟨w.heap.size, 0, none⟩) 0 es.size) := by rw [hw3]; exact World.cell?_setCell_same _ _ _ (r2 0 _ rfl)
 have hal := hL.lu.run_alloc (w := w1) (.tuple #[])
 refine zf fun K hK => zn fun τ => ?_
 simp +decide only [bK, bE, Nat.reduceBeqDiff, BEq.rfl, Nat.reduceAdd, Nat.zero_add, g0]
 rw [zat rfl]
 simp +decide only [bK, bE, BEq.rfl, Nat.add_zero, hHF.run, hmt.run_load1 rfl, hc, zoh hmt.und hmap, zjq, hmk, hal, ← hw2, hst, ← hw3]
 obtain ⟨b3, hb3⟩ : ∃ b3, b3 = w1.heap.size := ⟨_, rfl⟩
 rw [← hb3] at c3 m3 t2 ⊢
 refine hK _ _ (zd fun σ2 hσ => ?_)
 have p0 := hσ 0
 have p1 := hσ 1
 have p3 := hσ 3
 simp +decide only [bE, Nat.reduceBeqDiff, BEq.rfl, Nat.reduceAdd, Nat.zero_add, g0, g1] at p0 p1 p3
 clear hσ hK K hmk hal hst hw3 hw2 r2
 have m03 : Mod w w3 zw := (m1.trans' m2).fresh m3 fun k o e => by have : k = b3 := e; omega
 have hc3 : w3.cell? ⟨b, o, none⟩ = some (.map (some mr)) := by rw [m03.cell _ _ hb (fun h => h)]; exact hc
 have hmrlt := hG mr hGm
 have hmap3 : w3.heap[mr]? = some (.map es ck) := by rw [m03.block _ hmrlt (fun o h => h)]; exact hmap
 refine zf fun K hK => zf fun K1 hK1 => zn fun τ => ?_
 simp +decide only [bK, bE, BEq.rfl, Nat.reduceAdd, Nat.zero_add, p0]
 rw [zat rfl]
 simp +decide only [bK, bE, BEq.rfl, Nat.add_zero, hHF.run, hmt.run_load1 rfl, hc3, step_range, run_range_map w3 _ _ _ mr es ck hmt.und hmap3]
 obtain ⟨w4, hw4⟩ : ∃ w4, w4 = w3.alloc (.mapIter (some mr) ck #[] ck) := ⟨_, rfl⟩
 have m4 : Mod w3 w4 zw := by rw [hw4]; exact Mod.alloc _ _ _
 have s4 : w4.heap.size = w3.heap.size + 1 := by rw [hw4]; exact zae _ _
 have i4 : w4.heap[w3.heap.size]? = some (.mapIter (some mr) ck #[] ck) := by rw [hw4]; exact zlx _ _
 rw [← hw4]
 clear hw4
 refine hK1 _ _ (zd fun σ4 hσ => ?_)
 have q0 := hσ 0
 have q1 := hσ 1
 have q3 := hσ 3
 have q4 := hσ 4
 simp +decide only [bE, Nat.reduceBeqDiff, BEq.rfl, Nat.reduceAdd, Nat.zero_add, p0, p1, p3] at q0 q1 q3 q4
 clear hσ hK1 K1
 have m04 : Mod w w4 zw := m03.trans' m4
 have m14 : Mod w1 w4 zw := (m2.fresh m3 fun k o e => by have : k = b3 := e; omega).trans' m4
 have hEC : EC es.toList ck mr w w.heap.size b3 w3.heap.size (.pointer (some ⟨b, o, none⟩)) (.func (.func f) #[] #[cap]) [] σ4 w4 := by
  refine ⟨q0, q1, q3, q4, m04, by rw [m04.block _ hmrlt (fun o h => h)]; simpa using hmap, ⟨#[], i4, rfl⟩, fun e he => by simp at he, by simp, ⟨.slice (some ⟨w.heap.size, 0, none⟩) 0 es.size, ?_, m4.there (by omega) (m3.there (by omega) t2), ho1.stay m14 fun _ _ _ h => h, ?_, ?_⟩, by omega, by omega, by omega, by omega, by omega, by omega, by omega, by omega⟩
  ·rw [m4.cell _ _ (by omega) (fun h => h)]; exact c3
  ·intro b' o' s' n' c' e; injection e with e1 _ _; injection e1 with e2; injection e2 with e3; omega
  ·intro b' o' s' n' c' e; injection e with e1 _ _; injection e1 with e2; injection e2 with e3; omega
 have hkey1 : ∀ e ∈ es.toList, e.key.oneCell' = true := fun e he => by
  have : e.key ∈ es.toList.map MapEntry.key := List.mem_map.2 ⟨e, he, rfl⟩
  rw [hent.keys] at this
  obtain ⟨x, _, hx⟩ := List.mem_map.1 this
  rw [← hx]; rfl
 refine zey (zri (fun n σ w' => ∃ picked, n = es.toList.length - picked.length ∧ EC es.toList ck mr w w.heap.size b3 w3.heap.size (.pointer (some ⟨b, o, none⟩)) (.func (.func f) #[] #[cap]) picked σ w') (n := es.toList.length - [].length) ⟨[], rfl, hEC⟩ ?_)
 rintro n σ5 w5 ⟨picked, rfl, h5⟩
 refine ztz B hL hlo hborn hbnd hkey1 (by simp; omega) h5 (fun σ6 w6 h6 hperm => ?_) fun σ6 w6 e hlt h6 => ⟨_, by simp at hlt ⊢; omega, picked ++ [e], rfl, h6⟩
 simp only [zgw, inB, if_true]
 refine hK _ _ ?_
 clear hK K h5 hEC i4 ho1
 obtain ⟨r0, r1, r3, _, m06, map6, _, _, _, ⟨v6, hc6, ht6, ho6, nb3, _⟩, _, _, _, _, _, _, _, _⟩ := h6
 obtain ⟨ks, hks, hkp⟩ : ∃ ks : List Nat, picked.map MapEntry.key = ks.map keyV ∧ ks.Perm (l.map Prod.fst) := by
  have hp2 : (picked.map MapEntry.key).Perm ((l.map Prod.fst).map keyV) := by
   have := hperm.map MapEntry.key
   rw [hent.keys] at this
   simpa [Function.comp_def] using this
  refine ⟨picked.map fun e => match e.key with | .int _ k => k.toNat | _ => 0, ?_, ?_⟩
  ·rw [List.map_map]
   refine List.map_congr_left fun e he => ?_
   have : e.key ∈ (l.map Prod.fst).map keyV := hp2.mem_iff.1 (List.mem_map.2 ⟨e, he, rfl⟩)
   obtain ⟨k, _, hk⟩ := List.mem_map.1 this
   simp only [Function.comp, ← hk, keyV]
   simp
  ·have := hp2.map fun v : Value => match v with | .int _ k => k.toNat | _ => 0
   simpa [Function.comp_def, keyV] using this
 have hpl : picked.length = l.length := by have := hperm.length_eq; simpa [hlen] using this
 have hkl : ks.length = l.length := by have := hkp.length_eq; simpa using this
 rw [hks, hpl] at ho6
 obtain ⟨bs, cs, rfl, hb1, hb2, hnc, hth, hrg, _⟩ : ∃ bs c, v6 = .slice (some ⟨bs, 0, none⟩) l.length c ∧ w.heap.size ≤ bs ∧ bs < w6.heap.size ∧ l.length ≤ c ∧ w6.there bs 0 (c * 1) ∧ w6.rangeAt bs 0 (ks.map keyV) ∧ (ks.map keyV).length = l.length * 1 := by
  rcases ho6 with ⟨_, h, _⟩ | h
  ·omega
  ·exact h
 have hb3s : b3 ≠ bs := nb3 bs 0 none _ _ rfl
 have s6 := m06.size
 have hso := hS.ok w6 b3 bs cs ks (by rw [hkl]; exact hc6) hb3s hb2 (fun e => by rw [e] at hkl; simp at hkl; omega) (by omega) hrg (fun i hi => hth i (by omega))
 rw [hkl] at hso
 refine zf fun K hK => zn fun τ => ?_
 simp +decide only [bK, bE, BEq.rfl, Nat.reduceAdd, r3, hL.lu.run_load1 rfl, hc6, znd, zwz hL, zne, zsf]
 have e3 : ∀ ρ : Env, ρ 103 = .pointer (some ⟨b3, 0, none⟩) → (#[V 3] : Array Operand).map (ev ρ) = #[.pointer (some ⟨b3, 0, none⟩)] := fun ρ h => by simp [h]
 have e4 : ∀ ρ : Env, (#[] : Array Operand).map (ev ρ) = #[] := fun ρ => by simp
 rw [zah hS.has]
 simp +decide only [bK, bE, Nat.reduceBeqDiff, BEq.rfl, e4]
 rw [e3 _ (by simp +decide only [bE, Nat.reduceBeqDiff, r3])]
 refine Call.mono (Rt' := _) hso ?_
 rintro _ w7 ⟨ks', hkp', hks', hrg7, m7⟩
 refine zd (K := fun σ' w' => zgw K _ .normal σ' w') fun σ7 hσ => hK _ _ ?_
 have u0 := hσ 0
 have u1 := hσ 1
 have u3 := hσ 3
 simp +decide only [bE, Nat.reduceBeqDiff, Nat.reduceAdd, Nat.zero_add, r0, r1, r3] at u0 u1 u3
 clear hσ hK K hso
 have s7 := m7.size
 have m07 : Mod w w7 zw := m06.fresh m7 fun k o e => by have : k = bs := e; omega
 have hc7 : w7.cell? ⟨b3, 0, none⟩ = some (.slice (some ⟨bs, 0, none⟩) l.length cs) := by
  rw [m7.cell _ _ (zfc (by rw [hc6]; rfl)) (fun h => hb3s h)]; exact hc6
 have hkeq : ks' = (zdd l).map Prod.fst := zuy (hkp'.trans (hkp.trans ((zih l).map Prod.fst).symm)) hks' (zww l)
 have hSl : (zdd l).length = l.length := (zih l).length_eq
 refine zf fun K hK => zn fun τ => ?_
 simp +decide only [bK, bE, BEq.rfl, Nat.reduceAdd, u3, hL.lu.run_load1 rfl, hc7, hL.lu.run_len]
 refine hK _ _ (zd fun σ8 hσ => ?_)
 have k0 := hσ 0
 have k1 := hσ 1
 have k7 := hσ 7
 have k8 := hσ 8
 have k9 := hσ 9
 simp +decide only [bE, Nat.reduceBeqDiff, BEq.rfl, Nat.reduceAdd, Nat.zero_add, u0, u1] at k0 k1 k7 k8 k9
 clear hσ hK K
 have no : ∀ {k : Nat} {o : Nat}, Mo k o → w.heap.size ≤ k → False := fun h1 h2 => by have := hMo _ _ h1; omega
 rw [← hSl] at k7 k8
 refine zgv (i := 9) (l := 8) (c := 10) (k := 2) hlo (L := (zdd l).length) (by omega) (ET (zdd l) w7 w7.heap.size Mo I (.pointer (some ⟨b, o, none⟩)) (.func (.func f) #[] #[cap]) (.slice (some ⟨bs, 0, none⟩) (zdd l).length cs)) (fun j σ w h => ⟨h.f9, h.f8, h.le⟩) (fun j σ w b h => ?_) ?_ (fun σ9 w9 h => ?_) (fun j σ' w' hj h => ?_)
 ·exact ⟨by rw [zq (by decide)]; exact h.f0, by rw [zq (by decide)]; exact h.f1, by rw [zq (by decide)]; exact h.f7, by rw [zq (by decide)]; exact h.f8, by rw [zq (by decide)]; exact h.f9, h.le, h.mod, h.inv⟩
 ·exact ⟨k0, k1, k7, k8, k9, Nat.zero_le _, .refl _ _, hI0 w7 m07⟩
 ·have hinv := h.inv
  rw [List.take_length] at hinv
  exact ⟨.inl rfl, .tuple #[], rfl, w7.heap.size, m07.size, h.mod.size, hinv, m07.trans h.mod fun k o hk h => h.elim False.elim fun h => h.elim id fun h => by have := m07.size; omega⟩
 ·refine tell_round B hT hL (l := l) (G := G) (mr := mr) (es := es) (ck := ck) (fun x hx => (zih l).mem_iff.1 hx) hf (hcb w7.heap.size m07.size) (Nat.le_refl _) (by omega) (fun o h => no h (by omega)) (by omega) hMb (by omega) (hMG mr hGm) (fun k hk => ⟨by have := hG k hk; omega, hMG k hk⟩) ?_ ?_ ?_ ?_ hknd hj h fun σ' w' h1 h2 => ⟨h1, h2⟩
  ·rw [hkeq] at hrg7
   simpa [Function.comp_def] using hrg7
  ·rw [m07.cell _ _ hb (fun h => h)]; exact hc
  ·rw [m07.block _ hmrlt (fun o h => h)]; exact hmap
  ·exact hent.mod m07 fun k hk => ⟨hG k hk, fun _ h => h, hk⟩
end
structure SortT (P : Program) (N : Nums) : Prop where
 has : zdh P N.zgj
 out : ∃ (ρ : Go.Shelf.Ren) (i ie : TypeInfo) (f6 f2 : Nat), Go.Proofs.LaysGg.n6 P ρ ∧ ρ.f 6 = N.zgj ∧ P.info? N.zav = some i ∧ i.desc = .slice N.zc ∧ P.packed N.zav = false ∧ P.info? N.zc = some ie ∧
  (∀ w, (Extern.Rtype.kind N.zc).run P w = .ok 10 w) ∧ ie.hasPointers = false ∧ ie.bytes = 4 ∧ ie.size = 1 ∧
  P.funcs.findIdx? (·.name == "internal/reflectlite" ++ ".Swapper$" ++ toString 6) = some f6 ∧ P.funcs.findIdx? (·.name == "internal/reflectlite" ++ ".Swapper$" ++ toString 2) = some f2 ∧
  ∀ args W, (callFunc f6 args).run P W = ((Extern.ReflectliteSwapper.swap true args).run P W).andThen fun v w' => .ok (.value v) w'
section
variable {P : Program} {N : Nums}
theorem Mod.grow (w : World) (os : Array Obj) (M : Nat → Nat → Prop) : Mod w (Go.Sort.grow w os) M :=
 .of_blocks rfl rfl rfl (by rw [Go.Sort.size_grow]; omega) fun k hk => Go.Sort.heap_grow_old w os hk
theorem Mod.ahead (w : World) (n : Nat) (M : Nat → Nat → Prop) : Mod w (Go.Sort.ahead w n) M := .of_blocks rfl rfl rfl (Nat.le_refl _) fun _ _ => rfl
theorem zqp (enc : Int → Value) (w : World) (bs : Nat) (d : Array Int) (k : Nat) : (Go.Sort.putRow enc w bs 0 d).heap[k]? = if bs = k then (w.heap[k]?).map (Go.Sort.onCells (Go.Sort.putCells enc 0 d)) else w.heap[k]? := by
 simp only [Go.Sort.putRow, Go.Sort.mapBlock, Array.getElem?_modify]
theorem Mod.putRow (enc : Int → Value) (w : World) (bs : Nat) (d : Array Int) : Mod w (Go.Sort.putRow enc w bs 0 d) (blk bs) := by
 have hne : ∀ k, k ≠ bs → (Go.Sort.putRow enc w bs 0 d).heap[k]? = w.heap[k]? := fun k hk => by rw [zqp, if_neg (fun e => hk e.symm)]
 have hsame : (Go.Sort.putRow enc w bs 0 d).heap[bs]? = (w.heap[bs]?).map (Go.Sort.onCells (Go.Sort.putCells enc 0 d)) := by rw [zqp, if_pos rfl]
 refine ⟨rfl, rfl, rfl, by rw [Go.Sort.size_putRow]; exact Nat.le_refl _, fun k hk hn => hne k fun e => hn 0 e, fun k o hk hn => World.cell?_of_block (hne k fun e => hn e), fun k o hk => ?_, fun k o hk => Go.Sort.frozen?_putRow enc w bs 0 d _, fun k hk => ?_⟩
 ·by_cases e : k = bs
  ·subst e
   simp only [World.cell?, hsame]
   cases w.heap[k]? with
   | none => rfl
   | some ob =>
    cases ob <;> simp [Go.Sort.onCells, Go.Sort.putCells]
  ·rw [World.cell?_of_block (hne k e)]
 ·by_cases e : k = bs
  ·subst e
   simp only [World.shape?, hsame]
   cases w.heap[k]? with
   | none => rfl
   | some ob =>
    cases ob <;> simp [Go.Sort.onCells, Go.Sort.putCells]
  ·simp only [World.shape?, hne k e]
theorem sortOk (B : Base P N) (F : Fns P N) (hN : N.zcm ≠ 0) (hL : LU P N) (hT : SortT P N) : SortOk P N := by
 refine ⟨hT.has, fun w bv bs c ks hv hne hbs hks0 hkl hrg hth => ?_⟩
 obtain ⟨ρ, i, ie, f6, f2, L, hρ, hi, hd, hpk, hie, hke, hp, hby, hs1, hf6, hf2, hx⟩ := hT.out
 have hless1 := (F.PTags_Each_1 hN).has
 obtain ⟨ks0, hks⟩ : ∃ d : Array Int, d = (ks.map fun k : Nat => (k : Int)).toArray := ⟨_, rfl⟩
 have hsz : ks0.size = ks.length := by rw [hks]; simp
 have hget : ∀ t, t < ks.length → ks0[t]! = ((ks.getD t 0 : Nat) : Int) := fun t ht => by
  rw [hks, getElem!_pos _ t (by simpa using ht)]
  simp [List.getD, ht]
 unfold Call
 rw [← hρ]
 by_cases h2 : 2 ≤ ks.length
 ·have hH : Go.Sort.Holds (Value.int .u32) w bs 0 ks0 := by
   intro j hj
   rw [hsz] at hj
   refine ⟨?_, by have := (hth j hj).2; simpa using this⟩
   have := hrg j (keyV (ks.getD j 0)) (by rw [List.getElem?_map, List.getElem?_eq_getElem hj]; simp [List.getD, hj])
   rw [hget j hj]
   exact this
  have hless : Go.Proofs.LessReads P N.zcm #[.pointer (some ⟨bv, 0, none⟩)] (Value.int .u32) Go.Sort.ltInt bs 0 ks0.size w := by
   intro m os dk hdk a b ha hb
   have e : Go.Proofs.sortWorld (Value.int .u32) w bs 0 m dk os = Go.Sort.putRow (Value.int .u32) (Go.Sort.grow (Go.Sort.ahead w m) os) bs 0 dk := by
    unfold Go.Proofs.sortWorld; rw [Go.Sort.putRow_grow _ (Go.Sort.ahead w m) _ bs 0 _ hbs]
   have hHg : Go.Sort.Holds (Value.int .u32) (Go.Sort.grow (Go.Sort.ahead w m) os) bs 0 ks0 := Go.Sort.holds_grow _ _ _ bs 0 ks0 hbs (Go.Sort.holds_ahead _ _ _ _ _ _ hH)
   have hvl : bv < w.heap.size := zfc (by rw [hv]; rfl)
   have hc := call_less (st := hL.lu) (w := Go.Proofs.sortWorld (Value.int .u32) w bs 0 m dk os) (bv := bv) (blk := bs) (n := ks.length) (c := c) B F hN (by
    rw [e, Go.Sort.cell?_putRow_other _ _ bs 0 dk _ (.inl hne), Go.Sort.cell?_grow _ _ _ hvl]; exact hv) (g := fun t => dk[t]!) (fun t ht => by
    rw [e]
    have := Go.Sort.cell?_putRow (Value.int .u32) _ bs 0 ks0 dk hHg hdk t (by rw [hdk, hsz]; exact ht)
    simpa using this) (show a < ks.length by rw [← hsz]; exact ha) (show b < ks.length by rw [← hsz]; exact hb)
   refine Calls.mono hc ?_
   rintro ex w' ⟨v, rfl, rfl, rfl⟩
   exact ⟨rfl, 1, rfl⟩
  have hsw : Go.Lib.swapperK ks0.size ie 10 = 6 := by
   have a : (ks0.size == 0) = false := beq_eq_false_iff_ne.2 (by omega)
   have b : (ks0.size == 1) = false := beq_eq_false_iff_ne.2 (by omega)
   simp [Go.Lib.swapperK, hp, hby, a, b]
  have hS := Go.Proofs.Any.sort_Slice_sorted L N.zav N.zc i ie hi hd hpk hie 10 hke hs1 (fun w => B.uint32.run_isAgg) (Value.int .u32) (fun _ => rfl) Go.Sort.ltInt Go.Sort.swo_ltInt N.zcm #[.pointer (some ⟨bv, 0, none⟩)]
   (fun args w => zlf hless1) bs 0 c ks0 (by omega) (by omega) f6 (by rw [hsw]; exact hf6) true hx w hless hH hbs
  rw [hsz] at hS
  refine Calls.mono hS ?_
  rintro e w' ⟨rfl, d', n, os, hperm, hso, rfl⟩
  obtain ⟨hd's, _, hpm⟩ := hperm
  rw [show d'.extract 0 ks.length = d' by rw [← hsz, ← hd's]; simp, show ks0.extract 0 ks.length = ks0 by rw [← hsz]; simp] at hpm
  refine ⟨_, rfl, d'.toList.map Int.toNat, ?_, ?_, ?_, ?_⟩
  ·have := hpm.map Int.toNat
   rw [hks] at this
   simpa [Function.comp_def] using this
  ·have hnn : ∀ x ∈ d'.toList, 0 ≤ x := fun x hx => by
    have := hpm.mem_iff.1 hx
    rw [hks] at this
    simp at this
    obtain ⟨k, _, rfl⟩ := this
    omega
   rw [List.pairwise_map, List.pairwise_iff_getElem]
   intro a b ha hb hab
   have h3 := hso a b (Nat.zero_le _) hab (by rw [← hsz, ← hd's]; simpa using hb)
   rw [getElem!_pos d' a (by simpa using ha), getElem!_pos d' b (by simpa using hb)] at h3
   simp only [Go.Sort.ltInt, decide_eq_false_iff_not] at h3
   simp only [Array.getElem_toList]
   omega
  ·have hds : d'.size = ks.length := by omega
   intro j v hj
   have hjl : j < d'.size := by
    have := (List.getElem?_eq_some_iff.1 hj).1
    simpa using this
   have hH2 : Go.Sort.Holds (Value.int .u32) (Go.Sort.ahead w n) bs 0 ks0 := Go.Sort.holds_ahead _ _ _ _ _ _ hH
   have hc := Go.Sort.cell?_putRow (Value.int .u32) (Go.Sort.ahead w n) bs 0 ks0 d' hH2 hd's j hjl
   rw [Go.Sort.cell?_grow _ _ _ (by rw [Go.Sort.size_putRow]; exact hbs), hc]
   rw [List.getElem?_map, List.getElem?_map] at hj
   have hnn : 0 ≤ d'[j] := by
    have := hpm.mem_iff.1 (show d'[j] ∈ d'.toList by simp)
    rw [hks] at this
    simp at this
    obtain ⟨k, _, h⟩ := this
    omega
   rw [getElem!_pos d' j hjl]
   have : d'.toList[j]? = some d'[j] := by simp [hjl]
   rw [this] at hj
   simp [keyV] at hj
   rw [← hj, Int.max_eq_left hnn]
  ·exact (((Mod.ahead w n _).trans' (Mod.putRow _ _ bs d')).trans' (Mod.grow _ os _))
 ·obtain ⟨k, rfl⟩ : ∃ k, ks = [k] := by
   match ks, hks0, h2 with
   | [k], _, _ => exact ⟨k, rfl⟩
   | a :: b :: l, _, h => simp at h
  have hS := Go.Proofs.Any.sort_Slice_tiny L N.zav N.zc i ie hi hd hpk hie 10 hke (some ⟨bs, 0, none⟩) 1 c (Nat.le_refl _) f2 (by simpa [Go.Lib.swapperK] using hf2) (.func N.zcm) #[] #[.pointer (some ⟨bv, 0, none⟩)] w
  refine Calls.mono hS ?_
  rintro e w' ⟨rfl, os, rfl⟩
  exact ⟨_, rfl, [k], List.Perm.refl _, by simp, (Mod.grow w os zw).rangeAt hbs (fun _ _ _ h => h) hrg, Mod.grow _ _ _⟩
end
section
variable {P : Program} {N : Nums}
end
def zhn : Value → List UInt8
 | .agg a => a.toList.map fun v => match v with
  | .int _ n => UInt8.ofNat n.toNat
  | _ => 0
 | .string s => s.data.toList
 | _ => []
def PK.tr : PK → Value → Tr
 | .bool, v => zpm (match v with | .bool true => 1 | _ => 0) [] false
 | .uuid, v => zpm 0 (zhn v) false
 | _, v => zpm (match v with | .int _ n => n | _ => 0) [] false
mutual
def Ty.tr : Ty → Val → Tr
 | .pr k _, .num v => k.tr v
 | .txt _, .num v => zpm 0 (zhn v) false
 | .txt _, .nstr o => zpm 0 (o.getD []) o.isNone
 | .txt _, .oct o => zpm 0 (o.getD []) o.isNone
 | .arr .., .nilA => .mk 0 [] true [] []
 | .arr _ _ e, .arr _ l => .mk 0 [] false (l.map e.tr) []
 | .row _ _ _ fs, .row l => .mk 0 [] false (fs.trs l) (fs.tgs l)
 | .tv _, .nstr o => zpm 0 (o.getD []) o.isNone
 | _, _ => zpm 0 [] false
def El.tr : El → Val → Tr
 | .pr k, .num v => k.tr v
 | .txt _, .num v => zpm 0 (zhn v) false
 | .txt _, .nstr o => zpm 0 (o.getD []) o.isNone
 | .txt _, .oct o => zpm 0 (o.getD []) o.isNone
 | .row _ _ _ fs, .row l => .mk 0 [] false (fs.trs l) (fs.tgs l)
 | _, _ => zpm 0 [] false
def Fds.trs : Fds → List Val → List Tr
 | .cons _ ty r, v :: l => ty.tr v :: r.trs l
 | _, _ => []
def Fds.tgs : Fds → List Val → List (Nat × List UInt8)
 | .tags, [.tags l] => zdd l
 | .cons _ _ r, _ :: l => r.tgs l
 | _, _ => []
end
def Fds.tr (fs : Fds) (l : List Val) : Tr := .mk 0 [] false (fs.trs l) (fs.tgs l)
def big : Nat := 1099511627776
def PK.okV : PK → Value → Prop
 | .bool, v => ∃ b, v = .bool b
 | .i8, v => ∃ n, v = .int .i8 n ∧ IntKind.i64.wrap n = n
 | .i16, v => ∃ n, v = .int .i16 n ∧ IntKind.i64.wrap n = n
 | .u16, v => ∃ n, v = .int .u16 n ∧ IntKind.i64.wrap n = n
 | .i32, v => ∃ n, v = .int .i32 n ∧ IntKind.i64.wrap n = n
 | .i64, v => ∃ n, v = .int .i64 n ∧ IntKind.i64.wrap n = n
 | .uuid, v => ∃ l : List UInt8, v = .agg (l.map zam).toArray ∧ l.length = 16
 | .en _, v => ∃ n, v = .int .i8 n ∧ IntKind.i64.wrap n = n
def Txt.okV : Txt → Val → Prop
 | .str, .num v => ∃ l, v = strV l ∧ l.length < big
 | .nstr, .nstr o => (o.getD []).length < big
 | .byt, .oct o => (o.getD []).length < big
 | .nbyt, .oct o => (o.getD []).length < big
 | _, _ => False
mutual
def Ty.okV : Ty → Val → Prop
 | .pr k _, .num v => k.okV v
 | .txt k, v => k.okV v
 | .arr .., .nilA => True
 | .arr _ _ e, .arr sz l => sz = e.sz ∧ l.length < big ∧ ∀ v ∈ l, e.okV v
 | .row _ _ _ fs, .row l => fs.okV l
 | .tv _, v => Txt.nstr.okV v
 | _, _ => False
def El.okV : El → Val → Prop
 | .pr k, .num v => k.okV v
 | .txt k, v => k.okV v
 | .row _ _ _ fs, .row l => fs.okV l
 | _, _ => False
def Fds.okV : Fds → List Val → Prop
 | .nil, l => l = []
 | .tags, [.tags l] => l.length < big ∧ ∀ x ∈ l, x.2.length < big
 | .cons _ ty r, v :: l => ty.okV v ∧ r.okV l
 | _, _ => False
end
section
variable {P : Program} {N : Nums}
end
section
variable {P : Program} {N : Nums}
end
section
variable {P : Program} {N : Nums}
end
section
variable {P : Program} {N : Nums}
end
structure Rw where
 dst : Option Nat
 tmps : List Nat
 after : List Nat
 sel : Bool
 deriving Inhabited
def rowOf (o : ROp) : Rw := ⟨o.dst, zfu o, o.after, zxm o.op⟩
def Rw.ren (f : Nat → Nat) (r : Rw) : Rw := ⟨r.dst.map f, r.tmps.map f, r.after, r.sel⟩
def pairT (l : List Rw) (rd : Nat → Bool) (i j : Nat) : Bool :=
 match (l.getD i ⟨none, [], [], false⟩).dst with
 | none => true
 | some d =>
  if i == j then !(l.getD j ⟨none, [], [], false⟩).tmps.contains d
  else (match (l.getD j ⟨none, [], [], false⟩).dst with | some d' => !(Nat.beq d' d) | none => true) &&
   (!(l.getD j ⟨none, [], [], false⟩).tmps.contains d || ((l.getD j ⟨none, [], [], false⟩).after.contains i && (!rd j || rd i)))
def planT (l : List Rw) (rd : Nat → Bool) : Bool :=
 (l.zipIdx.all fun (r, i) => r.after.all fun e => Nat.blt e i) && l.all (fun r => !r.sel) && (List.range l.length).all fun i => (List.range l.length).all fun j => pairT l rd i j
theorem getD_row (l : List ROp) {i : Nat} (hi : i < l.length) : rowOf (l.getD i default) = (l.map rowOf).getD i ⟨none, [], [], false⟩ := by
 simp [List.getD, hi]
theorem plan2_of_T {l : List ROp} {rd : Nat → Bool} (h : planT (l.map rowOf) rd = true) : zng l rd = true := by
 unfold planT at h
 unfold zng
 rw [Bool.and_eq_true, Bool.and_eq_true] at h ⊢
 obtain ⟨⟨h1, h2⟩, h3⟩ := h
 refine ⟨⟨?_, ?_⟩, ?_⟩
 ·unfold zrf
  rw [List.zipIdx_map, List.all_map] at h1
  exact h1
 ·rw [List.all_map] at h2; exact h2
 ·rw [List.all_eq_true] at h3 ⊢
  intro i hi
  have h4 := h3 i (by simpa using hi)
  rw [List.all_eq_true] at h4 ⊢
  intro j hj
  have h5 := h4 j (by simpa using hj)
  unfold pairT at h5
  rw [← getD_row l (by simpa using hi), ← getD_row l (by simpa using hj)] at h5
  exact h5
theorem zpe {f : Nat → Nat} (hf : ∀ a b, f a = f b → a = b) (d : Nat) : ∀ (l : List Nat), (l.map f).contains (f d) = l.contains d
 | [] => rfl
 | x :: l => by
  rw [List.map_cons, List.contains_cons, List.contains_cons, zpe hf d l]
  congr 1
  rw [Bool.eq_iff_iff, beq_iff_eq, beq_iff_eq]
  exact ⟨hf _ _, fun e => by rw [e]⟩
theorem planT_ren {f : Nat → Nat} (hf : ∀ a b, f a = f b → a = b) (t : List Rw) (rd : Nat → Bool) : planT (t.map (Rw.ren f)) rd = planT t rd := by
 have hg : ∀ i, (t.map (Rw.ren f)).getD i ⟨none, [], [], false⟩ = (t.getD i ⟨none, [], [], false⟩).ren f := fun i => by
  simp only [List.getD, List.getElem?_map]
  cases t[i]? <;> rfl
 have e3 : ∀ i j, pairT (t.map (Rw.ren f)) rd i j = pairT t rd i j := fun i j => by
  unfold pairT
  rw [hg, hg]
  cases hd : (t.getD i ⟨none, [], [], false⟩).dst with
  | none => simp only [Rw.ren, hd, Option.map_none]
  | some d =>
   simp only [Rw.ren, hd, Option.map_some, zpe hf]
   cases hd' : (t.getD j ⟨none, [], [], false⟩).dst with
   | none => rfl
   | some d' =>
    simp only [Option.map_some]
    have : Nat.beq (f d') (f d) = Nat.beq d' d := by
     rw [Bool.eq_iff_iff]
     simp only [Nat.beq_eq]
     exact ⟨hf _ _, fun e => by rw [e]⟩
    rw [this]
 unfold planT
 rw [List.zipIdx_map, List.all_map, List.all_map, List.length_map]
 simp only [e3]
 rfl
def sh (q t : Nat) : Nat := if t < 106 then t else q + t
theorem sh_inj (q : Nat) : ∀ a b, sh q a = sh q b → a = b := fun a b h => by
 unfold sh at h
 split at h <;> split at h <;> omega
theorem ztq {l0 l : List ROp} {rd : Nat → Bool} (q : Nat) (h0 : planT (l0.map rowOf) rd = true) (he : l.map rowOf = (l0.map rowOf).map (Rw.ren (sh q))) : zng l rd = true :=
 plan2_of_T (by rw [he, planT_ren (sh_inj q)]; exact h0)
section
variable {P : Program} {N : Nums}
theorem zjr {ρ : Env} {k t : Nat} {v : Value} (h : k < 100) (ht : 100 ≤ t) : put ρ (some k) v t = ρ t := by
 show (if t = k then v else ρ t) = ρ t
 rw [if_neg (by omega)]
end
section
variable {P : Program} {N : Nums}
theorem zft {ρ : Env} {k t : Nat} {v : Value} (h : t ≠ k) : put ρ (some k) v t = ρ t := by
 show (if t = k then v else ρ t) = ρ t
 rw [if_neg h]
theorem zgy {ρ : Env} {k : Nat} {v : Value} : put ρ (some k) v k = v := by
 show (if k = k then v else ρ k) = v
 rw [if_pos rfl]
end
section
variable {P : Program} {N : Nums}
end
section
variable {P : Program} {N : Nums}
end
section
variable {P : Program} {N : Nums}
end
section
variable {P : Program} {N : Nums}
end
section
variable (N : Nums) (tf : TypeId → FuncId × FuncId)
end
section
variable {P : Program} {N : Nums} {tf : TypeId → FuncId × FuncId}
theorem WL_one {loc : List Nat} {N' : Nat} {Q : Exit → Env → World → Prop} {σ : Env} {w : World} {x : C} {l : List C} (h : W P loc N' x (fun e σ w => match e with | .normal => WL P loc N' l Q σ w | _ => False) σ w) : WL P loc N' (x :: l) Q σ w :=
 zau fun K hK => zpj h fun e σ w hq => by
  cases e with
  | normal => exact hK _ _ hq
  | _ => exact hq.elim
theorem RepL.get {w : World} {G : Nat → Prop} : ∀ {l : List Val} {css : List (List Value)} {j : Nat} {v : Val}, RepL w G l css → l[j]? = some v → ∃ c, css[j]? = some c ∧ Rep w G v c
 | [], _, j, v, _, hj => by simp at hj
 | v' :: l, _, 0, v, ⟨c, r, h1, h2, h3⟩, hj => by subst h1; simp at hj; subst hj; exact ⟨c, rfl, h2⟩
 | v' :: l, _, j + 1, v, ⟨c, r, h1, h2, h3⟩, hj => by subst h1; simpa using RepL.get h3 (by simpa using hj)
end
section
variable {P : Program} {N : Nums} {tf : TypeId → FuncId × FuncId}
mutual
theorem Ty.rep_len {w : World} {G : Nat → Prop} : ∀ (t : Ty) (v : Val) {cs : List Value}, t.okV v → Rep w G v cs → cs.length = t.sz
 | .pr k d, .num v, cs, hv, hr => by
  simp only [Rep] at hr
  subst hr
  cases k with
  | bool => obtain ⟨x, rfl⟩ := hv; rfl
  | uuid => obtain ⟨x, rfl, hx⟩ := hv; simpa [Value.cells, Ty.sz, PK.sz] using hx
  | _ => obtain ⟨x, rfl, _⟩ := hv; rfl
 | .txt k, v, cs, hv, hr => by
  cases k <;> cases v <;> simp only [Ty.okV, Txt.okV] at hv
  ·obtain ⟨x, rfl, _⟩ := hv; simp only [Rep] at hr; subst hr; rfl
  ·rename_i o
   cases o with
   | none => simp only [Rep] at hr; subst hr; rfl
   | some s => simp only [Rep] at hr; obtain ⟨b, rfl, _⟩ := hr; rfl
  ·simp only [Rep] at hr; obtain ⟨u, rfl, _⟩ := hr; rfl
  ·simp only [Rep] at hr; obtain ⟨u, rfl, _⟩ := hr; rfl
 | .arr st nul e, v, cs, hv, hr => by
  cases v <;> simp only [Ty.okV] at hv
  ·simp only [Rep] at hr; subst hr; rfl
  ·simp only [Rep] at hr; obtain ⟨b, c, css, rfl, _⟩ := hr; rfl
 | .tv k, v, cs, hv, hr => by
  cases v <;> simp only [Ty.okV, Txt.okV] at hv
  rename_i o
  cases o with
  | none => simp only [Rep] at hr; subst hr; rfl
  | some s => simp only [Rep] at hr; obtain ⟨b, rfl, _⟩ := hr; rfl
 | .row T pT d fs, v, cs, hv, hr => by
  cases v <;> simp only [Ty.okV] at hv
  simp only [Rep] at hr
  obtain ⟨css, rfl, hrl⟩ := hr
  simp only [Ty.sz]
  exact Fds.rep_len fs _ hv hrl
 | .pr _ _, .nstr _, _, hv, _ => by simp only [Ty.okV] at hv
 | .pr _ _, .oct _, _, hv, _ => by simp only [Ty.okV] at hv
 | .pr _ _, .nilA, _, hv, _ => by simp only [Ty.okV] at hv
 | .pr _ _, .arr _ _, _, hv, _ => by simp only [Ty.okV] at hv
 | .pr _ _, .row _, _, hv, _ => by simp only [Ty.okV] at hv
 | .pr _ _, .nilP, _, hv, _ => by simp only [Ty.okV] at hv
 | .pr _ _, .ptr _, _, hv, _ => by simp only [Ty.okV] at hv
 | .pr _ _, .tags _, _, hv, _ => by simp only [Ty.okV] at hv
theorem Fds.rep_len {w : World} {G : Nat → Prop} : ∀ (fs : Fds) (l : List Val) {css : List (List Value)}, fs.okV l → RepL w G l css → css.flatten.length = fs.sz
 | .nil, l, css, hv, hr => by
  simp only [Fds.okV] at hv
  subst hv
  simp only [RepL] at hr
  subst hr; rfl
 | .tags, l, css, hv, hr => by
  match l, hv with
  | [.tags u], _ =>
   obtain ⟨c, r, rfl, h1, h2⟩ := hr
   simp only [RepL] at h2
   subst h2
   simp only [Rep] at h1
   obtain ⟨v, rfl, _⟩ := h1
   rfl
 | .cons g t r, [], css, hv, hr => by simp only [Fds.okV] at hv
 | .cons g t r, v :: l, css, hv, hr => by
  obtain ⟨c, rest, rfl, h1, h2⟩ := hr
  rw [List.flatten_cons, List.length_append, Ty.rep_len t v hv.1 h1, Fds.rep_len r l hv.2 h2]
  rfl
end
end
section
variable (ver : Int) (fl : Bool)
end
section
variable (N : Nums)
def c_new (tT dflt : Nat) : C := seqs [zgr 0 (.pointer none), .ops [⟨some 101, .alloc tT, 0, none, []⟩], .ops [⟨some 0, .call ⟨.value (.func dflt), #[V 1], #[tT]⟩, N.t_, none, []⟩], .ops [⟨some 100, .assign (V 1), 0, none, []⟩], .ret]
def c_set (tT : Nat) : C := .ops [⟨some 0, .move (V 0), 0, none, []⟩, ⟨some 1, .move (V 1), 0, none, []⟩, ⟨some 2, .nilCheck (T 0), 0, none, []⟩, ⟨some 3, .fieldAddr tT (T 2) 0, 0, none, []⟩, ⟨none, .store N.zbd (T 3) (T 1), 0, none, []⟩]
def c_max (n : Nat) : C := seqs [zgr 1 (.int .i16 0), zgr 1 (.int .i16 n), .ret]
def c_maxI (pT newP maxV : Nat) : C := seqs [zgr 0 (.int .i64 0), .ops [⟨some 0, .call ⟨.value (.func newP), #[], #[]⟩, pT, none, []⟩, ⟨some 1, .call ⟨.value (.func maxV), #[T 0], #[pT]⟩, N.zbd, none, []⟩, ⟨some 2, .convert N.zbd N.ze (T 1), 0, none, []⟩, ⟨some 100, .assign (T 2), 0, none, []⟩], .ret]
end
section
variable {P : Program} {N : Nums}
def ArgOct (w : World) (v : Value) (l : List UInt8) : Prop :=
 (∃ ad c, v = .slice ad 0 c ∧ l = []) ∨ ∃ a c, v = .slice (some a) l.length c ∧ l.length ≤ c ∧ a.block < w.heap.size ∧ ∀ j x, l[j]? = some x → w.cell? (a.add j) = some (zam x)
end
section
variable {P : Program} {N : Nums}
theorem run_rem {t : TypeId} {x y : Operand} {k : IntKind} {a b : Int} {w : World} (h : b ≠ 0) : (do eqGuard .rem t x y (.int k a) (.int k b); binOp .rem t (.int k a) (.int k b) : Sem Value).run P w = .ok (.int k (a.tmod b)) w := by
 simp [eqGuard, binOp, Op.intDiv, h]
end
section
variable {P : Program} {N : Nums}
theorem ArgOct.run_len (B : Base P N) {w : World} {v : Value} {l : List UInt8} (h : ArgOct w v l) {ty : TypeId} : (Builtin.len_ #[N.za] ty #[v]).run P w = .ok (.int .i64 l.length) w := by
 rcases h with ⟨ad, c, rfl, rfl⟩ | ⟨a, c, rfl, _⟩
 ·exact B.Lu8.run_len
 ·exact B.Lu8.run_len
theorem zvu (B : Base P N) (F : Fns P N) (hN : N.zke ≠ 0) (w : World) (n k : Int) (hk : IntKind.i64.wrap (k + 1) ≠ 0) : Call P N.zke #[.int .u8 n, .int .i64 k] w fun v w' => v = .int .i64 ((IntKind.i64.wrap n).tmod (IntKind.i64.wrap (k + 1))) ∧ w' = w := by
 refine (F.version hN).call rfl fun loc N' hlo => ?_
 unfold zwb
 refine zf fun K hK => zcy (hK _ _ ?_)
 clear hK K
 obtain ⟨σ, hσ⟩ : ∃ σ, σ = upd (zef #[.int .u8 n, .int .i64 k]) 2 (.int .i64 0) := ⟨_, rfl⟩
 have f0 : σ 0 = .int .u8 n := by rw [hσ, zq (by decide)]; rfl
 have f1 : σ 1 = .int .i64 k := by rw [hσ, zq (by decide)]; rfl
 rw [← hσ]
 clear hσ
 refine zf fun K hK => zn fun τ => ?_
 have hcv := fun {w : World} => zax (P := P) (w := w) (k' := .u8) B.uint8 B.int (n := n) ⟨_, rfl⟩
 simp +decide only [bK, bE, Nat.reduceBeqDiff, BEq.rfl, Nat.reduceAdd, Nat.zero_add, f0, f1, hcv, run_rem hk]
 refine hK _ _ (zd fun σ3 hσ => zbl ⟨.inr rfl, _, rfl, ?_⟩)
 have g2 := hσ 2
 simp +decide only [bE, BEq.rfl, Nat.reduceAdd] at g2
 exact ⟨g2, rfl⟩
theorem call_max {f : Nat} {k : Nat} (hf : FOk P f 1 (c_max k) [.var 1]) (w : World) (x : Value) : Call P f #[x] w fun v w' => v = .int .i16 k ∧ w' = w := by
 refine hf.call rfl fun loc N' hlo => ?_
 unfold c_max
 refine zif (by simp) ?_
 refine zau fun K hK => zcy (hK _ _ ?_)
 refine zau fun K hK => zcy (hK _ _ ?_)
 exact zau fun K hK => zbl ⟨.inr rfl, _, rfl, upd_same _ _ _, rfl⟩
end
section
variable {P : Program} {N : Nums}
end
section
variable {P : Program} {N : Nums}
end
section
open Go Go.RowKit Go.ChangeShapes Go.WideShapes
theorem octet_of {z : Int} (h : (Lit.int .u8 z).wf = true) : Value.int .u8 z = zam (UInt8.ofNat z.toNat) := by
 have h2 : 0 ≤ z ∧ z ≤ 255 := by
  simp [Lit.wf, IntKind.min, IntKind.max, IntKind.signed, IntKind.bits] at h
  omega
 unfold zam
 congr 1
 rw [UInt8.toNat_ofNat']
 omega
end
end Go.Kf
