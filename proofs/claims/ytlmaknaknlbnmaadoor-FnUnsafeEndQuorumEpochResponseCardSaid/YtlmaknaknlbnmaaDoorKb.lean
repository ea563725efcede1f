/- A part of the calculus by which the claim's proof goes: over any program and any numbering of its functions; no condition beyond those that each theorem names. -/
import Derived.KernelRfl
import Derived.Laws.BytesArg
import Derived.Laws.IdiomCopy
import Derived.Laws.AppendOwn
import Derived.Test.YtlmaknaknlbnmaaDoorKa
set_option linter.unusedSimpArgs false
set_option linter.unusedVariables false
namespace Go.Kf
open Go Go.RowKit
def be (l : List UInt8) : Nat := l.foldl (fun a x => a * 256 + x.toNat) 0
theorem or_add (n a b s : Nat) (ha : a < 2 ^ s) (hb : b % 2 ^ s = 0) (hn : a + b < 2 ^ n) : ((BitVec.ofInt n (a : Int) ||| BitVec.ofInt n (b : Int)).toNat : Int) = a + b := by
 have h0 : ∀ x : Nat, x < 2 ^ n → (BitVec.ofInt n (x : Int)).toNat = x := fun x hx => by
  rw [BitVec.toNat_ofInt, ← Int.natCast_emod, Int.toNat_natCast, Nat.mod_eq_of_lt hx]
 have h1 := h0 a (by omega)
 have h2 := h0 b (by omega)
 rw [BitVec.toNat_or, h1, h2]
 obtain ⟨m, rfl⟩ : ∃ m, b = 2 ^ s * m := ⟨b / 2 ^ s, by have := Nat.div_add_mod b (2 ^ s); omega⟩
 have := Nat.two_pow_add_eq_or_of_lt ha m
 rw [Nat.or_comm, ← this]
 omega
theorem zfj (n : Nat) (h : n < 2 ^ 32) : IntKind.u32.wrap n = n := by
 simp [IntKind.wrap, IntKind.bits, IntKind.signed]; omega
theorem zms (n : Nat) (h : n < 2 ^ 16) : IntKind.u16.wrap n = n := by
 simp [IntKind.wrap, IntKind.bits, IntKind.signed]; omega
theorem zgf (n : Nat) (h : n < 2 ^ 64) : IntKind.u64.wrap n = n := by
 simp [IntKind.wrap, IntKind.bits, IntKind.signed]; omega
theorem shl_u16 (n s : Nat) (hs : s < 16) (h : n * 2 ^ s < 2 ^ 16) : shl .u16 n s = (n * 2 ^ s : Nat) := by
 unfold shl
 rw [show min (s : Int).toNat IntKind.u16.bits = s by simp [IntKind.bits]; omega, ← zms _ h]; push_cast; rfl
theorem zmz (n s : Nat) (hs : s < 32) (h : n * 2 ^ s < 2 ^ 32) : shl .u32 n s = (n * 2 ^ s : Nat) := by
 unfold shl
 rw [show min (s : Int).toNat IntKind.u32.bits = s by simp [IntKind.bits]; omega, ← zfj _ h]; push_cast; rfl
theorem zkl (n s : Nat) (hs : s < 64) (h : n * 2 ^ s < 2 ^ 64) : shl .u64 n s = (n * 2 ^ s : Nat) := by
 unfold shl
 rw [show min (s : Int).toNat IntKind.u64.bits = s by simp [IntKind.bits]; omega, ← zgf _ h]; push_cast; rfl
theorem bor_u16 (a b s : Nat) (ha : a < 2 ^ s) (hb : b % 2 ^ s = 0) (hn : a + b < 2 ^ 16) : bor .u16 a b = (a + b : Nat) := by
 show IntKind.u16.wrap ((BitVec.ofInt 16 (a : Int) ||| BitVec.ofInt 16 (b : Int)).toNat : Int) = _
 rw [or_add 16 a b s ha hb hn]; exact_mod_cast zms (a + b) hn
theorem znx (a b s : Nat) (ha : a < 2 ^ s) (hb : b % 2 ^ s = 0) (hn : a + b < 2 ^ 32) : bor .u32 a b = (a + b : Nat) := by
 show IntKind.u32.wrap ((BitVec.ofInt 32 (a : Int) ||| BitVec.ofInt 32 (b : Int)).toNat : Int) = _
 rw [or_add 32 a b s ha hb hn]; exact_mod_cast zfj (a + b) hn
theorem zkt (a b s : Nat) (ha : a < 2 ^ s) (hb : b % 2 ^ s = 0) (hn : a + b < 2 ^ 64) : bor .u64 a b = (a + b : Nat) := by
 show IntKind.u64.wrap ((BitVec.ofInt 64 (a : Int) ||| BitVec.ofInt 64 (b : Int)).toNat : Int) = _
 rw [or_add 64 a b s ha hb hn]; exact_mod_cast zgf (a + b) hn
theorem zqg {P : Program} {N : Nums} (B : Base P N) (F : Fns P N) (hN : N.zcg ≠ 0) {w : World} {lo hi : Nat} {v : Value} {nl : Bool} {l : List UInt8} (hv : zbc w lo hi v nl l) (hl : 2 ≤ l.length) (hhi : hi ≤ w.heap.size) :
  Call P N.zcg #[.agg #[], v] w fun v w' => v = .int .u16 (be (l.take 2)) ∧ Mod w w' zu := by
 have h := F.bigEndian_Uint16 hN
 rcases hv with ⟨_, _, rfl⟩ | ⟨b, o, c, _, rfl, h2, h34, h5⟩
 ·simp at hl
 match l, hl with
 | x0 :: x1 :: r, hl =>
 obtain ⟨h3, h4⟩ := h34 (by simp)
 have hc : ∀ (w' : World), Mod w w' zu → w'.cell? ⟨b, o, none⟩ = some (zbo x0) ∧ w'.cell? ⟨b, o + 1, none⟩ = some (zbo x1) := by
  intro w' hm
  have := hm.rangeAt (by omega) (fun _ _ _ hf => hf) h5
  exact ⟨this 0 _ rfl, this 1 _ rfl⟩
 generalize hn : (x0 :: x1 :: r).length = n at *
 refine h.call rfl fun loc N' hlo => ?_
 unfold zhl
 refine zc fun K hK => zad fun τ => ?_
 simp +decide only [bK, bE, Nat.reduceAdd, Nat.zero_add, List.take_succ_cons, List.take_zero]
 refine hK _ _ (zg fun σ1 hσ => ?_)
 have e1 := hσ 1
 simp +decide only [bE, Nat.reduceBeqDiff, Nat.reduceAdd, zgy] at e1
 clear hK K hσ τ
 have hm1 : Mod w (w.alloc (.cells (Value.agg #[]).cells N.zay)) zu := Mod.alloc _ _ _
 have hc1 := hc _ hm1
 generalize (w.alloc (.cells (Value.agg #[]).cells N.zay)) = w1 at *
 obtain ⟨c0, c1⟩ := hc1
 refine zc fun K hK => zad fun τ => ?_
 simp +decide (disch := omega) only [bK, bE, BEq.rfl, Nat.reduceAdd, Int.reduceToNat, Nat.mul_one, List.take_succ_cons, List.take_zero, e1, zfd B.Lu8 B.uint8, B.uint8.run_load1 rfl, c1]
 refine hK _ _ (zg fun σ2 hσ => ?_)
 have e2 := hσ 1
 simp +decide only [bE, Nat.reduceBeqDiff, Nat.reduceAdd, e1] at e2
 clear hK K hσ τ
 refine zc fun K hK => zpz B.mixed 10 (by kernel_rfl) fun τ => ?_
 obtain ⟨c0, c1⟩ : w1.drew.cell? ⟨b, o, none⟩ = some (zbo x0) ∧ w1.drew.cell? ⟨b, o + 1, none⟩ = some (zbo x1) := ⟨c0, c1⟩
 simp (maxSteps := 2000000) (decide := true) (disch := omega) only [bK, bE, zfl, Nat.reduceBeqDiff, BEq.rfl, Nat.reduceAdd, Int.reduceToNat, Nat.add_zero, Nat.mul_one, List.take_succ_cons, List.take_zero, List.drop_succ_cons, List.drop_zero, true_and, e2, zfd B.Lu8 B.uint8, B.uint8.run_load1 rfl, c0, c1, zbo, zck B.uint8 B.uint16 ⟨_, rfl⟩]
 refine hK _ _ (zg fun σ3 hσ => ?_)
 have e3 := hσ 2
 simp +decide only [bE, BEq.rfl, Nat.reduceAdd] at e3
 clear hK K hσ τ
 refine zcf ⟨.inr rfl, _, rfl, ?_, hm1.trans' (Mod.drew _ _)⟩
 rw [e3]
 congr 1
 have l0 := x0.toNat_lt
 have l1 := x1.toNat_lt
 simp only [zms x0.toNat (by omega), zms x1.toNat (by omega)]
 rw [show shl .u16 (x0.toNat : Int) 8 = ((x0.toNat * 2 ^ 8 : Nat) : Int) from shl_u16 x0.toNat 8 (by omega) (by omega)]
 rw [bor_u16 _ (x0.toNat * 2 ^ 8) 8 (by omega) (by omega) (by omega)]
 simp only [List.take_succ_cons, List.take_zero, be, List.foldl_cons, List.foldl_nil]
 omega
theorem uint32_ok {P : Program} {N : Nums} (B : Base P N) (F : Fns P N) (hN : N.zcz ≠ 0) {w : World} {lo hi : Nat} {v : Value} {nl : Bool} {l : List UInt8} (hv : zbc w lo hi v nl l) (hl : 4 ≤ l.length) (hhi : hi ≤ w.heap.size) :
  Call P N.zcz #[.agg #[], v] w fun v w' => v = .int .u32 (be (l.take 4)) ∧ Mod w w' zu := by
 have h := F.bigEndian_Uint32 hN
 rcases hv with ⟨_, _, rfl⟩ | ⟨b, o, c, _, rfl, h2, h34, h5⟩
 ·simp at hl
 match l, hl with
 | x0 :: x1 :: x2 :: x3 :: r, hl =>
 obtain ⟨h3, h4⟩ := h34 (by simp)
 have hc : ∀ (w' : World), Mod w w' zu → w'.cell? ⟨b, o, none⟩ = some (zbo x0) ∧ w'.cell? ⟨b, o + 1, none⟩ = some (zbo x1) ∧ w'.cell? ⟨b, o + 2, none⟩ = some (zbo x2) ∧ w'.cell? ⟨b, o + 3, none⟩ = some (zbo x3) := by
  intro w' hm
  have := hm.rangeAt (by omega) (fun _ _ _ hf => hf) h5
  exact ⟨this 0 _ rfl, this 1 _ rfl, this 2 _ rfl, this 3 _ rfl⟩
 generalize hn : (x0 :: x1 :: x2 :: x3 :: r).length = n at *
 refine h.call rfl fun loc N' hlo => ?_
 unfold zhk
 refine zc fun K hK => zad fun τ => ?_
 simp +decide only [bK, bE, Nat.reduceAdd, Nat.zero_add, List.take_succ_cons, List.take_zero]
 refine hK _ _ (zg fun σ1 hσ => ?_)
 have e1 := hσ 1
 simp +decide only [bE, Nat.reduceBeqDiff, Nat.reduceAdd, zgy] at e1
 clear hK K hσ τ
 have hm1 : Mod w (w.alloc (.cells (Value.agg #[]).cells N.zay)) zu := Mod.alloc _ _ _
 have hc1 := hc _ hm1
 generalize (w.alloc (.cells (Value.agg #[]).cells N.zay)) = w1 at *
 obtain ⟨c0, c1, c2, c3⟩ := hc1
 refine zc fun K hK => zad fun τ => ?_
 simp +decide (disch := omega) only [bK, bE, BEq.rfl, Nat.reduceAdd, Int.reduceToNat, Nat.mul_one, List.take_succ_cons, List.take_zero, e1, zfd B.Lu8 B.uint8, B.uint8.run_load1 rfl, c3]
 refine hK _ _ (zg fun σ2 hσ => ?_)
 have e2 := hσ 1
 simp +decide only [bE, Nat.reduceBeqDiff, Nat.reduceAdd, e1] at e2
 clear hK K hσ τ
 refine zc fun K hK => zpz B.mixed 22 (by kernel_rfl) fun τ => ?_
 obtain ⟨c0, c1, c2, c3⟩ : w1.drew.cell? ⟨b, o, none⟩ = some (zbo x0) ∧ w1.drew.cell? ⟨b, o + 1, none⟩ = some (zbo x1) ∧ w1.drew.cell? ⟨b, o + 2, none⟩ = some (zbo x2) ∧ w1.drew.cell? ⟨b, o + 3, none⟩ = some (zbo x3) := ⟨c0, c1, c2, c3⟩
 simp (maxSteps := 2000000) (decide := true) (disch := omega) only [bK, bE, zfl, Nat.reduceBeqDiff, BEq.rfl, Nat.reduceAdd, Int.reduceToNat, Nat.add_zero, Nat.mul_one, List.take_succ_cons, List.take_zero, List.drop_succ_cons, List.drop_zero, true_and, e2, zfd B.Lu8 B.uint8, B.uint8.run_load1 rfl, c0, c1, c2, c3, zbo, zck B.uint8 B.uint32 ⟨_, rfl⟩]
 refine hK _ _ (zg fun σ3 hσ => ?_)
 have e3 := hσ 2
 simp +decide only [bE, BEq.rfl, Nat.reduceAdd] at e3
 clear hK K hσ τ
 refine zcf ⟨.inr rfl, _, rfl, ?_, hm1.trans' (Mod.drew _ _)⟩
 rw [e3]
 congr 1
 have l0 := x0.toNat_lt
 have l1 := x1.toNat_lt
 have l2 := x2.toNat_lt
 have l3 := x3.toNat_lt
 simp only [zfj x0.toNat (by omega), zfj x1.toNat (by omega), zfj x2.toNat (by omega), zfj x3.toNat (by omega)]
 rw [show shl .u32 (x0.toNat : Int) 24 = ((x0.toNat * 2 ^ 24 : Nat) : Int) from zmz x0.toNat 24 (by omega) (by omega),
  show shl .u32 (x1.toNat : Int) 16 = ((x1.toNat * 2 ^ 16 : Nat) : Int) from zmz x1.toNat 16 (by omega) (by omega),
  show shl .u32 (x2.toNat : Int) 8 = ((x2.toNat * 2 ^ 8 : Nat) : Int) from zmz x2.toNat 8 (by omega) (by omega)]
 rw [znx _ (x2.toNat * 2 ^ 8) 8 (by omega) (by omega) (by omega),
  znx _ (x1.toNat * 2 ^ 16) 16 (by omega) (by omega) (by omega),
  znx _ (x0.toNat * 2 ^ 24) 24 (by omega) (by omega) (by omega)]
 simp only [List.take_succ_cons, List.take_zero, be, List.foldl_cons, List.foldl_nil]
 omega
set_option maxHeartbeats 2000000 in
theorem uint64_ok {P : Program} {N : Nums} (B : Base P N) (F : Fns P N) (hN : N.zcy ≠ 0) {w : World} {lo hi : Nat} {v : Value} {nl : Bool} {l : List UInt8} (hv : zbc w lo hi v nl l) (hl : 8 ≤ l.length) (hhi : hi ≤ w.heap.size) :
  Call P N.zcy #[.agg #[], v] w fun v w' => v = .int .u64 (be (l.take 8)) ∧ Mod w w' zu := by
 have h := F.bigEndian_Uint64 hN
 rcases hv with ⟨_, _, rfl⟩ | ⟨b, o, c, _, rfl, h2, h34, h5⟩
 ·simp at hl
 match l, hl with
 | x0 :: x1 :: x2 :: x3 :: x4 :: x5 :: x6 :: x7 :: r, hl =>
 obtain ⟨h3, h4⟩ := h34 (by simp)
 have hc : ∀ (w' : World), Mod w w' zu → w'.cell? ⟨b, o, none⟩ = some (zbo x0) ∧ w'.cell? ⟨b, o + 1, none⟩ = some (zbo x1) ∧ w'.cell? ⟨b, o + 2, none⟩ = some (zbo x2) ∧ w'.cell? ⟨b, o + 3, none⟩ = some (zbo x3) ∧ w'.cell? ⟨b, o + 4, none⟩ = some (zbo x4) ∧ w'.cell? ⟨b, o + 5, none⟩ = some (zbo x5) ∧ w'.cell? ⟨b, o + 6, none⟩ = some (zbo x6) ∧ w'.cell? ⟨b, o + 7, none⟩ = some (zbo x7) := by
  intro w' hm
  have := hm.rangeAt (by omega) (fun _ _ _ hf => hf) h5
  exact ⟨this 0 _ rfl, this 1 _ rfl, this 2 _ rfl, this 3 _ rfl, this 4 _ rfl, this 5 _ rfl, this 6 _ rfl, this 7 _ rfl⟩
 generalize hn : (x0 :: x1 :: x2 :: x3 :: x4 :: x5 :: x6 :: x7 :: r).length = n at *
 refine h.call rfl fun loc N' hlo => ?_
 unfold zhj
 refine zc fun K hK => zad fun τ => ?_
 simp +decide only [bK, bE, Nat.reduceAdd, Nat.zero_add, List.take_succ_cons, List.take_zero]
 refine hK _ _ (zg fun σ1 hσ => ?_)
 have e1 := hσ 1
 simp +decide only [bE, Nat.reduceBeqDiff, Nat.reduceAdd, zgy] at e1
 clear hK K hσ τ
 have hm1 : Mod w (w.alloc (.cells (Value.agg #[]).cells N.zay)) zu := Mod.alloc _ _ _
 have hc1 := hc _ hm1
 generalize (w.alloc (.cells (Value.agg #[]).cells N.zay)) = w1 at *
 obtain ⟨c0, c1, c2, c3, c4, c5, c6, c7⟩ := hc1
 refine zc fun K hK => zad fun τ => ?_
 simp +decide (disch := omega) only [bK, bE, BEq.rfl, Nat.reduceAdd, Int.reduceToNat, Nat.mul_one, List.take_succ_cons, List.take_zero, e1, zfd B.Lu8 B.uint8, B.uint8.run_load1 rfl, c7]
 refine hK _ _ (zg fun σ2 hσ => ?_)
 have e2 := hσ 1
 simp +decide only [bE, Nat.reduceBeqDiff, Nat.reduceAdd, e1] at e2
 clear hK K hσ τ
 refine zc fun K hK => zpz B.mixed 46 (by kernel_rfl) fun τ => ?_
 obtain ⟨c0, c1, c2, c3, c4, c5, c6, c7⟩ : w1.drew.cell? ⟨b, o, none⟩ = some (zbo x0) ∧ w1.drew.cell? ⟨b, o + 1, none⟩ = some (zbo x1) ∧ w1.drew.cell? ⟨b, o + 2, none⟩ = some (zbo x2) ∧ w1.drew.cell? ⟨b, o + 3, none⟩ = some (zbo x3) ∧ w1.drew.cell? ⟨b, o + 4, none⟩ = some (zbo x4) ∧ w1.drew.cell? ⟨b, o + 5, none⟩ = some (zbo x5) ∧ w1.drew.cell? ⟨b, o + 6, none⟩ = some (zbo x6) ∧ w1.drew.cell? ⟨b, o + 7, none⟩ = some (zbo x7) := ⟨c0, c1, c2, c3, c4, c5, c6, c7⟩
 simp (maxSteps := 2000000) (decide := true) (disch := omega) only [bK, bE, zfl, Nat.reduceBeqDiff, BEq.rfl, Nat.reduceAdd, Int.reduceToNat, Nat.add_zero, Nat.mul_one, List.take_succ_cons, List.take_zero, List.drop_succ_cons, List.drop_zero, true_and, e2, zfd B.Lu8 B.uint8, B.uint8.run_load1 rfl, c0, c1, c2, c3, c4, c5, c6, c7, zbo, zck B.uint8 B.uint64 ⟨_, rfl⟩]
 refine hK _ _ (zg fun σ3 hσ => ?_)
 have e3 := hσ 2
 simp +decide only [bE, BEq.rfl, Nat.reduceAdd] at e3
 clear hK K hσ τ
 refine zcf ⟨.inr rfl, _, rfl, ?_, hm1.trans' (Mod.drew _ _)⟩
 rw [e3]
 congr 1
 have l0 := x0.toNat_lt
 have l1 := x1.toNat_lt
 have l2 := x2.toNat_lt
 have l3 := x3.toNat_lt
 have l4 := x4.toNat_lt
 have l5 := x5.toNat_lt
 have l6 := x6.toNat_lt
 have l7 := x7.toNat_lt
 simp only [zgf x0.toNat (by omega), zgf x1.toNat (by omega), zgf x2.toNat (by omega), zgf x3.toNat (by omega), zgf x4.toNat (by omega), zgf x5.toNat (by omega), zgf x6.toNat (by omega), zgf x7.toNat (by omega)]
 rw [show shl .u64 (x0.toNat : Int) 56 = ((x0.toNat * 2 ^ 56 : Nat) : Int) from zkl x0.toNat 56 (by omega) (by omega),
  show shl .u64 (x1.toNat : Int) 48 = ((x1.toNat * 2 ^ 48 : Nat) : Int) from zkl x1.toNat 48 (by omega) (by omega),
  show shl .u64 (x2.toNat : Int) 40 = ((x2.toNat * 2 ^ 40 : Nat) : Int) from zkl x2.toNat 40 (by omega) (by omega),
  show shl .u64 (x3.toNat : Int) 32 = ((x3.toNat * 2 ^ 32 : Nat) : Int) from zkl x3.toNat 32 (by omega) (by omega),
  show shl .u64 (x4.toNat : Int) 24 = ((x4.toNat * 2 ^ 24 : Nat) : Int) from zkl x4.toNat 24 (by omega) (by omega),
  show shl .u64 (x5.toNat : Int) 16 = ((x5.toNat * 2 ^ 16 : Nat) : Int) from zkl x5.toNat 16 (by omega) (by omega),
  show shl .u64 (x6.toNat : Int) 8 = ((x6.toNat * 2 ^ 8 : Nat) : Int) from zkl x6.toNat 8 (by omega) (by omega)]
 rw [zkt _ (x6.toNat * 2 ^ 8) 8 (by omega) (by omega) (by omega),
  zkt _ (x5.toNat * 2 ^ 16) 16 (by omega) (by omega) (by omega),
  zkt _ (x4.toNat * 2 ^ 24) 24 (by omega) (by omega) (by omega),
  zkt _ (x3.toNat * 2 ^ 32) 32 (by omega) (by omega) (by omega),
  zkt _ (x2.toNat * 2 ^ 40) 40 (by omega) (by omega) (by omega),
  zkt _ (x1.toNat * 2 ^ 48) 48 (by omega) (by omega) (by omega),
  zkt _ (x0.toNat * 2 ^ 56) 56 (by omega) (by omega) (by omega)]
 simp only [List.take_succ_cons, List.take_zero, be, List.foldl_cons, List.foldl_nil]
 omega
section
variable {P : Program} {N : Nums} {loc : List Nat} {N' : Nat} {Q : Exit → Env → World → Prop} {σ : Env} {w : World}
theorem zac {ρ : Env} {k : Nat} {v : Value} (h : k < 100) : locs (put ρ (some k) v) = locs ρ := zmh h
theorem zky {b o n i : Nat} (h : w.there b o n) (hi : i < n) : w.there b (o + i) 1 := fun j hj => by
 have : j = 0 := by omega
 subst this
 exact h i hi
theorem zfm {b o n b' o' : Nat} {v : Value} (h : w.there b o n) : (w.setCell ⟨b', o', none⟩ v).there b o n := fun j hj =>
 have hlt := zag (h j hj).1
 have hm : Mod w (w.setCell ⟨b', o', none⟩ v) (blk b') := Mod.setCell fun _ => rfl
 ⟨by rw [hm.isCell _ _ hlt]; exact (h j hj).1, by rw [hm.frozen _ _ hlt]; exact (h j hj).2⟩
theorem W_bad {i r : Nat} (B : Base P N) (h : σ i = .pointer (some ⟨r, 0, none⟩)) (ht : w.there r 0 2) (hQ : Q .normal σ (w.setCell ⟨r, 1, none⟩ (.bool true))) :
  W P loc N' (.ops [⟨some 0, .move (V i), 0, none, []⟩, ⟨some 1, .nilCheck (T 0), 0, none, []⟩, ⟨some 2, .fieldAddr N.zr (T 1) 1, 0, none, []⟩, ⟨none, .store N.zbg (T 2) (.const (.bool true)), 0, none, []⟩]) Q σ w := by
 refine zad fun τ => ?_
 have st := B.bool.run_store1 (w := w) (b := r) (o := 1) (v := .bool true) rfl (by have := zky (i := 1) ht (by omega); simpa using this)
 simp +decide (disch := omega) only [bK, bE, BEq.rfl, h]
 rw [zaa rfl]
 simp +decide (disch := omega) only [bK, bE, BEq.rfl, Nat.zero_add, B.reader1.run, st, zac, locs_envOf]
 exact hQ
theorem zoa {i r : Nat} (B : Base P N) (h : σ i = .pointer (some ⟨r, 0, none⟩)) (ht : w.there r 0 2) (hQ : Q .normal σ (w.setCell ⟨r, 0, none⟩ (.slice none 0 0))) :
  W P loc N' (.ops [⟨some 0, .move (V i), 0, none, []⟩, ⟨some 1, .nilCheck (T 0), 0, none, []⟩, ⟨some 2, .fieldAddr N.zr (T 1) 0, 0, none, []⟩, ⟨none, .store N.zb (T 2) (.const (.slice none 0 0)), 0, none, []⟩]) Q σ w := by
 refine zad fun τ => ?_
 have st := B.Lu8.run_store1 (w := w) (b := r) (o := 0) (v := .slice none 0 0) rfl (zky (i := 0) ht (by omega))
 simp +decide (disch := omega) only [bK, bE, BEq.rfl, h]
 rw [zaa rfl]
 simp +decide (disch := omega) only [bK, bE, BEq.rfl, Nat.add_zero, B.reader0.run, st, zac, locs_envOf]
 exact hQ
theorem RdAt.lt {lo hi r : Nat} {s : RS} (h : RdAt w lo hi r s) : r < w.heap.size := zpf h.there (by omega)
theorem RdAt.cell0 {lo hi r : Nat} {s : RS} (h : RdAt w lo hi r s) : ∃ v, w.cell? ⟨r, 0, none⟩ = some v ∧ zbc w lo hi v s.nl s.l := by
 obtain ⟨v, h1, h2⟩ := h.src
 exact ⟨v, h1 0 v rfl, h2⟩
theorem RdAt.cell1 {lo hi r : Nat} {s : RS} (h : RdAt w lo hi r s) : w.cell? ⟨r, 1, none⟩ = some (.bool s.bad) := by
 obtain ⟨v, h1, h2⟩ := h.src
 exact h1 1 _ rfl
theorem RdAt.mk' {lo hi r : Nat} {s : RS} {v : Value} (h0 : w.cell? ⟨r, 0, none⟩ = some v) (h1 : w.cell? ⟨r, 1, none⟩ = some (.bool s.bad)) (hb : zbc w lo hi v s.nl s.l) (ht : w.there r 0 2) (hhi : hi ≤ w.heap.size) (ha : r < lo ∨ hi ≤ r) : RdAt w lo hi r s := by
 refine ⟨⟨v, fun j u hj => ?_, hb⟩, ht, hhi, ha⟩
 match j with
 | 0 => simp at hj; subst hj; simpa using h0
 | 1 => simp at hj; subst hj; simpa using h1
 | j + 2 => simp at hj
theorem RdAt.mod {w' : World} {M : Nat → Nat → Prop} {lo hi r : Nat} {s : RS} (h : RdAt w lo hi r s) (hm : Mod w w' M) (h1 : ∀ o, ¬ M r o) (h2 : ∀ k o, lo ≤ k → k < hi → ¬ M k o) : RdAt w' lo hi r s := by
 obtain ⟨v, h3, h4⟩ := h.src
 exact ⟨⟨v, hm.rangeAt h.lt (fun i _ _ => h1 i) h3, h4.mod hm h.hi_le h2⟩, hm.there h.lt h.there, Nat.le_trans h.hi_le hm.size, h.apart⟩
theorem RdAt.bad {lo hi r : Nat} {s : RS} (h : RdAt w lo hi r s) : RdAt ((w.setCell ⟨r, 1, none⟩ (.bool true)).setCell ⟨r, 0, none⟩ (.slice none 0 0)) lo hi r ⟨[], true, true⟩ ∧ Mod w ((w.setCell ⟨r, 1, none⟩ (.bool true)).setCell ⟨r, 0, none⟩ (.slice none 0 0)) (blk r) := by
 have m1 : Mod w (w.setCell ⟨r, 1, none⟩ (.bool true)) (blk r) := Mod.setCell fun _ => rfl
 have m2 : Mod (w.setCell ⟨r, 1, none⟩ (.bool true)) ((w.setCell ⟨r, 1, none⟩ (.bool true)).setCell ⟨r, 0, none⟩ (.slice none 0 0)) (blk r) := Mod.setCell fun _ => rfl
 have m := m1.trans' m2
 obtain ⟨v, hv, _⟩ := h.cell0
 have c1 : (w.setCell ⟨r, 1, none⟩ (.bool true)).cell? ⟨r, 1, none⟩ = some (.bool true) := World.cell?_setCell_same _ _ _ h.cell1
 have c0 : (w.setCell ⟨r, 1, none⟩ (.bool true)).cell? ⟨r, 0, none⟩ = some v := by
  rw [World.cell?_setCell_other _ _ _ _ (by simp)]; exact hv
 refine ⟨RdAt.mk' (World.cell?_setCell_same _ _ _ c0) ?_ (.inl ⟨rfl, rfl, rfl⟩) (m.there h.lt h.there) (Nat.le_trans h.hi_le m.size) h.apart, m⟩
 rw [World.cell?_setCell_other _ _ _ _ (by simp)]
 exact c1
theorem W_left {i d r lo hi : Nat} {c : Int} {s : RS} (B : Base P N) (h : σ i = .pointer (some ⟨r, 0, none⟩)) (hr : RdAt w lo hi r s) (hQ : Q .normal (upd σ d (.bool (decide ((s.l.length : Int) < c)))) w) :
  W P loc N' (.ops [⟨some 0, .move (V i), 0, none, []⟩, ⟨some 1, .nilCheck (T 0), 0, none, []⟩, ⟨some 2, .fieldAddr N.zr (T 1) 0, 0, none, []⟩, ⟨some 3, .load N.zb (T 2), 0, none, []⟩,
   ⟨some 4, .call ⟨.builtin .len, #[T 3], #[N.zb]⟩, N.zt, none, []⟩, ⟨some (d + 100), .binOp .lss N.zt (T 4) (.const (.int .i64 c)) N.zt, 0, none, []⟩]) Q σ w := by
 refine zad fun τ => ?_
 obtain ⟨v, hv, hb⟩ := hr.cell0
 have hlen : (Builtin.len_ #[N.zb] N.zt #[v]).run P w = .ok (.int .i64 s.l.length) w := by
  rcases hb with ⟨_, rfl, hl⟩ | ⟨b, o, c, _, rfl, _⟩
  ·rw [B.Lu8.run_len, hl]; rfl
  ·exact B.Lu8.run_len
 simp +decide (disch := omega) only [bK, bE, BEq.rfl, h]
 rw [zaa rfl]
 simp +decide (disch := omega) only [bK, bE, BEq.rfl, Nat.add_zero, B.reader0.run, B.Lu8.run_load1 rfl, hv, hlen, zf, zac, locs_envOf]
 exact hQ
theorem zbc.adv (B : Base P N) {lo hi : Nat} {v : Value} {nl : Bool} {l : List UInt8} {k : Nat} (h : zbc w lo hi v nl l) (hk : k ≤ l.length) :
  ∃ v', (Instr.sliceAt N.zb v (some (.int .i64 k)) none none).run P w = .ok v' w ∧ zbc w lo hi v' nl (l.drop k) ∧ v'.oneCell' = true := by
 rcases h with ⟨hn, rfl, hl⟩ | ⟨b, o, c, hn, rfl, h1, h23, h4⟩
 ·rw [hl] at hk
  have : k = 0 := by simpa using hk
  subst this
  exact ⟨_, zmd B.Lu8 B.uint8 (Nat.le_refl _), .inl ⟨hn, rfl, by simp [hl]⟩, rfl⟩
 ·refine ⟨_, zmd B.Lu8 B.uint8 hk, ?_, rfl⟩
  by_cases hck : c = k
  ·rw [if_pos hck]
   have hlk : l.length = k := by omega
   right
   refine ⟨b, o, c - k, hn, by simp, by simp; omega, fun hne => h23 (fun e => hne (by rw [e]; simp)), ?_⟩
   rw [List.drop_of_length_le (by omega)]
   intro j v hj; simp at hj
  ·rw [if_neg hck]
   right
   refine ⟨b, o + k, c - k, hn, by simp [Addr.add_mid], by simp; omega, fun hne => h23 (fun e => hne (by rw [e]; simp)), ?_⟩
   rw [List.map_drop]
   intro j v hj
   have := h4 (k + j) v (by simpa [List.getElem?_drop] using hj)
   rwa [← Nat.add_assoc] at this
theorem W_adv {i r lo hi k : Nat} {s : RS} (B : Base P N) (h : σ i = .pointer (some ⟨r, 0, none⟩)) (hr : RdAt w lo hi r s) (hk : k ≤ s.l.length) (hQ : ∀ w', RdAt w' lo hi r ⟨s.l.drop k, s.bad, s.nl⟩ → Mod w w' (blk r) → Q .normal σ w') :
  W P loc N' (.ops [⟨some 0, .move (V i), 0, none, []⟩, ⟨some 1, .move (V i), 0, none, []⟩, ⟨some 2, .nilCheck (T 1), 0, none, []⟩, ⟨some 3, .fieldAddr N.zr (T 2) 0, 0, none, []⟩, ⟨some 4, .load N.zb (T 3), 0, none, []⟩,
   ⟨some 5, .slice N.zb (T 4) (some (.const (.int .i64 k))) none none, 0, none, []⟩, ⟨some 6, .nilCheck (T 0), 0, none, []⟩, ⟨some 7, .fieldAddr N.zr (T 6) 0, 0, none, []⟩, ⟨none, .store N.zb (T 7) (T 5), 0, none, []⟩]) Q σ w := by
 refine zad fun τ => ?_
 obtain ⟨v, hv, hb⟩ := hr.cell0
 obtain ⟨v', hs, hb', hone⟩ := hb.adv B hk
 have st := B.Lu8.run_store1 (w := w) (b := r) (o := 0) (v := v') hone (zky (i := 0) hr.there (by omega))
 simp +decide (disch := omega) only [bK, bE, Nat.reduceBeqDiff, BEq.rfl, Option.map_some, Option.map_none, h]
 rw [zaa rfl]
 simp +decide (disch := omega) only [bK, bE, BEq.rfl, Nat.add_zero, B.reader0.run, B.Lu8.run_load1 rfl, hv, hs]
 rw [zaa rfl]
 simp +decide (disch := omega) only [bK, bE, Nat.reduceBeqDiff, BEq.rfl, Nat.add_zero, B.reader0.run, st, zac, locs_envOf]
 have m : Mod w (w.setCell ⟨r, 0, none⟩ v') (blk r) := Mod.setCell fun _ => rfl
 refine hQ _ (RdAt.mk' (World.cell?_setCell_same _ _ _ hv) (by rw [World.cell?_setCell_other _ _ _ _ (by simp)]; exact hr.cell1) (hb'.mod m hr.hi_le fun k o h1 h2 he => ?_) (m.there hr.lt hr.there) (Nat.le_trans hr.hi_le m.size) hr.apart) m
 have : k = r := he
 have := hr.apart
 omega
end
section
variable {P : Program} {N : Nums} {loc : List Nat} {N' : Nat} {Q : Exit → Env → World → Prop} {σ : Env} {w : World}
theorem zap {i : Nat} {v : Value} (h : Q .normal (upd σ i v) w) : W P loc N' (.ops [⟨some (i + 100), .assign (.const v), 0, none, []⟩]) Q σ w := by
 refine zad fun τ => ?_
 simp +decide only [bK, zf, locs_envOf]
 exact h
theorem zeu {i j : Nat} (h : Q .normal (upd σ i (σ j)) w) : W P loc N' (.ops [⟨some 0, .move (V j), 0, none, []⟩, ⟨some (i + 100), .assign (T 0), 0, none, []⟩]) Q σ w := by
 refine zad fun τ => ?_
 simp +decide only [bK, bE, BEq.rfl, Nat.reduceLT, zf, zac, locs_envOf]
 exact h
theorem W_if {i : Nat} {x y : C} {t : Bool} (hlo : zec loc N') (hi : σ i = .bool t) (h : W P loc N' (if t then x else y) Q σ w) : W P loc N' (.cond i x y) Q σ w :=
 W_cond hi (fun s hs => hlo.lt i s hs) h
def fixC (N : Nums) (c : Int) (z : Value) (mid tail : C) : C :=
 .seq (.ops [⟨some (1 + 100), .assign (.const z), 0, none, []⟩]) (
 .seq (.seq (.ops [⟨some 0, .move (V 0), 0, none, []⟩, ⟨some 1, .nilCheck (T 0), 0, none, []⟩, ⟨some 2, .fieldAddr N.zr (T 1) 0, 0, none, []⟩, ⟨some 3, .load N.zb (T 2), 0, none, []⟩,
   ⟨some 4, .call ⟨.builtin .len, #[T 3], #[N.zb]⟩, N.zt, none, []⟩, ⟨some (2 + 100), .binOp .lss N.zt (T 4) (.const (.int .i64 c)) N.zt, 0, none, []⟩])
  (.cond 2
   (.seq (.ops [⟨some 0, .move (V 0), 0, none, []⟩, ⟨some 1, .nilCheck (T 0), 0, none, []⟩, ⟨some 2, .fieldAddr N.zr (T 1) 1, 0, none, []⟩, ⟨none, .store N.zbg (T 2) (.const (.bool true)), 0, none, []⟩])
   (.seq (.ops [⟨some 0, .move (V 0), 0, none, []⟩, ⟨some 1, .nilCheck (T 0), 0, none, []⟩, ⟨some 2, .fieldAddr N.zr (T 1) 0, 0, none, []⟩, ⟨none, .store N.zb (T 2) (.const (.slice none 0 0)), 0, none, []⟩])
   (.seq (.ops [⟨some (1 + 100), .assign (.const z), 0, none, []⟩]) .ret)))
   .skip)) (
 .seq mid (
 .seq (.ops [⟨some 0, .move (V 0), 0, none, []⟩, ⟨some 1, .move (V 0), 0, none, []⟩, ⟨some 2, .nilCheck (T 1), 0, none, []⟩, ⟨some 3, .fieldAddr N.zr (T 2) 0, 0, none, []⟩, ⟨some 4, .load N.zb (T 3), 0, none, []⟩,
   ⟨some 5, .slice N.zb (T 4) (some (.const (.int .i64 c))) none none, 0, none, []⟩, ⟨some 6, .nilCheck (T 0), 0, none, []⟩, ⟨some 7, .fieldAddr N.zr (T 6) 0, 0, none, []⟩, ⟨none, .store N.zb (T 7) (T 5), 0, none, []⟩]) (
 .seq tail .ret))))
theorem W_fix (B : Base P N) {c : Nat} {ci : Int} (hci : ci = c) {z : Value} {mid tail : C} {u f : List UInt8 → Value}
  (hmid : ∀ (σ : Env) (w : World) (lo hi r : Nat) (s : RS) (Q : Exit → Env → World → Prop), RdAt w lo hi r s → c ≤ s.l.length → σ 0 = .pointer (some ⟨r, 0, none⟩) → (∀ w', Mod w w' zu → Q .normal (upd σ 3 (u (s.l.take c))) w') → W P loc N' mid Q σ w)
  (htail : ∀ (σ : Env) (w : World) (l : List UInt8) (Q : Exit → Env → World → Prop), σ 3 = u l → Q .normal (upd σ 1 (f l)) w → W P loc N' tail Q σ w)
  (hlo : zec loc N') {lo hi r : Nat} {s : RS} (hr : RdAt w lo hi r s) :
  W P loc N' (fixC N ci z mid tail) (retQ P [.var 1] fun v w' => v = (zeh c f z s).1 ∧ RdAt w' lo hi r (zeh c f z s).2 ∧ Mod w w' (blk r)) (zcv #[.pointer (some ⟨r, 0, none⟩)]) w := by
 subst hci
 unfold fixC
 refine zc fun K hK => zap ?_
 refine hK _ _ ?_
 clear hK K
 refine zc fun K hK => zc fun K1 hK1 => W_left (i := 0) B (by simp [ze, zar]) hr ?_
 refine hK1 _ _ (W_if hlo (upd_same _ _ _) ?_)
 clear hK1 K1
 by_cases hc : s.l.length < c
 ·have h1 : decide ((s.l.length : Int) < (c : Int)) = true := by simpa using hc
  rw [h1, if_pos rfl]
  clear hK
  refine zc fun K1 hK1 => W_bad (i := 0) B (r := r) (by simp [ze, zar]) hr.there ?_
  refine hK1 _ _ ?_
  clear hK1 K1
  refine zc fun K1 hK1 => zoa (i := 0) B (r := r) (by simp [ze, zar]) (zfm hr.there) ?_
  refine hK1 _ _ ?_
  clear hK1 K1
  refine zc fun K1 hK1 => zap ?_
  refine hK1 _ _ (zcf ⟨.inr rfl, z, by simp [Gives, zth], ?_⟩)
  have e : zeh c f z s = (z, ⟨[], true, true⟩) := by unfold zeh; rw [if_pos hc]
  rw [e]
  exact ⟨rfl, hr.bad.1, hr.bad.2⟩
 ·have h1 : decide ((s.l.length : Int) < (c : Int)) = false := by simpa using hc
  rw [h1, if_neg (by simp)]
  refine zca (hK _ _ ?_)
  clear hK K
  refine zc fun K hK => hmid _ _ lo hi r s _ hr (by omega) (by simp [ze, zar]) fun w1 hm1 => hK _ _ ?_
  clear hK K
  have hr1 : RdAt w1 lo hi r s := hr.mod hm1 (fun _ h => h) (fun _ _ _ _ h => h)
  refine zc fun K hK => W_adv (i := 0) B (by simp [ze, zar]) hr1 (k := c) (by omega) fun w2 hr2 hm2 => hK _ _ ?_
  clear hK K
  refine zc fun K hK => htail _ _ (s.l.take c) _ (upd_same _ _ _) (hK _ _ (zcf ⟨.inr rfl, f (s.l.take c), by simp [Gives, zth], ?_⟩))
  have e : zeh c f z s = (f (s.l.take c), ⟨s.l.drop c, s.bad, s.nl⟩) := by unfold zeh; rw [if_neg hc]
  rw [e]
  exact ⟨rfl, hr2, hm1.trans hm2 fun k o _ h => h.elim (fun h => h.elim) id⟩
theorem zqb {r lo hi : Nat} {s : RS} (B : Base P N) (hr : RdAt w lo hi r s) {f : FuncId} {ty : TypeId} {n : Nat} {u : List UInt8 → Value} (hn : n ≤ s.l.length) (hf : zcr P f)
  (hc : ∀ w v, zbc w lo hi v s.nl s.l → hi ≤ w.heap.size → Call P f #[.agg #[], v] w fun v w' => v = u (s.l.take n) ∧ Mod w w' zu) (hi0 : σ 0 = .pointer (some ⟨r, 0, none⟩)) {rest : List ROp}
  (hB : tailB [⟨some 0, .load N.zay (.global N.zdw), 0, none, []⟩, ⟨some 1, .move (V 0), 0, none, []⟩, ⟨some 2, .nilCheck (T 1), 0, none, [1]⟩, ⟨some 3, .fieldAddr N.zr (T 2) 0, 0, none, [2]⟩, ⟨some 4, .load N.zb (T 3), 0, none, [3]⟩]
   (⟨some 5, .call ⟨.value (.func f), #[T 0, T 4], #[N.zay, N.zb]⟩, ty, none, [0, 4]⟩ :: rest) = true)
  (h : ∀ (ρ : Env) (w' : World), (∀ i, ρ (i + 100) = σ i) → ρ 5 = u (s.l.take n) → Mod w w' zu → runR P rest ρ w' fun ρ w => Q .normal (locs ρ) w) :
  W P loc N' (.draw (⟨some 0, .load N.zay (.global N.zdw), 0, none, []⟩ :: ⟨some 1, .move (V 0), 0, none, []⟩ :: ⟨some 2, .nilCheck (T 1), 0, none, [1]⟩ :: ⟨some 3, .fieldAddr N.zr (T 2) 0, 0, none, [2]⟩ :: ⟨some 4, .load N.zb (T 3), 0, none, [3]⟩ ::
   ⟨some 5, .call ⟨.value (.func f), #[T 0, T 4], #[N.zay, N.zb]⟩, ty, none, [0, 4]⟩ :: rest)) Q σ w := by
 refine zob B.mixed [⟨some 0, .load N.zay (.global N.zdw), 0, none, []⟩, ⟨some 1, .move (V 0), 0, none, []⟩, ⟨some 2, .nilCheck (T 1), 0, none, [1]⟩, ⟨some 3, .fieldAddr N.zr (T 2) 0, 0, none, [2]⟩, ⟨some 4, .load N.zb (T 3), 0, none, [3]⟩] _ rfl hB fun τ => ?_
 obtain ⟨v, hv, hb⟩ := hr.cell0
 have hv' : w.drew.cell? ⟨r, 0, none⟩ = some v := hv
 have hbig : (Instr.loadAt N.zay (.pointer (some ⟨N.zdw, 0, none⟩))).run P w.drew = .ok (.agg #[]) w.drew :=
  B.big.run_load (b := N.zdw) (o := 0) (cs := []) (fun j v hj => by simp at hj) rfl (fun h => by cases h)
 simp +decide (disch := omega) only [bK, bE, zfl, Nat.reduceBeqDiff, BEq.rfl, Nat.zero_add, true_and, hbig, hi0]
 rw [zaa rfl]
 simp +decide (disch := omega) only [bK, bE, BEq.rfl, Nat.add_zero, true_and, B.reader0.run, B.Lu8.run_load1 rfl, hv']
 rw [zcn hf]
 simp +decide only [bK, bE, Nat.reduceBeqDiff, BEq.rfl]
 have hm : Mod w w.drew zu := Mod.drew _ _
 refine (hc w.drew v (hb.mod hm hr.hi_le fun _ _ _ _ h => h) hr.hi_le).mono ?_
 rintro v' w' ⟨rfl, hm'⟩
 refine h _ _ (fun i => ?_) ?_ (hm.trans' hm')
 ·simp +decide only [bE, Nat.reduceBeqDiff]
 ·simp +decide only [bE, BEq.rfl]
end
section
variable {P : Program} {N : Nums}
theorem rd_Int16 (B : Base P N) (F : Fns P N) (hN : N.zat ≠ 0) : RdOk P N.zat (zeh 2 (fun l => .int .i16 (IntKind.i16.wrap (be l))) (.int .i16 0)) := by
 intro w lo hi r s hr
 have h := F.PReader_Int16 hN
 refine h.1.call rfl fun loc N' hlo => ?_
 have hU := F.bigEndian_Uint16 h.2
 refine W_fix B (c := 2) (ci := 2) rfl (z := (.int .i16 0)) (u := (fun l => .int .i16 (IntKind.i16.wrap (be l)))) (f := (fun l => .int .i16 (IntKind.i16.wrap (be l)))) ?_ ?_ hlo hr
 ·intro σ w lo hi r s Q hr hn h0 hQ
  refine zqb B hr (u := fun l => .int .u16 (be l)) hn hU.has (fun w v hb hh => zqg B F h.2 hb hn hh) h0 (by kernel_rfl) fun ρ w' hρ h5 hm => ?_
  simp +decide only [bK, bE, BEq.rfl, Nat.reduceAdd, Nat.reduceLT, h5, zck B.uint16 B.int16 ⟨_, rfl⟩, zf, zac]
  have e : locs ρ = σ := funext hρ
  rw [e]
  exact hQ w' hm
 ·intro σ w l Q h3 hQ
  refine zeu (i := 1) (j := 3) ?_
  rw [h3]; exact hQ
theorem rd_Int32 (B : Base P N) (F : Fns P N) (hN : N.zbd ≠ 0) : RdOk P N.zbd (zeh 4 (fun l => .int .i32 (IntKind.i32.wrap (be l))) (.int .i32 0)) := by
 intro w lo hi r s hr
 have h := F.PReader_Int32 hN
 refine h.1.call rfl fun loc N' hlo => ?_
 have hU := F.bigEndian_Uint32 h.2
 refine W_fix B (c := 4) (ci := 4) rfl (z := (.int .i32 0)) (u := (fun l => .int .i32 (IntKind.i32.wrap (be l)))) (f := (fun l => .int .i32 (IntKind.i32.wrap (be l)))) ?_ ?_ hlo hr
 ·intro σ w lo hi r s Q hr hn h0 hQ
  refine zqb B hr (u := fun l => .int .u32 (be l)) hn hU.has (fun w v hb hh => uint32_ok B F h.2 hb hn hh) h0 (by kernel_rfl) fun ρ w' hρ h5 hm => ?_
  simp +decide only [bK, bE, BEq.rfl, Nat.reduceAdd, Nat.reduceLT, h5, zck B.uint32 B.int32 ⟨_, rfl⟩, zf, zac]
  have e : locs ρ = σ := funext hρ
  rw [e]
  exact hQ w' hm
 ·intro σ w l Q h3 hQ
  refine zeu (i := 1) (j := 3) ?_
  rw [h3]; exact hQ
theorem rd_Uint16 (B : Base P N) (F : Fns P N) (hN : N.zea ≠ 0) : RdOk P N.zea (zeh 2 (fun l => .int .u16 (be l)) (.int .u16 0)) := by
 intro w lo hi r s hr
 have h := F.PReader_Uint16 hN
 refine h.1.call rfl fun loc N' hlo => ?_
 have hU := F.bigEndian_Uint16 h.2
 refine W_fix B (c := 2) (ci := 2) rfl (z := (.int .u16 0)) (u := (fun l => .int .u16 (be l))) (f := (fun l => .int .u16 (be l))) ?_ ?_ hlo hr
 ·intro σ w lo hi r s Q hr hn h0 hQ
  refine zqb B hr (u := fun l => .int .u16 (be l)) hn hU.has (fun w v hb hh => zqg B F h.2 hb hn hh) h0 (by kernel_rfl) fun ρ w' hρ h5 hm => ?_
  simp +decide only [bK, Nat.reduceAdd, h5, zf]
  have e : locs ρ = σ := funext hρ
  rw [e]
  exact hQ w' hm
 ·intro σ w l Q h3 hQ
  refine zeu (i := 1) (j := 3) ?_
  rw [h3]; exact hQ
theorem zpm (B : Base P N) (F : Fns P N) (hN : N.zcq ≠ 0) : RdOk P N.zcq (zeh 8 (fun l => .int .u64 (be l)) (.int .u64 0)) := by
 intro w lo hi r s hr
 have h := F.PReader_readUint64 hN
 refine h.1.call rfl fun loc N' hlo => ?_
 have hU := F.bigEndian_Uint64 h.2
 refine W_fix B (c := 8) (ci := 8) rfl (z := (.int .u64 0)) (u := (fun l => .int .u64 (be l))) (f := (fun l => .int .u64 (be l))) ?_ ?_ hlo hr
 ·intro σ w lo hi r s Q hr hn h0 hQ
  refine zqb B hr (u := fun l => .int .u64 (be l)) hn hU.has (fun w v hb hh => uint64_ok B F h.2 hb hn hh) h0 (by kernel_rfl) fun ρ w' hρ h5 hm => ?_
  simp +decide only [bK, Nat.reduceAdd, h5, zf]
  have e : locs ρ = σ := funext hρ
  rw [e]
  exact hQ w' hm
 ·intro σ w l Q h3 hQ
  refine zeu (i := 1) (j := 3) ?_
  rw [h3]; exact hQ
theorem rd_Int8 (B : Base P N) (F : Fns P N) (hN : N.zdf ≠ 0) (h8 : N.ziq ≠ 0) : RdOk P N.zdf (zeh 1 (fun l => .int .i8 (IntKind.i8.wrap (be l))) (.int .i8 0)) := by
 intro w lo hi r s hr
 refine (F.PReader_Int8 hN).call rfl fun loc N' hlo => ?_
 refine W_fix B (c := 1) (ci := 1) rfl (z := .int .i8 0) (u := fun l => .int .u8 (be l)) (f := fun l => .int .i8 (IntKind.i8.wrap (be l))) ?_ ?_ hlo hr
 ·intro σ w lo hi r s Q hr hn h0 hQ
  refine zad fun τ => ?_
  obtain ⟨v, hv, hb⟩ := hr.cell0
  rcases hb with ⟨_, _, hl⟩ | ⟨b, o, c, _, rfl, h2, h34, h5⟩
  ·rw [hl] at hn; simp at hn
  obtain ⟨x, l, hl⟩ : ∃ x l, s.l = x :: l := by
   cases hs : s.l with
   | nil => rw [hs] at hn; simp at hn
   | cons x l => exact ⟨x, l, rfl⟩
  rw [hl] at h5
  have hx : w.cell? ⟨b, o, none⟩ = some (zbo x) := h5 0 _ rfl
  simp +decide (disch := omega) only [bK, bE, BEq.rfl, Nat.reduceAdd, Nat.zero_add, h0]
  rw [zaa rfl]
  simp +decide (disch := omega) only [bK, bE, BEq.rfl, Int.reduceToNat, Nat.add_zero, Nat.mul_one, B.reader0.run, B.Lu8.run_load1 rfl, hv, zfd B.Lu8 B.uint8, B.uint8.run_load1 rfl, hx, zbo, zf, zac, locs_envOf]
  have e := hQ w (Mod.refl _ _)
  rw [hl] at e
  simpa [be] using e
 ·intro σ w l Q h3 hQ
  refine zad fun τ => ?_
  simp +decide (disch := omega) only [bK, bE, BEq.rfl, Nat.reduceAdd, h3, zck B.uint8 (B.int8 h8) ⟨_, rfl⟩, zf, zac, locs_envOf]
  exact hQ
theorem rd_Bool (B : Base P N) (F : Fns P N) (hN : N.zex ≠ 0) : RdOk P N.zex (zeh 1 (fun l => .bool (be l != 0)) (.bool false)) := by
 intro w lo hi r s hr
 refine (F.PReader_Bool hN).call rfl fun loc N' hlo => ?_
 refine W_fix B (c := 1) (ci := 1) rfl (z := .bool false) (u := fun l => .bool (be l != 0)) (f := fun l => .bool (be l != 0)) ?_ ?_ hlo hr
 ·intro σ w lo hi r s Q hr hn h0 hQ
  refine zad fun τ => ?_
  obtain ⟨v, hv, hb⟩ := hr.cell0
  rcases hb with ⟨_, _, hl⟩ | ⟨b, o, c, _, rfl, h2, h34, h5⟩
  ·rw [hl] at hn; simp at hn
  obtain ⟨x, l, hl⟩ : ∃ x l, s.l = x :: l := by
   cases hs : s.l with
   | nil => rw [hs] at hn; simp at hn
   | cons x l => exact ⟨x, l, rfl⟩
  rw [hl] at h5
  have hx : w.cell? ⟨b, o, none⟩ = some (zbo x) := h5 0 _ rfl
  simp +decide (disch := omega) only [bK, bE, BEq.rfl, Nat.reduceAdd, Nat.zero_add, h0]
  rw [zaa rfl]
  simp +decide (disch := omega) only [bK, bE, BEq.rfl, Int.reduceToNat, Nat.add_zero, Nat.mul_one, B.reader0.run, B.Lu8.run_load1 rfl, hv, zfd B.Lu8 B.uint8, B.uint8.run_load1 rfl, hx, zbo, zf, zac, locs_envOf]
  have e := hQ w (Mod.refl _ _)
  rw [hl] at e
  have e2 : ((x.toNat : Int) != 0) = (be (List.take 1 (x :: l)) != 0) := by
   have : be (List.take 1 (x :: l)) = x.toNat := by simp [be]
   rw [this]
   cases hx0 : x.toNat with
   | zero => rfl
   | succ n => rfl
  rw [e2]
  exact e
 ·intro σ w l Q h3 hQ
  refine zeu (i := 1) (j := 3) ?_
  rw [h3]; exact hQ
theorem rd_Int64 (B : Base P N) (F : Fns P N) (hN : N.zen ≠ 0) : RdOk P N.zen (zeh 8 (fun l => .int .i64 (IntKind.i64.wrap (be l))) (.int .i64 0)) := by
 intro w lo hi r s hr
 have h := F.PReader_Int64 hN
 refine h.1.call rfl fun loc N' hlo => ?_
 unfold zji
 refine zc fun K hK => zap (hK _ _ ?_)
 clear hK K
 refine zc fun K hK => zad fun τ => ?_
 simp +decide only [bK, bE, BEq.rfl, Nat.reduceAdd, Nat.zero_add, ze]
 rw [zak (F.PReader_readUint64 h.2).1.has]
 simp +decide only [bK, bE, BEq.rfl]
 refine (zpm B F h.2 w lo hi r s hr).mono ?_
 rintro v w' ⟨rfl, hr', hm⟩
 have ec : ∀ w', (convert N.zbm N.zef (zeh 8 (fun l => .int .u64 (be l)) (.int .u64 0) s).1).run P w' = .ok (zeh 8 (fun l => .int .i64 (IntKind.i64.wrap (be l))) (.int .i64 0) s).1 w' := by
  intro w'
  unfold zeh
  split
  ·exact zck B.uint64 B.int64 ⟨_, rfl⟩
  ·exact zck B.uint64 B.int64 ⟨_, rfl⟩
 have es : (zeh 8 (fun l => .int .u64 (be l)) (.int .u64 0) s).2 = (zeh 8 (fun l => .int .i64 (IntKind.i64.wrap (be l))) (.int .i64 0) s).2 := by
  unfold zeh; split <;> rfl
 rw [es] at hr'
 simp +decide only [bK, ec]
 refine hK _ _ (zg fun σ1 hσ => zcf ⟨.inr rfl, _, rfl, ?_⟩)
 have e1 := hσ 1
 simp +decide only [bE, BEq.rfl, Nat.reduceAdd] at e1
 rw [e1]
 exact ⟨rfl, hr', hm⟩
end
def strV (l : List UInt8) : Value := .string ⟨l.toArray⟩
section
variable {P : Program} {N : Nums}
theorem zbc.toStr (B : Base P N) {w : World} {lo hi : Nat} {v : Value} {nl : Bool} {l : List UInt8} (h : zbc w lo hi v nl l) : (convert N.zb N.zaj v).run P w = .ok (strV l) w := by
 rcases h with ⟨_, rfl, rfl⟩ | ⟨b, o, c, _, rfl, h2, h34, h5⟩
 ·exact run_convert_bytes_nil w _ _ B.Lu8.und B.uint8.und 0 0 _ B.string.und
 ·rw [run_convert_bytes_arg w _ _ B.Lu8.und B.uint8.und b o l.length c (l.map fun x => (x.toNat : Int)) (by simp) (fun i hi => ?_) _ B.string.und]
  ·unfold strOfNums strV
   rw [List.map_map]
   have e : l.map ((fun n : Int => UInt8.ofNat n.toNat) ∘ fun x : UInt8 => (x.toNat : Int)) = l := by
    conv => rhs; rw [← List.map_id l]
    refine List.map_congr_left fun x _ => ?_
    simp
   rw [e]
  ·have := h5 i (zbo l[i]) (by simp [hi])
   rw [this]
   simp [zbo, List.getD, hi]
theorem zbc.oneCell {w : World} {lo hi : Nat} {v : Value} {nl : Bool} {l : List UInt8} (h : zbc w lo hi v nl l) : v.oneCell' = true := by
 rcases h with ⟨_, rfl, rfl⟩ | ⟨b, o, c, _, rfl, _⟩ <;> rfl
theorem zbc.len (B : Base P N) {w w' : World} {lo hi : Nat} {v : Value} {nl : Bool} {l : List UInt8} {ty : TypeId} (h : zbc w lo hi v nl l) : (Builtin.len_ #[N.zb] ty #[v]).run P w' = .ok (.int .i64 l.length) w' := by
 rcases h with ⟨_, rfl, rfl⟩ | ⟨b, o, c, _, rfl, _⟩
 ·rw [B.Lu8.run_len]; rfl
 ·exact B.Lu8.run_len
theorem rd_Ok (B : Base P N) (F : Fns P N) (hN : N.zdt ≠ 0) : RdOk P N.zdt fun s => (.bool (!s.bad), s) := by
 intro w lo hi r s hr
 refine (F.PReader_Ok hN).call rfl fun loc N' hlo => ?_
 unfold zml
 refine zc fun K hK => zap (hK _ _ ?_)
 clear hK K
 refine zc fun K hK => zad fun τ => ?_
 have h1 := hr.cell1
 simp +decide only [bK, bE, BEq.rfl, Nat.reduceAdd, Nat.zero_add, ze]
 rw [zaa rfl]
 simp +decide only [bK, bE, BEq.rfl, Nat.zero_add, B.reader1.run, B.bool.run_load1 rfl, h1]
 refine hK _ _ (zg fun σ1 hσ => zcf ⟨.inr rfl, _, rfl, ?_⟩)
 have e1 := hσ 1
 simp +decide only [bE, BEq.rfl, Nat.reduceAdd] at e1
 rw [e1]
 exact ⟨rfl, hr, Mod.refl _ _⟩
theorem zfr (B : Base P N) (F : Fns P N) (hN : N.zw ≠ 0) {ds : TypeDesc} {by' : Nat} (hE : TI P N.zeg ds 1 by' .nilIface) (hEd : zoq ds = false) {w : World} {e : Value} (he : w.cell? ⟨N.zd, 0, none⟩ = some e) {lo hi r : Nat} {s : RS} (hr : RdAt w lo hi r s) :
  Call P N.zw #[.pointer (some ⟨r, 0, none⟩)] w fun v w' => v = (if s.bad then e else .nilIface) ∧ w' = w := by
 refine (F.PReader_Complete hN).call rfl fun loc N' hlo => ?_
 unfold zhm
 refine zc fun K hK => zap (hK _ _ ?_)
 clear hK K
 obtain ⟨bd, hbd⟩ : ∃ b, s.bad = b := ⟨_, rfl⟩
 rw [hbd]
 refine zc fun K hK => zc fun K1 hK1 => zad fun τ => ?_
 have h1 := hr.cell1
 rw [hbd] at h1
 simp +decide only [bK, bE, BEq.rfl, Nat.reduceAdd, Nat.zero_add, ze]
 rw [zaa rfl]
 simp +decide only [bK, bE, BEq.rfl, Nat.zero_add, B.reader1.run, B.bool.run_load1 rfl, h1]
 refine hK1 _ _ (zg fun σ1 hσ => ?_)
 have e2 := hσ 2
 simp +decide only [bE, BEq.rfl, Nat.reduceAdd] at e2
 refine W_if hlo e2 ?_
 cases bd with
 | true =>
  rw [if_pos rfl]
  refine zc fun K2 hK2 => zad fun τ => ?_
  simp +decide only [bK, bE, BEq.rfl, Nat.reduceAdd, if_true, hE.run_load1 hEd, he]
  refine hK2 _ _ (zg fun σ2 hσ => zcf ⟨.inr rfl, _, rfl, ?_⟩)
  have e1 := hσ 1
  simp +decide only [bE, BEq.rfl, Nat.reduceAdd] at e1
  rw [e1]
  exact ⟨rfl, rfl⟩
 | false =>
  rw [if_neg (by simp)]
  refine zca (hK _ _ ?_)
  refine zc fun K2 hK2 => zap (hK2 _ _ (zcf ⟨.inr rfl, _, rfl, ?_⟩))
  exact ⟨rfl, rfl⟩
def zoe (n : Int) (s : RS) : Bool := decide (n < 0) || decide ((s.l.length : Int) < n)
def zdq (n : Int) (s : RS) : List UInt8 := if zoe n s then [] else s.l.take n.toNat
def zpg (n : Int) (s : RS) : Bool := if zoe n s then true else s.nl
def zht (n : Int) (s : RS) : RS := if zoe n s then ⟨[], true, true⟩ else ⟨s.l.drop n.toNat, s.bad, s.nl⟩
theorem zbc.cut (B : Base P N) {w : World} {lo hi : Nat} {v : Value} {nl : Bool} {l : List UInt8} {k : Nat} (h : zbc w lo hi v nl l) (hk : k ≤ l.length) :
  ∃ v', (Instr.sliceAt N.zb v none (some (.int .i64 k)) (some (.int .i64 k))).run P w = .ok v' w ∧ zbc w lo hi v' nl (l.take k) := by
 rcases h with ⟨h0, rfl, rfl⟩ | ⟨b, o, c, h0, rfl, h2, h34, h5⟩
 ·have : k = 0 := by simpa using hk
  subst this
  exact ⟨_, zld B.Lu8 B.uint8 (Nat.le_refl _), .inl ⟨h0, rfl, by simp⟩⟩
 ·refine ⟨_, zld B.Lu8 B.uint8 (by omega), .inr ⟨b, o, k, h0, by simp; omega, by simp; omega, fun hne => h34 (fun e => hne (by rw [e]; simp)), fun j u hj => h5 j u ?_⟩⟩
  rw [List.map_take] at hj
  have hjk : j < k := by have := (List.getElem?_eq_some_iff.1 hj).1; simp at this; omega
  rw [List.getElem?_take_of_lt hjk] at hj
  exact hj
theorem W_advV {loc : List Nat} {N' : Nat} {Q : Exit → Env → World → Prop} {σ : Env} {w : World} {i j r lo hi k : Nat} {s : RS} (B : Base P N) (h : σ i = .pointer (some ⟨r, 0, none⟩)) (hj : σ j = .int .i64 k) (hr : RdAt w lo hi r s) (hk : k ≤ s.l.length) (hQ : ∀ w', RdAt w' lo hi r ⟨s.l.drop k, s.bad, s.nl⟩ → Mod w w' (blk r) → Q .normal σ w') :
  W P loc N' (.ops [⟨some 0, .move (V i), 0, none, []⟩, ⟨some 1, .move (V i), 0, none, []⟩, ⟨some 2, .nilCheck (T 1), 0, none, []⟩, ⟨some 3, .fieldAddr N.zr (T 2) 0, 0, none, []⟩, ⟨some 4, .load N.zb (T 3), 0, none, []⟩, ⟨some 5, .move (V j), 0, none, []⟩,
   ⟨some 6, .slice N.zb (T 4) (some (T 5)) none none, 0, none, []⟩, ⟨some 7, .nilCheck (T 0), 0, none, []⟩, ⟨some 8, .fieldAddr N.zr (T 7) 0, 0, none, []⟩, ⟨none, .store N.zb (T 8) (T 6), 0, none, []⟩]) Q σ w := by
 refine zad fun τ => ?_
 obtain ⟨v, hv, hb⟩ := hr.cell0
 obtain ⟨v', hs, hb', hone⟩ := hb.adv B hk
 have st := B.Lu8.run_store1 (w := w) (b := r) (o := 0) (v := v') hone (zky (i := 0) hr.there (by omega))
 simp +decide (disch := omega) only [bK, bE, Nat.reduceBeqDiff, BEq.rfl, Option.map_some, Option.map_none, h]
 rw [zaa rfl]
 simp +decide (disch := omega) only [bK, bE, Nat.reduceBeqDiff, BEq.rfl, Nat.add_zero, B.reader0.run, B.Lu8.run_load1 rfl, hv, hj, hs]
 rw [zaa rfl]
 simp +decide (disch := omega) only [bK, bE, Nat.reduceBeqDiff, BEq.rfl, Nat.add_zero, B.reader0.run, st, zac, locs_envOf]
 have m : Mod w (w.setCell ⟨r, 0, none⟩ v') (blk r) := Mod.setCell fun _ => rfl
 refine hQ _ (RdAt.mk' (World.cell?_setCell_same _ _ _ hv) (by rw [World.cell?_setCell_other _ _ _ _ (by simp)]; exact hr.cell1) (hb'.mod m hr.hi_le fun k o h1 h2 he => ?_) (m.there hr.lt hr.there) (Nat.le_trans hr.hi_le m.size) hr.apart) m
 have : k = r := he
 have := hr.apart
 omega
theorem zid (B : Base P N) (F : Fns P N) (hN : N.zo ≠ 0) {w : World} {lo hi r : Nat} {s : RS} {n : Int} (hr : RdAt w lo hi r s) :
  Call P N.zo #[.pointer (some ⟨r, 0, none⟩), .int .i64 n] w fun v w' => zbc w' lo hi v (zpg n s) (zdq n s) ∧ RdAt w' lo hi r (zht n s) ∧ Mod w w' (blk r) := by
 refine (F.PReader_Span hN).call rfl fun loc N' hlo => ?_
 unfold zki
 refine zc fun K hK => zap (hK _ _ ?_)
 clear hK K
 have hp : upd (zcv #[.pointer (some ⟨r, 0, none⟩), .int .i64 n]) 2 (.slice none 0 0) 0 = .pointer (some ⟨r, 0, none⟩) := by simp [ze, zlj]
 have hn : upd (zcv #[.pointer (some ⟨r, 0, none⟩), .int .i64 n]) 2 (.slice none 0 0) 1 = .int .i64 n := by simp [ze, zgy]
 generalize upd (zcv #[.pointer (some ⟨r, 0, none⟩), .int .i64 n]) 2 (.slice none 0 0) = σ at *
 obtain ⟨v, hv, hb⟩ := hr.cell0
 have hlen := hb.len B (w' := w) (ty := N.zt)
 refine zc fun K hK => zc fun K1 hK1 => zad fun τ => ?_
 have key : ∀ σ' : Env, σ' 0 = .pointer (some ⟨r, 0, none⟩) → σ' 1 = .int .i64 n → σ' 3 = .bool (zoe n s) → K1 σ' w := by
  intro σ1 h0 h1 h3
  refine hK1 _ _ (W_if hlo h3 ?_)
  cases hbad : zoe n s with
  | true =>
   rw [if_pos rfl]
   refine zc fun K2 hK2 => W_bad (i := 0) B h0 hr.there (hK2 _ _ ?_)
   refine zc fun K3 hK3 => zoa (i := 0) B h0 (zfm hr.there) (hK3 _ _ ?_)
   refine zc fun K4 hK4 => zap (hK4 _ _ (zcf ⟨.inr rfl, _, rfl, ?_⟩))
   rw [upd_same]
   unfold zpg zdq zht
   rw [hbad]
   exact ⟨.inl ⟨rfl, rfl, rfl⟩, hr.bad.1, hr.bad.2⟩
  | false =>
   rw [if_neg (by simp)]
   refine zca (hK _ _ ?_)
   unfold zoe at hbad
   simp only [Bool.or_eq_false_iff, decide_eq_false_iff_not] at hbad
   obtain ⟨m, rfl⟩ : ∃ m : Nat, n = m := ⟨n.toNat, by omega⟩
   have hm : m ≤ s.l.length := by omega
   obtain ⟨v', hcut, hb'⟩ := hb.cut B hm
   refine zc fun K2 hK2 => zad fun τ => ?_
   simp +decide (disch := omega) only [bK, bE, Nat.reduceBeqDiff, BEq.rfl, Nat.reduceAdd, Nat.zero_add, Option.map_some, Option.map_none, h0]
   rw [zaa rfl]
   simp +decide (disch := omega) only [bK, bE, Nat.reduceBeqDiff, BEq.rfl, Nat.add_zero, B.reader0.run, B.Lu8.run_load1 rfl, hv, h1, hcut]
   refine hK2 _ _ (zg fun σ2 hσ => ?_)
   have f0 := hσ 0
   have f1 := hσ 1
   have f4 := hσ 4
   simp +decide only [bE, Nat.reduceBeqDiff, BEq.rfl, Nat.reduceAdd, Nat.zero_add, h0, h1] at f0 f1 f4
   refine zc fun K3 hK3 => W_advV (i := 0) (j := 1) B f0 f1 hr hm fun w' hr' hmod => hK3 _ _ ?_
   refine zc fun K4 hK4 => zeu (i := 2) (j := 4) (hK4 _ _ (zcf ⟨.inr rfl, _, rfl, ?_⟩))
   rw [upd_same, f4]
   have hsb : zoe (m : Int) s = false := by unfold zoe; simp; omega
   unfold zpg zdq zht
   rw [hsb]
   refine ⟨hb'.mod hmod hr.hi_le fun k o h1 h2 he => ?_, hr', hmod⟩
   have : k = r := he
   have := hr.apart
   omega
 by_cases hlt : (s.l.length : Int) < n
 ·simp +decide (disch := omega) only [bK, bE, Nat.reduceBeqDiff, BEq.rfl, Nat.reduceAdd, Nat.zero_add, hp]
  rw [zaa rfl]
  simp +decide (disch := omega) only [bK, bE, Nat.reduceBeqDiff, BEq.rfl, Nat.add_zero, B.reader0.run, B.Lu8.run_load1 rfl, hv, hlen, hn]
  refine Eq.mpr (zde (by simp +decide only [bE, decide_true, BEq.rfl, hlt, Bool.not_false])) ?_
  refine Eq.mpr (zde (by simp +decide only [bE, Nat.reduceBeqDiff, decide_true, BEq.rfl, hlt, Bool.not_false])) ?_
  simp +decide only [decide_true, hlt]
  refine zg fun σ' hσ => key σ' ?_ ?_ ?_
  ·rw [hσ 0]; simp +decide only [bE, Nat.reduceBeqDiff, Nat.zero_add, hp]
  ·rw [hσ 1]; simp +decide only [bE, Nat.reduceBeqDiff, Nat.reduceAdd, hn]
  ·rw [hσ 3]; simp +decide only [bE, BEq.rfl, Nat.reduceAdd]; simp [zoe, hlt]
 ·simp +decide (disch := omega) only [bK, bE, Nat.reduceBeqDiff, BEq.rfl, Nat.reduceAdd, Nat.zero_add, hp]
  rw [zaa rfl]
  simp +decide (disch := omega) only [bK, bE, Nat.reduceBeqDiff, BEq.rfl, Nat.add_zero, B.reader0.run, B.Lu8.run_load1 rfl, hv, hlen, hn]
  refine Eq.mpr (zbi (by simp +decide only [bE, decide_false, BEq.rfl, hlt])) ?_
  simp +decide only [bK, bE, Nat.reduceBeqDiff, Nat.reduceAdd, hn]
  refine Eq.mpr (zbi (by simp +decide only [bE, Nat.reduceBeqDiff, decide_false, BEq.rfl, hlt])) ?_
  simp +decide only [bK, bE, decide_false, BEq.rfl, hlt]
  refine zg fun σ' hσ => key σ' ?_ ?_ ?_
  ·rw [hσ 0]; simp +decide only [bE, Nat.reduceBeqDiff, Nat.zero_add, hp]
  ·rw [hσ 1]; simp +decide only [bE, Nat.reduceBeqDiff, Nat.reduceAdd, hn]
  ·rw [hσ 3]; simp +decide only [bE, BEq.rfl, Nat.reduceAdd]; simp [zoe, hlt, zop]
end
def uvD (l : List UInt8) : Nat × Int :=
 match l with
 | [] => (0, 0)
 | a :: l => if a.toNat < 128 then (a.toNat, 1) else match l with
  | [] => (0, 0)
  | b :: l => if b.toNat < 128 then (a.toNat % 128 + b.toNat * 128, 2) else match l with
   | [] => (0, 0)
   | c :: l => if c.toNat < 128 then (a.toNat % 128 + b.toNat % 128 * 128 + c.toNat * 16384, 3) else match l with
    | [] => (0, 0)
    | d :: l => if d.toNat < 128 then (a.toNat % 128 + b.toNat % 128 * 128 + c.toNat % 128 * 16384 + d.toNat * 2097152, 4) else match l with
     | [] => (0, 0)
     | e :: _ => if e.toNat ≤ 15 then (a.toNat % 128 + b.toNat % 128 * 128 + c.toNat % 128 * 16384 + d.toNat % 128 * 2097152 + e.toNat * 268435456, 5) else (0, -5)
theorem band127 : ∀ n : Nat, n < 256 → band .u8 n 127 = (n % 128 : Nat) := by
 have h : ∀ n : Fin 256, band .u8 (n.val : Nat) 127 = (n.val % 128 : Nat) := by decide +kernel
 exact fun n hn => h ⟨n, hn⟩
theorem band128 : ∀ n : Nat, n < 256 → (band .u8 n 128 == 0) = decide (n < 128) := by
 have h : ∀ n : Fin 256, (band .u8 (n.val : Nat) 128 == 0) = decide (n.val < 128) := by decide +kernel
 exact fun n hn => h ⟨n, hn⟩
theorem uv_arith (acc n s : Nat) (hs : s < 25) (hacc : acc < 2 ^ s) (hn : n < 128) : bor .u32 (acc : Int) (shl .u32 (IntKind.u32.wrap (n : Int)) (s : Int)) = (acc + n * 2 ^ s : Nat) := by
 have hp : 2 ^ s ≤ 2 ^ 24 := Nat.pow_le_pow_right (by omega) (by omega)
 have hm : n * 2 ^ s ≤ 127 * 2 ^ s := Nat.mul_le_mul_right _ (by omega)
 have e : (2 : Nat) ^ 24 = 16777216 := by decide
 have e2 : (2 : Nat) ^ 32 = 4294967296 := by decide
 rw [e] at hp
 have h1 : n * 2 ^ s < 2 ^ 32 := by rw [e2]; omega
 have h2 : acc + n * 2 ^ s < 2 ^ 32 := by rw [e2]; omega
 have h0 : n < 2 ^ 32 := by rw [e2]; omega
 rw [zfj n h0, zmz n s (by omega) h1, znx acc _ s hacc (Nat.mul_mod_left _ _) h2]
theorem uv_arith4 (acc n : Nat) (hacc : acc < 2 ^ 28) (hn : n ≤ 15) : bor .u32 (acc : Int) (shl .u32 (IntKind.u32.wrap (n : Int)) 28) = (acc + n * 268435456 : Nat) := by
 have e2 : (2 : Nat) ^ 32 = 4294967296 := by decide
 have e3 : (2 : Nat) ^ 28 = 268435456 := by decide
 have h1 : n * 2 ^ 28 < 2 ^ 32 := by rw [e2, e3]; omega
 have h2 : acc + n * 2 ^ 28 < 2 ^ 32 := by rw [e3] at hacc; rw [e2, e3]; omega
 have h0 : n < 2 ^ 32 := by rw [e2]; omega
 rw [zfj n h0, show shl .u32 (n : Int) 28 = ((n * 2 ^ 28 : Nat) : Int) from zmz n 28 (by omega) h1, znx acc _ 28 hacc (Nat.mul_mod_left _ _) h2, e3]
section
variable {P : Program} {N : Nums} {loc : List Nat} {N' : Nat} {Q : Exit → Env → World → Prop} {σ : Env} {w : World} {lo hi : Nat} {v : Value} {nl : Bool} {l : List UInt8}
theorem UV_len (B : Base P N) {d : Nat} {k : Int} (h0 : σ 0 = v) (hb : zbc w lo hi v nl l) (h : Q .normal (upd σ d (.bool (decide ((l.length : Int) < k)))) w) :
  W P loc N' (.ops [⟨some 0, .move (V 0), 0, none, []⟩, ⟨some 1, .call ⟨.builtin .len, #[T 0], #[N.zb]⟩, N.zt, none, []⟩, ⟨some (d + 100), .binOp .lss N.zt (T 1) (.const (.int .i64 k)) N.zt, 0, none, []⟩]) Q σ w := by
 refine zad fun τ => ?_
 simp +decide only [bK, bE, BEq.rfl, Nat.reduceLT, Nat.zero_add, h0, hb.len B, zf, zac, locs_envOf]
 exact h
theorem zbc.get (B : Base P N) (hb : zbc w lo hi v nl l) {j : Nat} {x : UInt8} (hx : l[j]? = some x) :
  ∃ b o, (Instr.indexAt N.zb v (.int .i64 j)).run P w = .ok (.pointer (some ⟨b, o, none⟩)) w ∧ w.cell? ⟨b, o, none⟩ = some (.int .u8 x.toNat) := by
 have hj := (List.getElem?_eq_some_iff.1 hx).1
 rcases hb with ⟨_, rfl, rfl⟩ | ⟨b, o, c, _, rfl, h2, h34, h5⟩
 ·simp at hj
 ·refine ⟨b, o + j * 1, zx B.Lu8 B.uint8 hj, ?_⟩
  have := h5 j (zbo x) (by rw [List.getElem?_map, hx]; rfl)
  simpa [zbo] using this
theorem UV_test (B : Base P N) {d j : Nat} {x : UInt8} (h0 : σ 0 = v) (hb : zbc w lo hi v nl l) (hx : l[j]? = some x) (h : Q .normal (upd σ d (.bool (decide (x.toNat < 128)))) w) :
  W P loc N' (.ops [⟨some 0, .move (V 0), 0, none, []⟩, ⟨some 1, .indexAddr N.zb (T 0) (.const (.int .i64 j)), 0, none, []⟩, ⟨some 2, .load N.zq (T 1), 0, none, []⟩, ⟨some 3, .binOp .and N.zq (T 2) (.const (.int .u8 128)) N.zq, 0, none, []⟩, ⟨some (d + 100), .binOp .eql N.zq (T 3) (.const (.int .u8 0)) N.zq, 0, none, []⟩]) Q σ w := by
 refine zad fun τ => ?_
 obtain ⟨b, o, h1, h2⟩ := hb.get B hx
 simp +decide only [bK, bE, BEq.rfl, Nat.reduceLT, Nat.zero_add, h0, h1, B.uint8.run_load1 rfl, h2, band128 _ x.toNat_lt, zf, zac, locs_envOf]
 exact h
theorem UV_test4 (B : Base P N) {d j : Nat} {x : UInt8} (h0 : σ 0 = v) (hb : zbc w lo hi v nl l) (hx : l[j]? = some x) (h : Q .normal (upd σ d (.bool (decide (x.toNat ≤ 15)))) w) :
  W P loc N' (.ops [⟨some 0, .move (V 0), 0, none, []⟩, ⟨some 1, .indexAddr N.zb (T 0) (.const (.int .i64 j)), 0, none, []⟩, ⟨some 2, .load N.zq (T 1), 0, none, []⟩, ⟨some (d + 100), .binOp .leq N.zq (T 2) (.const (.int .u8 15)) N.zq, 0, none, []⟩]) Q σ w := by
 refine zad fun τ => ?_
 obtain ⟨b, o, h1, h2⟩ := hb.get B hx
 simp +decide only [bK, bE, BEq.rfl, Nat.reduceLT, Nat.zero_add, h0, h1, B.uint8.run_load1 rfl, h2, zf, zac, locs_envOf]
 have e : decide ((x.toNat : Int) ≤ 15) = decide (x.toNat ≤ 15) := by
  by_cases h : x.toNat ≤ 15
  ·simp only [h, decide_true]; exact decide_eq_true (by omega)
  ·simp only [h, decide_false]; exact decide_eq_false (by omega)
 rw [e]
 exact h
theorem UV_first (B : Base P N) {x : UInt8} (h0 : σ 0 = v) (hb : zbc w lo hi v nl l) (hx : l[0]? = some x) (h : Q .normal (upd σ 3 (.int .u32 (x.toNat % 128 : Nat))) w) :
  W P loc N' (.ops [⟨some 0, .move (V 0), 0, none, []⟩, ⟨some 1, .indexAddr N.zb (T 0) (.const (.int .i64 0)), 0, none, []⟩, ⟨some 2, .load N.zq (T 1), 0, none, []⟩, ⟨some 3, .binOp .and N.zq (T 2) (.const (.int .u8 127)) N.zq, 0, none, []⟩, ⟨some 4, .convert N.zq N.zm (T 3), 0, none, []⟩, ⟨some (3 + 100), .assign (T 4), 0, none, []⟩]) Q σ w := by
 refine zad fun τ => ?_
 obtain ⟨b, o, h1, h2⟩ := hb.get B (j := 0) hx
 simp only [Int.natCast_zero] at h1
 simp +decide only [bK, bE, BEq.rfl, Nat.reduceAdd, Nat.reduceLT, Nat.zero_add, h0, h1, B.uint8.run_load1 rfl, h2, band127 _ x.toNat_lt, zck B.uint8 B.uint32 ⟨_, rfl⟩, zf, zac, locs_envOf]
 have := x.toNat_lt
 rw [zfj _ (by omega)]
 exact h
theorem ztf (B : Base P N) {j s acc : Nat} {x : UInt8} (h0 : σ 0 = v) (h3 : σ 3 = .int .u32 acc) (hb : zbc w lo hi v nl l) (hx : l[j]? = some x) (hs : s < 25) (hacc : acc < 2 ^ s) (h : Q .normal (upd σ 3 (.int .u32 (acc + x.toNat % 128 * 2 ^ s : Nat))) w) :
  W P loc N' (.ops [⟨some 0, .move (V 3), 0, none, []⟩, ⟨some 1, .move (V 0), 0, none, []⟩, ⟨some 2, .indexAddr N.zb (T 1) (.const (.int .i64 j)), 0, none, []⟩, ⟨some 3, .load N.zq (T 2), 0, none, []⟩, ⟨some 4, .binOp .and N.zq (T 3) (.const (.int .u8 127)) N.zq, 0, none, []⟩, ⟨some 5, .convert N.zq N.zm (T 4), 0, none, []⟩,
   ⟨some 6, .binOp .shl N.zm (T 5) (.const (.int .u64 s)) N.zgh, 0, none, []⟩, ⟨some 7, .binOp .or N.zm (T 0) (T 6) N.zm, 0, none, []⟩, ⟨some (3 + 100), .assign (T 7), 0, none, []⟩]) Q σ w := by
 refine zad fun τ => ?_
 obtain ⟨b, o, h1, h2⟩ := hb.get B hx
 have hr := fun t x y a => zpi (P := P) (w := w) (t := t) (x := x) (y := y) (k := .u32) (yk := .u64) (a := a) (b := (s : Int)) (by omega)
 simp +decide only [bK, bE, Nat.reduceBeqDiff, BEq.rfl, Nat.reduceAdd, Nat.reduceLT, Nat.zero_add, h0, h3, h1, B.uint8.run_load1 rfl, h2, band127 _ x.toNat_lt, zck B.uint8 B.uint32 ⟨_, rfl⟩, hr, zf, zac, locs_envOf]
 have e := uv_arith acc (x.toNat % 128) s hs hacc (Nat.mod_lt _ (by decide))
 rw [e]
 exact h
theorem UV_last (B : Base P N) {j s acc : Nat} {x : UInt8} (hs : s = 28) (h0 : σ 0 = v) (h3 : σ 3 = .int .u32 acc) (hb : zbc w lo hi v nl l) (hx : l[j]? = some x) (hacc : acc < 2 ^ 28) (h : ∀ n : Int, (x.toNat ≤ 15 → n = (acc + x.toNat * 268435456 : Nat)) → Q .normal (upd σ 3 (.int .u32 n)) w) :
  W P loc N' (.ops [⟨some 0, .move (V 3), 0, none, []⟩, ⟨some 1, .move (V 0), 0, none, []⟩, ⟨some 2, .indexAddr N.zb (T 1) (.const (.int .i64 j)), 0, none, []⟩, ⟨some 3, .load N.zq (T 2), 0, none, []⟩, ⟨some 4, .convert N.zq N.zm (T 3), 0, none, []⟩,
   ⟨some 5, .binOp .shl N.zm (T 4) (.const (.int .u64 s)) N.zgh, 0, none, []⟩, ⟨some 6, .binOp .or N.zm (T 0) (T 5) N.zm, 0, none, []⟩, ⟨some (3 + 100), .assign (T 6), 0, none, []⟩]) Q σ w := by
 refine zad fun τ => ?_
 obtain ⟨b, o, h1, h2⟩ := hb.get B hx
 have hr := fun t x y a => zpi (P := P) (w := w) (t := t) (x := x) (y := y) (k := .u32) (yk := .u64) (a := a) (b := (s : Int)) (by omega)
 simp +decide only [bK, bE, Nat.reduceBeqDiff, BEq.rfl, Nat.reduceAdd, Nat.reduceLT, Nat.zero_add, h0, h3, h1, B.uint8.run_load1 rfl, h2, zck B.uint8 B.uint32 ⟨_, rfl⟩, hr, zf, zac, locs_envOf]
 subst hs
 exact h _ fun hle => uv_arith4 acc x.toNat hacc hle
theorem UV_ret {c : Int} {n : Value} (h3 : σ 3 = n) {Rt : Value → World → Prop} (h : Rt (.tuple #[n, .int .i64 c]) w) (hQ : ∀ σ w, retQ P [.var 1, .var 2] Rt .ret σ w → Q .ret σ w) :
  W P loc N' (.seq (.ops [⟨some 0, .move (V 3), 0, none, []⟩, ⟨some (1 + 100), .assign (T 0), 0, none, []⟩, ⟨some (2 + 100), .assign (.const (.int .i64 c)), 0, none, []⟩]) .ret) Q σ w := by
 refine zc fun K hK => zad fun τ => ?_
 simp +decide only [bK, bE, BEq.rfl, Nat.reduceAdd, h3]
 refine hK _ _ (zg fun σ' hσ => zcf (hQ _ _ ⟨.inr rfl, _, ⟨_, _, rfl, rfl, rfl⟩, ?_⟩))
 have e1 := hσ 1
 have e2 := hσ 2
 simp +decide only [bE, Nat.reduceBeqDiff, BEq.rfl, Nat.reduceAdd] at e1 e2
 rw [e1, e2]
 exact h
theorem zmw {d e j acc : Nat} {c c2 : Int} {rest : C} {x : UInt8} (hc : c = j + 1) (hc2 : c2 = j + 2) (B : Base P N) (hlo : zec loc N') (h0 : σ 0 = v) (h3 : σ 3 = .int .u32 acc) (h4 : σ 4 = .int .i64 0) (hb : zbc w lo hi v nl l) (hx : l[j]? = some x)
  (hret : ∀ σ, x.toNat < 128 → retQ P [.var 1, .var 2] (fun r w' => r = .tuple #[.int .u32 acc, .int .i64 c] ∧ w' = w) .ret σ w → Q .ret σ w)
  (hgo : ∀ σ, σ 4 = .int .i64 0 → ¬ x.toNat < 128 → l[j + 1]? = none → Q (.goto 0) σ w)
  (hd : 4 < d) (he : 4 < e)
  (hnext : ∀ (σ : Env) (y : UInt8), ¬ x.toNat < 128 → l[j + 1]? = some y → σ 0 = v → σ 3 = .int .u32 acc → σ 4 = .int .i64 0 → W P loc N' rest Q σ w) :
  W P loc N' (.seq (.seq (.ops [⟨some 0, .move (V 0), 0, none, []⟩, ⟨some 1, .indexAddr N.zb (T 0) (.const (.int .i64 j)), 0, none, []⟩, ⟨some 2, .load N.zq (T 1), 0, none, []⟩, ⟨some 3, .binOp .and N.zq (T 2) (.const (.int .u8 128)) N.zq, 0, none, []⟩, ⟨some (d + 100), .binOp .eql N.zq (T 3) (.const (.int .u8 0)) N.zq, 0, none, []⟩])
   (.cond d (.seq (.ops [⟨some 0, .move (V 3), 0, none, []⟩, ⟨some (1 + 100), .assign (T 0), 0, none, []⟩, ⟨some (2 + 100), .assign (.const (.int .i64 c)), 0, none, []⟩]) .ret)
    (.seq (.ops [⟨some 0, .move (V 0), 0, none, []⟩, ⟨some 1, .call ⟨.builtin .len, #[T 0], #[N.zb]⟩, N.zt, none, []⟩, ⟨some (e + 100), .binOp .lss N.zt (T 1) (.const (.int .i64 c2)) N.zt, 0, none, []⟩]) (.cond e (.goto 0) .skip)))) rest) Q σ w := by
 subst hc hc2
 refine zc fun K hK => zc fun K1 hK1 => UV_test (d := d) B h0 hb hx (hK1 _ _ (W_if hlo (upd_same _ _ _) ?_))
 clear hK1 K1
 by_cases hlt : x.toNat < 128
 ·rw [show decide (x.toNat < 128) = true from decide_eq_true hlt, if_pos rfl]
  refine UV_ret (n := .int .u32 acc) (by rw [ze (by omega)]; exact h3) (Rt := fun r w' => r = .tuple #[.int .u32 acc, .int .i64 (j + 1)] ∧ w' = w) ⟨rfl, rfl⟩ fun σ' w' h => ?_
  obtain ⟨h1, v', h2, h3, h4⟩ := h
  subst h4
  exact hret σ' hlt ⟨h1, v', h2, h3, rfl⟩
 ·rw [show decide (x.toNat < 128) = false from decide_eq_false hlt, if_neg (by simp)]
  have h0' : upd σ d (.bool false) 0 = v := by rw [ze (by omega)]; exact h0
  refine zc fun K1 hK1 => UV_len (d := e) B h0' hb (hK1 _ _ (W_if hlo (upd_same _ _ _) ?_))
  cases hy : l[j + 1]? with
  | none =>
   have hle : l.length ≤ j + 1 := by simpa using hy
   rw [show decide ((l.length : Int) < (j : Int) + 2) = true from decide_eq_true (by omega), if_pos rfl]
   refine W_goto (hgo _ ?_ hlt hy)
   rw [ze (by omega), ze (by omega)]; exact h4
  | some y =>
   have hle := (List.getElem?_eq_some_iff.1 hy).1
   rw [show decide ((l.length : Int) < (j : Int) + 2) = false from decide_eq_false (by omega), if_neg (by simp)]
   refine zca (hK _ _ (hnext _ y hlt hy ?_ ?_ ?_))
   ·rw [ze (by omega), ze (by omega)]; exact h0
   ·rw [ze (by omega), ze (by omega)]; exact h3
   ·rw [ze (by omega), ze (by omega)]; exact h4
theorem zrl (B : Base P N) (F : Fns P N) (hN : N.zib ≠ 0) {w : World} {lo hi : Nat} {v : Value} {nl : Bool} {l : List UInt8} (hb : zbc w lo hi v nl l) :
  Call P N.zib #[v] w fun r w' => r = .tuple #[.int .u32 (uvD l).1, .int .i64 (uvD l).2] ∧ w' = w := by
 refine (F.Uvarint hN).call rfl fun loc N' hlo => ?_
 have hfail : ∀ (σ : Env) (n : Int) (Rt : Value → World → Prop), σ 4 = .int .i64 n → Rt (.tuple #[.int .u32 0, .int .i64 n]) w →
   W P loc N' (.seq .skip (.seq (.ops [⟨some 0, .move (V 4), 0, none, []⟩, ⟨some (1 + 100), .assign (.const (.int .u32 0)), 0, none, []⟩, ⟨some (2 + 100), .assign (T 0), 0, none, []⟩]) .ret)) (noJ (retQ P [.var 1, .var 2] Rt)) σ w := by
  intro σ n Rt h4 h
  refine zc fun K hK => zca (hK _ _ ?_)
  refine zc fun K1 hK1 => zad fun τ => ?_
  simp +decide only [bK, bE, Nat.reduceBeqDiff, BEq.rfl, Nat.reduceAdd, h4]
  refine hK1 _ _ (zg fun σ' hσ => zcf ⟨.inr rfl, _, ⟨_, _, rfl, rfl, rfl⟩, ?_⟩)
  have e1 := hσ 1
  have e2 := hσ 2
  simp +decide only [bE, Nat.reduceBeqDiff, BEq.rfl, Nat.reduceAdd] at e1 e2
  rw [e1, e2]
  exact h
 have hjump : ∀ (c : C) (σ : Env) (n : Int) (Rt : Value → World → Prop), zhb c 0 = some (.seq .skip (.seq (.ops [⟨some 0, .move (V 4), 0, none, []⟩, ⟨some (1 + 100), .assign (.const (.int .u32 0)), 0, none, []⟩, ⟨some (2 + 100), .assign (T 0), 0, none, []⟩]) .ret)) →
   σ 4 = .int .i64 n → Rt (.tuple #[.int .u32 0, .int .i64 n]) w → jumpQ P loc N' c (retQ P [.var 1, .var 2] Rt) (.goto 0) σ w :=
  fun c σ n Rt hf h4 h => ⟨_, hf, hfail σ n Rt h4 h⟩
 unfold zrp
 refine zc fun K hK => zad fun τ => ?_
 simp +decide only [bK, Nat.reduceAdd]
 refine hK _ _ (zg fun σ1 hσ => ?_)
 have e0 := hσ 0
 simp +decide only [bE, Nat.reduceBeqDiff, Nat.zero_add, zar] at e0
 clear hσ hK K τ
 refine W_scope ?_
 generalize hc : C.seq _ _ = c
 have hfc : zhb c 0 = some (.seq .skip (.seq (.ops [⟨some 0, .move (V 4), 0, none, []⟩, ⟨some (1 + 100), .assign (.const (.int .u32 0)), 0, none, []⟩, ⟨some (2 + 100), .assign (T 0), 0, none, []⟩]) .ret)) := by rw [← hc]; rfl
 generalize hJ : jumpQ P loc N' c _ = J
 have hgo : ∀ (σ : Env) (n : Int), σ 4 = .int .i64 n → uvD l = (0, n) → J (.goto 0) σ w := by
  intro σ n h4 he
  rw [← hJ]
  exact hjump c σ n _ hfc h4 ⟨by rw [he]; rfl, rfl⟩
 have hret : ∀ (σ : Env) (n : Nat) (k : Int), uvD l = (n, k) → retQ P [.var 1, .var 2] (fun r w' => r = .tuple #[.int .u32 n, .int .i64 k] ∧ w' = w) .ret σ w → J .ret σ w := by
  intro σ n k he h
  rw [← hJ]
  simp only [jumpQ, he]
  exact h
 rw [← hc]
 clear hc hJ hfc hjump hfail
 refine zc fun K hK => zap (hK _ _ ?_)
 clear hK K
 refine zc fun K hK => zap (hK _ _ ?_)
 clear hK K
 have f0 : upd (upd σ1 3 (.int .u32 0)) 4 (.int .i64 0) 0 = v := by simp [ze, e0]
 have f4 : upd (upd σ1 3 (.int .u32 0)) 4 (.int .i64 0) 4 = .int .i64 0 := by simp []
 generalize upd (upd σ1 3 (.int .u32 0)) 4 (.int .i64 0) = σ at *
 refine zc fun K hK => zc fun K1 hK1 => UV_len (d := 5) B f0 hb (hK1 _ _ (W_if hlo (upd_same _ _ _) ?_))
 cases hl : l with
 | nil =>
  rw [hl] at hgo
  exact W_goto (hgo _ 0 (by simp [ze, f4]) rfl)
 | cons a r1 =>
 rw [show decide (((a :: r1).length : Int) < 1) = false from decide_eq_false (by simp only [List.length_cons]; omega), if_neg (by simp)]
 refine zca (hK _ _ ?_)
 clear hK hK1 K K1
 have g0 : upd σ 5 (.bool false) 0 = v := by rw [ze (by decide), f0]
 have g4 : upd σ 5 (.bool false) 4 = .int .i64 0 := by rw [ze (by decide), f4]
 generalize upd σ 5 (.bool false) = σ2 at *
 have ha := a.toNat_lt
 have hx0 : l[0]? = some a := by rw [hl]; rfl
 refine zc fun K hK => UV_first B g0 hb hx0 (hK _ _ ?_)
 clear hK K
 refine zmw (d := 6) (e := 7) (j := 0) (c := 1) (c2 := 2) rfl rfl B hlo (by rw [ze (by decide)]; exact g0) (upd_same _ _ _) (by rw [ze (by decide)]; exact g4) hb hx0 (fun σ hx h => hret σ (a.toNat % 128) 1 (by rw [hl]; simp only [uvD]; rw [if_pos hx, Nat.mod_eq_of_lt hx]) h)
  (fun σ h4 hx hn => hgo σ 0 h4 (by rw [hl] at hn ⊢; cases r1 with | nil => simp only [uvD]; rw [if_neg hx] | cons => simp at hn)) (by omega) (by omega) fun σ b hx hx1 k0 k3 k4 => ?_
 obtain ⟨r2, hl1⟩ : ∃ r, r1 = b :: r := by rw [hl] at hx1; cases r1 with | nil => simp at hx1 | cons y r => simp at hx1; exact ⟨r, by rw [hx1]⟩
 subst hl1
 have hb' := b.toNat_lt
 refine zc fun K hK => ztf (j := 1) (s := 7) B k0 k3 hb hx1 (by omega) (Nat.lt_of_lt_of_le (Nat.mod_lt _ (by decide)) (by decide)) (hK _ _ ?_)
 clear hK K
 refine zmw (d := 8) (e := 9) (j := 1) (c := 2) (c2 := 3) rfl rfl B hlo (by rw [ze (by decide)]; exact k0) (upd_same _ _ _) (by rw [ze (by decide)]; exact k4) hb hx1 (fun σ hx' h => hret σ _ 2 (by rw [hl]; simp only [uvD]; rw [if_neg hx, if_pos hx', Nat.mod_eq_of_lt hx']) h)
  (fun σ h4 hx' hn => hgo σ 0 h4 (by rw [hl] at hn ⊢; cases r2 with | nil => simp only [uvD]; rw [if_neg hx, if_neg hx'] | cons => simp at hn)) (by omega) (by omega) fun σ c hx' hx2 k0 k3 k4 => ?_
 obtain ⟨r3, hl2⟩ : ∃ r, r2 = c :: r := by rw [hl] at hx2; cases r2 with | nil => simp at hx2 | cons y r => simp at hx2; exact ⟨r, by rw [hx2]⟩
 subst hl2
 have hc' := c.toNat_lt
 have q1 : a.toNat % 128 < 128 := Nat.mod_lt _ (by decide)
 have q2 : b.toNat % 128 < 128 := Nat.mod_lt _ (by decide)
 have q3 : c.toNat % 128 < 128 := Nat.mod_lt _ (by decide)
 refine zc fun K hK => ztf (j := 2) (s := 14) B k0 k3 hb hx2 (by omega) (by omega) (hK _ _ ?_)
 clear hK K
 refine zmw (d := 10) (e := 11) (j := 2) (c := 3) (c2 := 4) rfl rfl B hlo (by rw [ze (by decide)]; exact k0) (upd_same _ _ _) (by rw [ze (by decide)]; exact k4) hb hx2 (fun σ hx'' h => hret σ _ 3 (by rw [hl]; simp only [uvD]; rw [if_neg hx, if_neg hx', if_pos hx'', Nat.mod_eq_of_lt hx'']) h)
  (fun σ h4 hx'' hn => hgo σ 0 h4 (by rw [hl] at hn ⊢; cases r3 with | nil => simp only [uvD]; rw [if_neg hx, if_neg hx', if_neg hx''] | cons => simp at hn)) (by omega) (by omega) fun σ d hx'' hx3 k0 k3 k4 => ?_
 obtain ⟨r4, hl3⟩ : ∃ r, r3 = d :: r := by rw [hl] at hx3; cases r3 with | nil => simp at hx3 | cons y r => simp at hx3; exact ⟨r, by rw [hx3]⟩
 subst hl3
 have hd' := d.toNat_lt
 have q4 : d.toNat % 128 < 128 := Nat.mod_lt _ (by decide)
 refine zc fun K hK => ztf (j := 3) (s := 21) B k0 k3 hb hx3 (by omega) (by omega) (hK _ _ ?_)
 clear hK K
 refine zmw (d := 12) (e := 13) (j := 3) (c := 4) (c2 := 5) rfl rfl B hlo (by rw [ze (by decide)]; exact k0) (upd_same _ _ _) (by rw [ze (by decide)]; exact k4) hb hx3 (fun σ hx3' h => hret σ _ 4 (by rw [hl]; simp only [uvD]; rw [if_neg hx, if_neg hx', if_neg hx'', if_pos hx3', Nat.mod_eq_of_lt hx3']) h)
  (fun σ h4 hx3' hn => hgo σ 0 h4 (by rw [hl] at hn ⊢; cases r4 with | nil => simp only [uvD]; rw [if_neg hx, if_neg hx', if_neg hx'', if_neg hx3'] | cons => simp at hn)) (by omega) (by omega) fun σ e hx3' hx4 k0 k3 k4 => ?_
 obtain ⟨r5, hl4⟩ : ∃ r, r4 = e :: r := by rw [hl] at hx4; cases r4 with | nil => simp at hx4 | cons y r => simp at hx4; exact ⟨r, by rw [hx4]⟩
 subst hl4
 refine zc fun K hK => UV_last (j := 4) (s := 28) B rfl k0 k3 hb hx4 (by omega) fun n hn => hK _ _ ?_
 clear hK K
 have m0 : upd σ 3 (.int .u32 n) 0 = v := by rw [ze (by decide)]; exact k0
 refine zc fun K hK => zc fun K1 hK1 => UV_test4 (d := 14) (j := 4) B m0 hb hx4 (hK1 _ _ (W_if hlo (upd_same _ _ _) ?_))
 by_cases h15 : e.toNat ≤ 15
 ·rw [show decide (e.toNat ≤ 15) = true from decide_eq_true h15, if_pos rfl]
  have hn' := hn h15
  refine UV_ret (n := .int .u32 n) (by simp [ze]) (Rt := fun r w' => r = .tuple #[.int .u32 n, .int .i64 5] ∧ w' = w) ⟨rfl, rfl⟩ fun σ' w' h => ?_
  have hu : uvD l = (a.toNat % 128 + b.toNat % 128 * 2 ^ 7 + c.toNat % 128 * 2 ^ 14 + d.toNat % 128 * 2 ^ 21 + e.toNat * 268435456, 5) := by
   rw [hl]; simp only [uvD]; rw [if_neg hx, if_neg hx', if_neg hx'', if_neg hx3', if_pos h15]
  rw [hn'] at h
  obtain ⟨h1, v', h2, h3, h4⟩ := h
  subst h4
  exact hret σ' _ 5 hu ⟨h1, v', h2, h3, rfl⟩
 ·rw [show decide (e.toNat ≤ 15) = false from decide_eq_false h15, if_neg (by simp)]
  refine zca (hK _ _ ?_)
  clear hK hK1 K K1
  refine zc fun K hK => zap (hK _ _ ?_)
  clear hK K
  have hu : uvD l = (0, -5) := by rw [hl]; simp only [uvD]; rw [if_neg hx, if_neg hx', if_neg hx'', if_neg hx3', if_neg h15]
  refine zc fun K hK => W_label (hK _ _ ?_)
  clear hK K
  have m4 : upd (upd (upd σ 3 (.int .u32 n)) 14 (.bool (decide (e.toNat ≤ 15)))) 4 (.int .i64 (-5)) 4 = .int .i64 (-5) := upd_same _ _ _
  refine zc fun K hK => zad fun τ => ?_
  simp +decide only [bK, bE, Nat.reduceBeqDiff, BEq.rfl, Nat.reduceAdd]
  refine hK _ _ (zg fun σ' hσ => zcf (hret σ' 0 (-5) hu ⟨.inr rfl, _, ⟨_, _, rfl, rfl, rfl⟩, ?_⟩))
  have e1 := hσ 1
  have e2 := hσ 2
  simp +decide only [bE, Nat.reduceBeqDiff, BEq.rfl, Nat.reduceAdd, upd_same] at e1 e2
  rw [e1, e2]
  exact ⟨rfl, rfl⟩
end
def zni (c : Nat) (g : List UInt8 → Int) (s : RS) : Int × RS := if s.l.length < c then (0, ⟨[], true, true⟩) else (g (s.l.take c), ⟨s.l.drop c, s.bad, s.nl⟩)
theorem zqw (c : Nat) (k : IntKind) (g : List UInt8 → Int) (s : RS) : zeh c (fun l => .int k (g l)) (.int k 0) s = (.int k (zni c g s).1, (zni c g s).2) := by
 unfold zeh zni; split <;> rfl
def i16N : RS → Int × RS := zni 2 fun l => IntKind.i16.wrap (be l)
def i32N : RS → Int × RS := zni 4 fun l => IntKind.i32.wrap (be l)
def uvN (s : RS) : Nat × RS := if (uvD s.l).2 ≤ 0 then (0, ⟨[], true, true⟩) else ((uvD s.l).1, ⟨s.l.drop (uvD s.l).2.toNat, s.bad, s.nl⟩)
theorem uvD_lt (l : List UInt8) : (uvD l).1 < 4294967296 := by
 unfold uvD
 rcases l with _ | ⟨a, _ | ⟨b, _ | ⟨c, _ | ⟨d, _ | ⟨e, l⟩⟩⟩⟩⟩
 ·decide
 all_goals
  have ha := a.toNat_lt
  repeat' split
  all_goals dsimp only
 all_goals (try omega)
theorem uvD_le (l : List UInt8) : (uvD l).2 ≤ l.length := by
 unfold uvD
 rcases l with _ | ⟨a, _ | ⟨b, _ | ⟨c, _ | ⟨d, _ | ⟨e, l⟩⟩⟩⟩⟩
 ·decide
 all_goals
  repeat' split
  all_goals simp only [List.length_cons, List.length_nil]
 all_goals first | omega | simp_all
theorem uvN_neg {s : RS} (h : (uvD s.l).2 ≤ 0) : uvN s = (0, ⟨[], true, true⟩) := by unfold uvN; rw [if_pos h]
theorem uvN_pos {s : RS} (h : ¬ (uvD s.l).2 ≤ 0) : uvN s = ((uvD s.l).1, ⟨s.l.drop (uvD s.l).2.toNat, s.bad, s.nl⟩) := by unfold uvN; rw [if_neg h]
theorem zhs (s : RS) : (uvN s).1 < 4294967296 := by
 unfold uvN; split
 ·simp only []; omega
 ·exact uvD_lt s.l
def strR (s : RS) : List UInt8 × RS := (zdq (i16N s).1 (i16N s).2, zht (i16N s).1 (i16N s).2)
def zic (s : RS) : List UInt8 × RS := (zdq ((uvN s).1 - 1 : Int) (uvN s).2, zht ((uvN s).1 - 1 : Int) (uvN s).2)
def zmn (s : RS) : Option (List UInt8) × RS := if (i16N s).1 < 0 then (none, (i16N s).2) else (some (strR s).1, (strR s).2)
def zit (s : RS) : Option (List UInt8) × RS := if ((uvN s).1 - 1 : Int) < 0 then (none, (uvN s).2) else (some (zic s).1, (zic s).2)
def zmm (n : Int) (s : RS) : Option (List UInt8) := if zpg n s then none else some (zdq n s)
def bytR (s : RS) : Option (List UInt8) × RS := if (i32N s).1 = -1 then (some [], (i32N s).2) else (zmm (i32N s).1 (i32N s).2, zht (i32N s).1 (i32N s).2)
def zsy (s : RS) : Option (List UInt8) × RS := if ((uvN s).1 - 1 : Int) = -1 then (some [], (uvN s).2) else (zmm ((uvN s).1 - 1 : Int) (uvN s).2, zht ((uvN s).1 - 1 : Int) (uvN s).2)
def zss (s : RS) : Option (List UInt8) × RS := if (i32N s).1 < 0 then (none, (i32N s).2) else (zmm (i32N s).1 (i32N s).2, zht (i32N s).1 (i32N s).2)
def znn (s : RS) : Option (List UInt8) × RS := if ((uvN s).1 - 1 : Int) < 0 then (none, (uvN s).2) else (zmm ((uvN s).1 - 1 : Int) (uvN s).2, zht ((uvN s).1 - 1 : Int) (uvN s).2)
def arrR (s : RS) : Int × RS := if ((i32N s).2.l.length : Int) < (i32N s).1 then (0, ⟨[], true, true⟩) else i32N s
def zmo (s : RS) : Int := IntKind.i32.wrap (IntKind.i32.wrap (uvN s).1 - 1)
def znp (s : RS) : Int × RS := if ((uvN s).2.l.length : Int) < zmo s then (0, ⟨[], true, true⟩) else (zmo s, (uvN s).2)
def OctAt (w : World) (lo hi : Nat) (v : Value) (o : Option (List UInt8)) : Prop :=
 match o with
 | none => v = .slice none 0 0
 | some l => zbc w lo hi v false l
theorem zbc.oct {w : World} {lo hi : Nat} {v : Value} {n : Int} {s : RS} (h : zbc w lo hi v (zpg n s) (zdq n s)) : OctAt w lo hi v (zmm n s) := by
 unfold zmm
 cases hn : zpg n s with
 | true =>
  rw [hn] at h
  rcases h with ⟨_, h, _⟩ | ⟨_, _, _, h, _⟩
  ·exact h
  ·cases h
 | false => rw [hn] at h; exact h
def PtrStr (w w' : World) (v : Value) (o : Option (List UInt8)) : Prop :=
 match o with
 | none => v = .pointer none
 | some l => ∃ b, v = .pointer (some ⟨b, 0, none⟩) ∧ w.heap.size ≤ b ∧ b < w'.heap.size ∧ w'.cell? ⟨b, 0, none⟩ = some (strV l)
def ztg (P : Program) (f : FuncId) (g : RS → List UInt8 × RS) : Prop :=
 ∀ w lo hi r s, RdAt w lo hi r s → Call P f #[.pointer (some ⟨r, 0, none⟩)] w fun v w' => v = strV (g s).1 ∧ RdAt w' lo hi r (g s).2 ∧ Mod w w' (blk r)
def zsb (P : Program) (f : FuncId) (g : RS → Option (List UInt8) × RS) : Prop :=
 ∀ w lo hi r s, RdAt w lo hi r s → Call P f #[.pointer (some ⟨r, 0, none⟩)] w fun v w' => PtrStr w w' v (g s).1 ∧ RdAt w' lo hi r (g s).2 ∧ Mod w w' (blk r)
def OctOk (P : Program) (f : FuncId) (g : RS → Option (List UInt8) × RS) : Prop :=
 ∀ w lo hi r s, RdAt w lo hi r s → Call P f #[.pointer (some ⟨r, 0, none⟩)] w fun v w' => OctAt w' lo hi v (g s).1 ∧ RdAt w' lo hi r (g s).2 ∧ Mod w w' (blk r)
def LenOk (P : Program) (f : FuncId) (g : RS → Int × RS) : Prop :=
 ∀ w lo hi r s, RdAt w lo hi r s → Call P f #[.pointer (some ⟨r, 0, none⟩)] w fun v w' => v = .int .i32 (g s).1 ∧ RdAt w' lo hi r (g s).2 ∧ Mod w w' (blk r)
theorem zcw {n : Int} (h1 : -9223372036854775808 ≤ n) (h2 : n < 9223372036854775808) : IntKind.i64.wrap n = n := by
 simp [IntKind.wrap, IntKind.bits, IntKind.signed]
 split <;> omega
theorem zfq (s : RS) : -32768 ≤ (i16N s).1 ∧ (i16N s).1 < 32768 := by
 unfold i16N zni
 split
 ·simp only []; omega
 ·simp only []
  constructor
  ·simp [IntKind.wrap, IntKind.bits, IntKind.signed]; split <;> omega
  ·simp [IntKind.wrap, IntKind.bits, IntKind.signed]; split <;> omega
theorem zgw (s : RS) : -2147483648 ≤ (i32N s).1 ∧ (i32N s).1 < 2147483648 := by
 unfold i32N zni
 split
 ·simp only []; omega
 ·simp only []
  constructor
  ·simp [IntKind.wrap, IntKind.bits, IntKind.signed]; split <;> omega
  ·simp [IntKind.wrap, IntKind.bits, IntKind.signed]; split <;> omega
theorem zot (s : RS) : -2147483648 ≤ zmo s ∧ zmo s < 2147483648 := by
 unfold zmo
 generalize IntKind.i32.wrap (uvN s).1 - 1 = n
 constructor
 ·simp [IntKind.wrap, IntKind.bits, IntKind.signed]; split <;> omega
 ·simp [IntKind.wrap, IntKind.bits, IntKind.signed]; split <;> omega
section
variable {P : Program} {N : Nums}
theorem rd_i16 (B : Base P N) (F : Fns P N) (hN : N.zat ≠ 0) : RdOk P N.zat fun s => (.int .i16 (i16N s).1, (i16N s).2) :=
 fun w lo hi r s hr => (rd_Int16 B F hN w lo hi r s hr).mono fun v w' h => by rw [zqw 2 .i16 (fun l => IntKind.i16.wrap (be l))] at h; exact h
theorem rd_i32 (B : Base P N) (F : Fns P N) (hN : N.zbd ≠ 0) : RdOk P N.zbd fun s => (.int .i32 (i32N s).1, (i32N s).2) :=
 fun w lo hi r s hr => (rd_Int32 B F hN w lo hi r s hr).mono fun v w' h => by rw [zqw 4 .i32 (fun l => IntKind.i32.wrap (be l))] at h; exact h
theorem zeq (B : Base P N) (F : Fns P N) (hN : N.zn ≠ 0) : RdOk P N.zn fun s => (.int .u32 (uvN s).1, (uvN s).2) := by
 intro w lo hi r s hr
 have h := F.PReader_Uvarint hN
 refine h.1.call rfl fun loc N' hlo => ?_
 unfold zie
 refine zc fun K hK => zap (hK _ _ ?_)
 clear hK K
 refine zc fun K hK => zad fun τ => ?_
 obtain ⟨v, hv, hb⟩ := hr.cell0
 simp +decide only [bK, bE, Nat.reduceBeqDiff, BEq.rfl, Nat.reduceAdd, Nat.zero_add, ze]
 rw [zaa rfl]
 simp +decide only [bK, bE, BEq.rfl, Nat.add_zero, B.reader0.run, B.Lu8.run_load1 rfl, hv]
 rw [zak (F.Uvarint h.2).has]
 simp +decide only [bK, bE, BEq.rfl]
 refine (zrl B F h.2 hb).mono ?_
 rintro t w' ⟨rfl, rfl⟩
 simp +decide only [bK]
 refine hK _ _ (zg fun σ hσ => ?_)
 have e0 := hσ 0
 have e2 := hσ 2
 have e3 := hσ 3
 simp +decide only [bE, Nat.reduceBeqDiff, BEq.rfl, Nat.reduceAdd, Nat.zero_add, ze, zar] at e0 e2 e3
 clear hσ hK K τ
 refine zc fun K hK => zc fun K1 hK1 => zad fun τ => ?_
 simp +decide only [bK, bE, BEq.rfl, Nat.reduceAdd, e3]
 refine hK1 _ _ (zg fun σ1 hσ => ?_)
 have f0 := hσ 0
 have f2 := hσ 2
 have f3 := hσ 3
 have f4 := hσ 4
 simp +decide only [bE, Nat.reduceBeqDiff, BEq.rfl, Nat.reduceAdd, Nat.zero_add, e0, e2, e3] at f0 f2 f3 f4
 refine W_if hlo f4 ?_
 clear hσ hK1 K1 τ
 by_cases hle : (uvD s.l).2 ≤ 0
 ·rw [decide_eq_true hle, if_pos rfl]
  refine zc fun K2 hK2 => W_bad (i := 0) B f0 hr.there (hK2 _ _ ?_)
  refine zc fun K3 hK3 => zoa (i := 0) B f0 (zfm hr.there) (hK3 _ _ ?_)
  refine zc fun K4 hK4 => zap (hK4 _ _ (zcf ⟨.inr rfl, _, rfl, ?_⟩))
  rw [upd_same]
  simp only [uvN_neg hle]
  exact ⟨by trivial, hr.bad.1, hr.bad.2⟩
 ·rw [decide_eq_false hle, if_neg (by simp)]
  refine zca (hK _ _ ?_)
  have hll := uvD_le s.l
  have e : (uvD s.l).2 = ((uvD s.l).2.toNat : Int) := by omega
  rw [e] at f3
  refine zc fun K2 hK2 => W_advV (i := 0) (j := 3) B f0 f3 hr (by omega) fun w' hr' hm => hK2 _ _ ?_
  refine zc fun K3 hK3 => zeu (i := 1) (j := 2) (hK3 _ _ (zcf ⟨.inr rfl, _, rfl, ?_⟩))
  rw [upd_same, f2]
  simp only [uvN_pos hle]
  exact ⟨by trivial, hr', hm⟩
theorem zgr (B : Base P N) (F : Fns P N) (hN : N.zce ≠ 0) {w : World} {lo hi : Nat} {v : Value} {nl : Bool} {l : List UInt8} (hb : zbc w lo hi v nl l) :
  Call P N.zce #[v] w fun r w' => r = strV l ∧ w' = w := by
 refine (F.UnsafeString hN).call rfl fun loc N' hlo => ?_
 unfold zkf
 refine zc fun K hK => zap (hK _ _ ?_)
 clear hK K
 refine zc fun K hK => zad fun τ => ?_
 simp +decide only [bK, bE, BEq.rfl, Nat.reduceAdd, Nat.zero_add, ze, hb.toStr B]
 refine hK _ _ (zg fun σ hσ => zcf ⟨.inr rfl, _, rfl, ?_⟩)
 have e1 := hσ 1
 simp +decide only [bE, BEq.rfl, Nat.reduceAdd] at e1
 rw [e1]
 exact ⟨rfl, rfl⟩
theorem zmv {loc : List Nat} {N' : Nat} {Q : Exit → Env → World → Prop} {σ : Env} {w : World} {lo hi r : Nat} {s : RS} (B : Base P N) (F : Fns P N) (hN : N.zat ≠ 0) (h0 : σ 0 = .pointer (some ⟨r, 0, none⟩)) (hr : RdAt w lo hi r s)
  (h : ∀ w', RdAt w' lo hi r (i16N s).2 → Mod w w' (blk r) → Q .normal (upd σ 2 (.int .i16 (i16N s).1)) w') :
  W P loc N' (.ops [⟨some 0, .move (V 0), 0, none, []⟩, ⟨some 1, .call ⟨.value (.func N.zat), #[T 0], #[N.zaq]⟩, N.zbs, none, []⟩, ⟨some (2 + 100), .assign (T 1), 0, none, []⟩]) Q σ w := by
 refine zad fun τ => ?_
 simp +decide only [bK, bE, Nat.reduceAdd, Nat.zero_add, h0]
 rw [zak (F.PReader_Int16 hN).1.has]
 simp +decide only [bK, bE, BEq.rfl]
 refine (rd_i16 B F hN w lo hi r s hr).mono ?_
 rintro v w' ⟨rfl, hr', hm⟩
 simp +decide only [Nat.reduceLT, zf, zac, locs_envOf]
 exact h w' hr' hm
theorem zpy {loc : List Nat} {N' : Nat} {Q : Exit → Env → World → Prop} {σ : Env} {w : World} {lo hi r : Nat} {s : RS} (B : Base P N) (F : Fns P N) (hN : N.zbd ≠ 0) (h0 : σ 0 = .pointer (some ⟨r, 0, none⟩)) (hr : RdAt w lo hi r s)
  (h : ∀ w', RdAt w' lo hi r (i32N s).2 → Mod w w' (blk r) → Q .normal (upd σ 2 (.int .i32 (i32N s).1)) w') :
  W P loc N' (.ops [⟨some 0, .move (V 0), 0, none, []⟩, ⟨some 1, .call ⟨.value (.func N.zbd), #[T 0], #[N.zaq]⟩, N.zbz, none, []⟩, ⟨some (2 + 100), .assign (T 1), 0, none, []⟩]) Q σ w := by
 refine zad fun τ => ?_
 simp +decide only [bK, bE, Nat.reduceAdd, Nat.zero_add, h0]
 rw [zak (F.PReader_Int32 hN).1.has]
 simp +decide only [bK, bE, BEq.rfl]
 refine (rd_i32 B F hN w lo hi r s hr).mono ?_
 rintro v w' ⟨rfl, hr', hm⟩
 simp +decide only [Nat.reduceLT, zf, zac, locs_envOf]
 exact h w' hr' hm
theorem zma {loc : List Nat} {N' : Nat} {Q : Exit → Env → World → Prop} {σ : Env} {w : World} {lo hi r : Nat} {s : RS} (B : Base P N) (F : Fns P N) (hN : N.zn ≠ 0) (h0 : σ 0 = .pointer (some ⟨r, 0, none⟩)) (hr : RdAt w lo hi r s)
  (h : ∀ w', RdAt w' lo hi r (uvN s).2 → Mod w w' (blk r) → Q .normal (upd σ 2 (.int .i64 ((uvN s).1 - 1))) w') :
  W P loc N' (.ops [⟨some 0, .move (V 0), 0, none, []⟩, ⟨some 1, .call ⟨.value (.func N.zn), #[T 0], #[N.zaq]⟩, N.zm, none, []⟩, ⟨some 2, .convert N.zm N.zt (T 1), 0, none, []⟩, ⟨some 3, .binOp .sub N.zt (T 2) (.const (.int .i64 1)) N.zt, 0, none, []⟩, ⟨some (2 + 100), .assign (T 3), 0, none, []⟩]) Q σ w := by
 refine zad fun τ => ?_
 simp +decide only [bK, bE, BEq.rfl, Nat.reduceAdd, Nat.zero_add, h0]
 rw [zak (F.PReader_Uvarint hN).1.has]
 simp +decide only [bK, bE, BEq.rfl]
 refine (zeq B F hN w lo hi r s hr).mono ?_
 rintro v w' ⟨rfl, hr', hm⟩
 have hlt := zhs s
 have e1 : IntKind.i64.wrap (uvN s).1 = (uvN s).1 := zcw (by omega) (by omega)
 have e2 : IntKind.i64.wrap ((uvN s).1 - 1) = ((uvN s).1 : Int) - 1 := zcw (by omega) (by omega)
 simp +decide only [bK, Nat.reduceLT, zck B.uint32 B.int ⟨_, rfl⟩, e1, e2, zf, zac, locs_envOf]
 exact h w' hr' hm
theorem zlz {loc : List Nat} {N' : Nat} {Q : Exit → Env → World → Prop} {σ : Env} {w : World} {lo hi r : Nat} {s : RS} {n : Int} {rest : List ROp} (B : Base P N) (F : Fns P N) (hN : N.zo ≠ 0) (h0 : σ 0 = .pointer (some ⟨r, 0, none⟩)) (h2 : σ 2 = .int .i64 n) (hr : RdAt w lo hi r s)
  (h : ∀ (ρ : Env) (w' : World) (v : Value), (∀ i, ρ (i + 100) = σ i) → ρ 2 = v → zbc w' lo hi v (zpg n s) (zdq n s) → RdAt w' lo hi r (zht n s) → Mod w w' (blk r) → runR P rest ρ w' fun ρ w => Q .normal (locs ρ) w) :
  W P loc N' (.ops (⟨some 0, .move (V 0), 0, none, []⟩ :: ⟨some 1, .move (V 2), 0, none, []⟩ :: ⟨some 2, .call ⟨.value (.func N.zo), #[T 0, T 1], #[N.zaq, N.zt]⟩, N.zb, none, []⟩ :: rest)) Q σ w := by
 refine zad fun τ => ?_
 simp +decide only [bK, bE, Nat.reduceBeqDiff, Nat.reduceAdd, Nat.zero_add, h0, h2]
 rw [zcn (F.PReader_Span hN).has]
 simp +decide only [bK, bE, Nat.reduceBeqDiff, BEq.rfl]
 refine (zid B F hN hr).mono ?_
 rintro v w' ⟨hb, hr', hm⟩
 refine h _ w' v (fun i => ?_) ?_ hb hr' hm
 ·simp +decide only [bE, Nat.reduceBeqDiff]
 ·simp +decide only [bE, BEq.rfl]
theorem zly {loc : List Nat} {N' : Nat} {Q : Exit → Env → World → Prop} {σ : Env} {w : World} {lo hi r : Nat} {s : RS} {n : Int} {k : IntKind} {t : TypeId} {a b : Nat} {z : Value} {rest : List ROp} (B : Base P N) (F : Fns P N) (ht : TI P t (.int k) a b z) (hw : IntKind.i64.wrap n = n) (hN : N.zo ≠ 0) (h0 : σ 0 = .pointer (some ⟨r, 0, none⟩)) (h2 : σ 2 = .int k n) (hr : RdAt w lo hi r s)
  (h : ∀ (ρ : Env) (w' : World) (v : Value), (∀ i, ρ (i + 100) = σ i) → ρ 3 = v → zbc w' lo hi v (zpg n s) (zdq n s) → RdAt w' lo hi r (zht n s) → Mod w w' (blk r) → runR P rest ρ w' fun ρ w => Q .normal (locs ρ) w) :
  W P loc N' (.ops (⟨some 0, .move (V 0), 0, none, []⟩ :: ⟨some 1, .move (V 2), 0, none, []⟩ :: ⟨some 2, .convert t N.zt (T 1), 0, none, []⟩ :: ⟨some 3, .call ⟨.value (.func N.zo), #[T 0, T 2], #[N.zaq, N.zt]⟩, N.zb, none, []⟩ :: rest)) Q σ w := by
 refine zad fun τ => ?_
 simp +decide only [bK, bE, Nat.reduceBeqDiff, BEq.rfl, Nat.reduceAdd, Nat.zero_add, h0, h2, zck ht B.int ⟨_, rfl⟩, hw]
 rw [zcn (F.PReader_Span hN).has]
 simp +decide only [bK, bE, Nat.reduceBeqDiff, BEq.rfl]
 refine (zid B F hN hr).mono ?_
 rintro v w' ⟨hb, hr', hm⟩
 refine h _ w' v (fun i => ?_) ?_ hb hr' hm
 ·simp +decide only [bE, Nat.reduceBeqDiff]
 ·simp +decide only [bE, BEq.rfl]
theorem zdl {w w1 w2 : World} {r : Nat} (h : Mod w w1 (blk r)) (h' : Mod w1 w2 (blk r)) : Mod w w2 (blk r) := h.trans' h'
theorem zle (B : Base P N) (F : Fns P N) (hN : N.zcl ≠ 0) : ztg P N.zcl strR := by
 intro w lo hi r s hr
 have h := F.PReader_String hN
 have hU := h.2.1
 have hS := h.2.2
 refine h.1.call rfl fun loc N' hlo => ?_
 unfold ziv
 refine zc fun K hK => zap (hK _ _ ?_)
 clear hK K
 refine zc fun K hK => zmv B F hU (r := r) (by simp [ze, zar]) hr fun w1 hr1 hm1 => hK _ _ ?_
 clear hK K
 refine zc fun K hK => zly B F B.int16 (zcw (by have := zfq s; omega) (by have := zfq s; omega)) hS (r := r) (n := (i16N s).1) (by simp [ze, zar]) (upd_same _ _ _) hr1 fun ρ w2 v hρ h3 hb hr2 hm2 => ?_
 ·subst h3
  have h3 : ρ 3 = ρ 3 := rfl
  simp +decide only [bK, bE, BEq.rfl, Nat.reduceAdd, hb.toStr B]
  refine hK _ _ (zg fun σ hσ => zcf ⟨.inr rfl, _, rfl, ?_⟩)
  have e1 := hσ 1
  simp +decide only [bE, BEq.rfl, Nat.reduceAdd] at e1
  rw [e1]
  exact ⟨rfl, hr2, zdl hm1 hm2⟩
theorem zfo (B : Base P N) (F : Fns P N) (hN : N.zbf ≠ 0) : ztg P N.zbf strR := by
 intro w lo hi r s hr
 have h := F.PReader_UnsafeString hN
 have hU := h.2.1
 have hS := h.2.2.1
 have hT := h.2.2.2
 refine h.1.call rfl fun loc N' hlo => ?_
 unfold zfy
 refine zc fun K hK => zap (hK _ _ ?_)
 clear hK K
 refine zc fun K hK => zmv B F hU (r := r) (by simp [ze, zar]) hr fun w1 hr1 hm1 => hK _ _ ?_
 clear hK K
 refine zc fun K hK => zly B F B.int16 (zcw (by have := zfq s; omega) (by have := zfq s; omega)) hS (r := r) (n := (i16N s).1) (by simp [ze, zar]) (upd_same _ _ _) hr1 fun ρ w2 v hρ h3 hb hr2 hm2 => ?_
 ·subst h3
  have h3 : ρ 3 = ρ 3 := rfl
  simp +decide only [bK, Nat.reduceAdd]
  rw [zak (F.UnsafeString hT).has]
  simp +decide only [bK, bE, BEq.rfl]
  refine (zgr B F hT hb).mono ?_
  rintro u w3 ⟨rfl, rfl⟩
  refine hK _ _ (zg fun σ hσ => zcf ⟨.inr rfl, _, rfl, ?_⟩)
  have e1 := hσ 1
  simp +decide only [bE, BEq.rfl, Nat.reduceAdd] at e1
  rw [e1]
  exact ⟨rfl, hr2, zdl hm1 hm2⟩
theorem zis (B : Base P N) (F : Fns P N) (hN : N.zbv ≠ 0) : ztg P N.zbv zic := by
 intro w lo hi r s hr
 have h := F.PReader_CompactString hN
 have hU := h.2.2
 have hS := h.2.1
 refine h.1.call rfl fun loc N' hlo => ?_
 unfold zft
 refine zc fun K hK => zap (hK _ _ ?_)
 clear hK K
 refine zc fun K hK => zma B F hU (r := r) (by simp [ze, zar]) hr fun w1 hr1 hm1 => hK _ _ ?_
 clear hK K
 refine zc fun K hK => zlz B F hS (r := r) (n := ((uvN s).1 - 1 : Int)) (by simp [ze, zar]) (upd_same _ _ _) hr1 fun ρ w2 v hρ h3 hb hr2 hm2 => ?_
 ·subst h3
  have h3 : ρ 2 = ρ 2 := rfl
  simp +decide only [bK, bE, BEq.rfl, Nat.reduceAdd, hb.toStr B]
  refine hK _ _ (zg fun σ hσ => zcf ⟨.inr rfl, _, rfl, ?_⟩)
  have e1 := hσ 1
  simp +decide only [bE, BEq.rfl, Nat.reduceAdd] at e1
  rw [e1]
  exact ⟨rfl, hr2, zdl hm1 hm2⟩
theorem zfx (B : Base P N) (F : Fns P N) (hN : N.zaz ≠ 0) : ztg P N.zaz zic := by
 intro w lo hi r s hr
 have h := F.PReader_UnsafeCompactString hN
 have hU := h.2.2.1
 have hS := h.2.1
 have hT := h.2.2.2
 refine h.1.call rfl fun loc N' hlo => ?_
 unfold zeb
 refine zc fun K hK => zap (hK _ _ ?_)
 clear hK K
 refine zc fun K hK => zma B F hU (r := r) (by simp [ze, zar]) hr fun w1 hr1 hm1 => hK _ _ ?_
 clear hK K
 refine zc fun K hK => zlz B F hS (r := r) (n := ((uvN s).1 - 1 : Int)) (by simp [ze, zar]) (upd_same _ _ _) hr1 fun ρ w2 v hρ h3 hb hr2 hm2 => ?_
 ·subst h3
  have h3 : ρ 2 = ρ 2 := rfl
  simp +decide only [bK, Nat.reduceAdd]
  rw [zak (F.UnsafeString hT).has]
  simp +decide only [bK, bE, BEq.rfl]
  refine (zgr B F hT hb).mono ?_
  rintro u w3 ⟨rfl, rfl⟩
  refine hK _ _ (zg fun σ hσ => zcf ⟨.inr rfl, _, rfl, ?_⟩)
  have e1 := hσ 1
  simp +decide only [bE, BEq.rfl, Nat.reduceAdd] at e1
  rw [e1]
  exact ⟨rfl, hr2, zdl hm1 hm2⟩
end
section
variable {P : Program} {N : Nums}
theorem zll {loc : List Nat} {N' : Nat} {Q : Exit → Env → World → Prop} {σ : Env} {w : World} {i j : Nat} (h : Q .normal (upd σ i (σ j)) w) : W P loc N' (.ops [⟨some (i + 100), .assign (V j), 0, none, []⟩]) Q σ w := by
 refine zad fun τ => ?_
 simp +decide only [bK, bE, zf, locs_envOf]
 exact h
theorem W_lss {loc : List Nat} {N' : Nat} {Q : Exit → Env → World → Prop} {σ : Env} {w : World} {d j : Nat} {k : IntKind} {n c : Int} {t : TypeId} (hj : σ j = .int k n) (h : Q .normal (upd σ d (.bool (decide (n < c)))) w) :
  W P loc N' (.ops [⟨some 0, .move (V j), 0, none, []⟩, ⟨some (d + 100), .binOp .lss t (T 0) (.const (.int k c)) t, 0, none, []⟩]) Q σ w := by
 refine zad fun τ => ?_
 simp +decide only [bK, bE, BEq.rfl, Nat.reduceLT, hj, zf, zac, locs_envOf]
 exact h
theorem W_eql {loc : List Nat} {N' : Nat} {Q : Exit → Env → World → Prop} {σ : Env} {w : World} {d j : Nat} {k : IntKind} {n c : Int} {t : TypeId} (hj : σ j = .int k n) (h : Q .normal (upd σ d (.bool (n == c))) w) :
  W P loc N' (.ops [⟨some 0, .move (V j), 0, none, []⟩, ⟨some (d + 100), .binOp .eql t (T 0) (.const (.int k c)) t, 0, none, []⟩]) Q σ w := by
 refine zad fun τ => ?_
 simp +decide only [bK, bE, BEq.rfl, Nat.reduceLT, hj, zf, zac, locs_envOf]
 exact h
theorem zgt {t e : TypeId} {a b a' b' : Nat} {z z' : Value} {de : TypeDesc} {w : World} (ht : TI P t (.slice e) a b z) (he : TI P e de a' b' z') :
  (Instr.buildSlice t 0 #[]).run P w = .ok (.slice (some ⟨w.heap.size, 0, none⟩) 0 0) (w.alloc (.cells #[] e)) := by
 simp only [Instr.buildSlice, Sem.run_bind, ht.run_und, he.run_size, Result.andThen_ok, Nat.zero_mul]
 rw [if_neg (by decide), if_pos trivial]
 have e : Array.range 0 = #[] := by simp
 simp only [Sem.run_bind, Sem.run_pure, Result.andThen_ok, e, Array.map_empty, Instr.fill]
 rfl
theorem zje (B : Base P N) {w : World} {l : List UInt8} :
  (Instr.storeAt N.zaj (.pointer (some ⟨w.heap.size, 0, none⟩)) (strV l)).run P (w.alloc (.cells (Value.string ⟨#[]⟩).cells N.zaj)) = .ok () ((w.alloc (.cells (Value.string ⟨#[]⟩).cells N.zaj)).setCell ⟨w.heap.size, 0, none⟩ (strV l)) ∧
  ((w.alloc (.cells (Value.string ⟨#[]⟩).cells N.zaj)).setCell ⟨w.heap.size, 0, none⟩ (strV l)).cell? ⟨w.heap.size, 0, none⟩ = some (strV l) ∧
  Mod w ((w.alloc (.cells (Value.string ⟨#[]⟩).cells N.zaj)).setCell ⟨w.heap.size, 0, none⟩ (strV l)) zu ∧
  ((w.alloc (.cells (Value.string ⟨#[]⟩).cells N.zaj)).setCell ⟨w.heap.size, 0, none⟩ (strV l)).heap.size = w.heap.size + 1 := by
 have ht := zbq w (Value.string ⟨#[]⟩).cells N.zaj
 have hc : (w.alloc (.cells (Value.string ⟨#[]⟩).cells N.zaj)).cell? ⟨w.heap.size, 0, none⟩ = some (.string ⟨#[]⟩) := zz w (Value.string ⟨#[]⟩).cells N.zaj (0, 0) 0 _ rfl
 refine ⟨B.string.run_store1 rfl ht, World.cell?_setCell_same _ _ _ hc, ?_, ?_⟩
 ·exact (Mod.alloc w _ zu).fresh (M' := blk w.heap.size) (Mod.setCell fun _ => rfl) fun k o h => Nat.le_of_eq h.symm
 ·simp [World.setCell]
theorem zhw (B : Base P N) (F : Fns P N) (hN : N.zbr ≠ 0) : zsb P N.zbr zmn := by
 intro w lo hi r s hr
 have h := F.PReader_NullableString hN
 have hU := h.2.1
 have hS := h.2.2
 refine h.1.call rfl fun loc N' hlo => ?_
 unfold zfh
 refine zc fun K hK => zap (hK _ _ ?_)
 clear hK K
 refine zc fun K hK => zmv B F hU (r := r) (by simp [ze, zar]) hr fun w1 hr1 hm1 => hK _ _ ?_
 clear hK K
 refine zc fun K hK => zc fun K1 hK1 => W_lss (d := 3) (j := 2) (n := (i16N s).1) (upd_same _ _ _) (hK1 _ _ (W_if hlo (upd_same _ _ _) ?_))
 clear hK1 K1
 by_cases hneg : (i16N s).1 < 0
 ·rw [decide_eq_true hneg, if_pos rfl]
  refine zc fun K2 hK2 => zap (hK2 _ _ (zcf ⟨.inr rfl, _, rfl, ?_⟩))
  have e : zmn s = (none, (i16N s).2) := by unfold zmn; rw [if_pos hneg]
  rw [upd_same, e]
  exact ⟨rfl, hr1, hm1⟩
 ·rw [decide_eq_false hneg, if_neg (by simp)]
  refine zca (hK _ _ ?_)
  clear hK K
  have e : zmn s = (some (strR s).1, (strR s).2) := by unfold zmn; rw [if_neg hneg]
  rw [e]
  refine zc fun K hK => zly B F B.int16 (zcw (by have := zfq s; omega) (by have := zfq s; omega)) hS (r := r) (n := (i16N s).1) (by simp [ze, zar]) (by simp [ze]) hr1 fun ρ w2 v hρ h3 hb hr2 hm2 => ?_
  ·subst h3
   have h3 : ρ 3 = ρ 3 := rfl
   simp +decide only [bK, bE, Nat.reduceBeqDiff, BEq.rfl, Nat.reduceAdd, hb.toStr B, B.string.run_alloc, (zje B).1]
   refine hK _ _ (zg fun σ hσ => ?_)
   have e4 := hσ 4
   simp +decide only [bE, BEq.rfl, Nat.reduceAdd] at e4
   clear hσ hK K
   refine zc fun K hK => zll (i := 1) (j := 4) (hK _ _ (zcf ⟨.inr rfl, _, rfl, ?_⟩))
   rw [upd_same, e4]
   obtain ⟨_, o2, o3, o4⟩ := zje (P := P) B (w := _) (l := _)
   have ml := hm1.size
   have ml2 := hm2.size
   refine ⟨⟨_, rfl, by omega, by rw [o4]; omega, o2⟩, hr2.mod o3 (fun _ h => h) (fun _ _ _ _ h => h), (zdl hm1 hm2).trans o3 fun k o _ h => h.elim id False.elim⟩
theorem zfp (B : Base P N) (F : Fns P N) (hN : N.zaw ≠ 0) : zsb P N.zaw zmn := by
 intro w lo hi r s hr
 have h := F.PReader_UnsafeNullableString hN
 have hU := h.2.1
 have hS := h.2.2.1
 have hT := h.2.2.2
 refine h.1.call rfl fun loc N' hlo => ?_
 unfold zdu
 refine zc fun K hK => zap (hK _ _ ?_)
 clear hK K
 refine zc fun K hK => zmv B F hU (r := r) (by simp [ze, zar]) hr fun w1 hr1 hm1 => hK _ _ ?_
 clear hK K
 refine zc fun K hK => zc fun K1 hK1 => W_lss (d := 3) (j := 2) (n := (i16N s).1) (upd_same _ _ _) (hK1 _ _ (W_if hlo (upd_same _ _ _) ?_))
 clear hK1 K1
 by_cases hneg : (i16N s).1 < 0
 ·rw [decide_eq_true hneg, if_pos rfl]
  refine zc fun K2 hK2 => zap (hK2 _ _ (zcf ⟨.inr rfl, _, rfl, ?_⟩))
  have e : zmn s = (none, (i16N s).2) := by unfold zmn; rw [if_pos hneg]
  rw [upd_same, e]
  exact ⟨rfl, hr1, hm1⟩
 ·rw [decide_eq_false hneg, if_neg (by simp)]
  refine zca (hK _ _ ?_)
  clear hK K
  have e : zmn s = (some (strR s).1, (strR s).2) := by unfold zmn; rw [if_neg hneg]
  rw [e]
  refine zc fun K hK => zly B F B.int16 (zcw (by have := zfq s; omega) (by have := zfq s; omega)) hS (r := r) (n := (i16N s).1) (by simp [ze, zar]) (by simp [ze]) hr1 fun ρ w2 v hρ h3 hb hr2 hm2 => ?_
  ·subst h3
   have h3 : ρ 3 = ρ 3 := rfl
   simp +decide only [bK, bE, Nat.reduceBeqDiff, BEq.rfl, Nat.reduceAdd]
   rw [zak (F.UnsafeString hT).has]
   simp +decide only [bK, bE, BEq.rfl]
   refine (zgr B F hT hb).mono ?_
   rintro u w3 ⟨rfl, rfl⟩
   simp +decide only [bK, B.string.run_alloc, (zje B).1]
   refine hK _ _ (zg fun σ hσ => ?_)
   have e4 := hσ 4
   simp +decide only [bE, BEq.rfl, Nat.reduceAdd] at e4
   clear hσ hK K
   refine zc fun K hK => zll (i := 1) (j := 4) (hK _ _ (zcf ⟨.inr rfl, _, rfl, ?_⟩))
   rw [upd_same, e4]
   obtain ⟨_, o2, o3, o4⟩ := zje (P := P) B (w := _) (l := _)
   have ml := hm1.size
   have ml2 := hm2.size
   refine ⟨⟨_, rfl, by omega, by rw [o4]; omega, o2⟩, hr2.mod o3 (fun _ h => h) (fun _ _ _ _ h => h), (zdl hm1 hm2).trans o3 fun k o _ h => h.elim id False.elim⟩
theorem zhx (B : Base P N) (F : Fns P N) (hN : N.zbb ≠ 0) : zsb P N.zbb zit := by
 intro w lo hi r s hr
 have h := F.PReader_CompactNullableString hN
 have hU := h.2.2
 have hS := h.2.1
 refine h.1.call rfl fun loc N' hlo => ?_
 unfold zds
 refine zc fun K hK => zap (hK _ _ ?_)
 clear hK K
 refine zc fun K hK => zma B F hU (r := r) (by simp [ze, zar]) hr fun w1 hr1 hm1 => hK _ _ ?_
 clear hK K
 refine zc fun K hK => zc fun K1 hK1 => W_lss (d := 3) (j := 2) (n := ((uvN s).1 - 1 : Int)) (upd_same _ _ _) (hK1 _ _ (W_if hlo (upd_same _ _ _) ?_))
 clear hK1 K1
 by_cases hneg : ((uvN s).1 - 1 : Int) < 0
 ·rw [decide_eq_true hneg, if_pos rfl]
  refine zc fun K2 hK2 => zap (hK2 _ _ (zcf ⟨.inr rfl, _, rfl, ?_⟩))
  have e : zit s = (none, (uvN s).2) := by unfold zit; rw [if_pos hneg]
  rw [upd_same, e]
  exact ⟨rfl, hr1, hm1⟩
 ·rw [decide_eq_false hneg, if_neg (by simp)]
  refine zca (hK _ _ ?_)
  clear hK K
  have e : zit s = (some (zic s).1, (zic s).2) := by unfold zit; rw [if_neg hneg]
  rw [e]
  refine zc fun K hK => zlz B F hS (r := r) (n := ((uvN s).1 - 1 : Int)) (by simp [ze, zar]) (by simp [ze]) hr1 fun ρ w2 v hρ h3 hb hr2 hm2 => ?_
  ·subst h3
   have h3 : ρ 2 = ρ 2 := rfl
   simp +decide only [bK, bE, Nat.reduceBeqDiff, BEq.rfl, Nat.reduceAdd, hb.toStr B, B.string.run_alloc, (zje B).1]
   refine hK _ _ (zg fun σ hσ => ?_)
   have e4 := hσ 4
   simp +decide only [bE, BEq.rfl, Nat.reduceAdd] at e4
   clear hσ hK K
   refine zc fun K hK => zll (i := 1) (j := 4) (hK _ _ (zcf ⟨.inr rfl, _, rfl, ?_⟩))
   rw [upd_same, e4]
   obtain ⟨_, o2, o3, o4⟩ := zje (P := P) B (w := _) (l := _)
   have ml := hm1.size
   have ml2 := hm2.size
   refine ⟨⟨_, rfl, by omega, by rw [o4]; omega, o2⟩, hr2.mod o3 (fun _ h => h) (fun _ _ _ _ h => h), (zdl hm1 hm2).trans o3 fun k o _ h => h.elim id False.elim⟩
theorem zgj (B : Base P N) (F : Fns P N) (hN : N.zam ≠ 0) : zsb P N.zam zit := by
 intro w lo hi r s hr
 have h := F.PReader_UnsafeCompactNullableString hN
 have hU := h.2.2.1
 have hS := h.2.1
 have hT := h.2.2.2
 refine h.1.call rfl fun loc N' hlo => ?_
 unfold zdd
 refine zc fun K hK => zap (hK _ _ ?_)
 clear hK K
 refine zc fun K hK => zma B F hU (r := r) (by simp [ze, zar]) hr fun w1 hr1 hm1 => hK _ _ ?_
 clear hK K
 refine zc fun K hK => zc fun K1 hK1 => W_lss (d := 3) (j := 2) (n := ((uvN s).1 - 1 : Int)) (upd_same _ _ _) (hK1 _ _ (W_if hlo (upd_same _ _ _) ?_))
 clear hK1 K1
 by_cases hneg : ((uvN s).1 - 1 : Int) < 0
 ·rw [decide_eq_true hneg, if_pos rfl]
  refine zc fun K2 hK2 => zap (hK2 _ _ (zcf ⟨.inr rfl, _, rfl, ?_⟩))
  have e : zit s = (none, (uvN s).2) := by unfold zit; rw [if_pos hneg]
  rw [upd_same, e]
  exact ⟨rfl, hr1, hm1⟩
 ·rw [decide_eq_false hneg, if_neg (by simp)]
  refine zca (hK _ _ ?_)
  clear hK K
  have e : zit s = (some (zic s).1, (zic s).2) := by unfold zit; rw [if_neg hneg]
  rw [e]
  refine zc fun K hK => zlz B F hS (r := r) (n := ((uvN s).1 - 1 : Int)) (by simp [ze, zar]) (by simp [ze]) hr1 fun ρ w2 v hρ h3 hb hr2 hm2 => ?_
  ·subst h3
   have h3 : ρ 2 = ρ 2 := rfl
   simp +decide only [bK, bE, Nat.reduceBeqDiff, BEq.rfl, Nat.reduceAdd]
   rw [zak (F.UnsafeString hT).has]
   simp +decide only [bK, bE, BEq.rfl]
   refine (zgr B F hT hb).mono ?_
   rintro u w3 ⟨rfl, rfl⟩
   simp +decide only [bK, B.string.run_alloc, (zje B).1]
   refine hK _ _ (zg fun σ hσ => ?_)
   have e4 := hσ 4
   simp +decide only [bE, BEq.rfl, Nat.reduceAdd] at e4
   clear hσ hK K
   refine zc fun K hK => zll (i := 1) (j := 4) (hK _ _ (zcf ⟨.inr rfl, _, rfl, ?_⟩))
   rw [upd_same, e4]
   obtain ⟨_, o2, o3, o4⟩ := zje (P := P) B (w := _) (l := _)
   have ml := hm1.size
   have ml2 := hm2.size
   refine ⟨⟨_, rfl, by omega, by rw [o4]; omega, o2⟩, hr2.mod o3 (fun _ h => h) (fun _ _ _ _ h => h), (zdl hm1 hm2).trans o3 fun k o _ h => h.elim id False.elim⟩
theorem rd_Bytes (B : Base P N) (F : Fns P N) (hN : N.zdi ≠ 0) : OctOk P N.zdi bytR := by
 intro w lo hi r s hr
 have h := F.PReader_Bytes hN
 have hU := h.2.1
 have hS := h.2.2
 refine h.1.call rfl fun loc N' hlo => ?_
 unfold zjj
 refine zc fun K hK => zap (hK _ _ ?_)
 clear hK K
 refine zc fun K hK => zpy B F hU (r := r) (by simp [ze, zar]) hr fun w1 hr1 hm1 => hK _ _ ?_
 clear hK K
 refine zc fun K hK => zc fun K1 hK1 => W_eql (d := 3) (j := 2) (n := (i32N s).1) (upd_same _ _ _) (hK1 _ _ (W_if hlo (upd_same _ _ _) ?_))
 clear hK1 K1
 by_cases hneg : (i32N s).1 = -1
 ·rw [show ((i32N s).1 == -1) = true from by simpa using hneg, if_pos rfl]
  refine zc fun K2 hK2 => zad fun τ => ?_
  have eb : ∀ ρ : Env, (#[] : Array (Nat × Operand)).map (fun p => (p.1, ev ρ p.2)) = #[] := fun _ => by simp
  simp +decide only [bK, bE, BEq.rfl, Nat.reduceAdd, eb, zgt B.Lu8 B.uint8]
  refine hK2 _ _ (zg fun σ hσ => zcf ⟨.inr rfl, _, rfl, ?_⟩)
  have e1 := hσ 1
  simp +decide only [bE, BEq.rfl, Nat.reduceAdd] at e1
  have e : bytR s = (some [], (i32N s).2) := by unfold bytR; rw [if_pos hneg]
  rw [e1, e]
  have o3 : Mod w1 (w1.alloc (.cells #[] N.zq)) zu := Mod.alloc _ _ _
  exact ⟨.inr ⟨_, 0, 0, rfl, rfl, Nat.le_refl _, fun h => absurd rfl h, fun j v hj => by simp at hj⟩, hr1.mod o3 (fun _ h => h) (fun _ _ _ _ h => h), hm1.trans o3 fun k o _ h => h.elim id False.elim⟩
 ·rw [show ((i32N s).1 == -1) = false from by simpa using hneg, if_neg (by simp)]
  refine zca (hK _ _ ?_)
  clear hK K
  have e : bytR s = (zmm (i32N s).1 (i32N s).2, zht (i32N s).1 (i32N s).2) := by unfold bytR; rw [if_neg hneg]
  rw [e]
  refine zc fun K hK => zly B F B.int32 (zcw (by have := zgw s; omega) (by have := zgw s; omega)) hS (r := r) (n := (i32N s).1) (by simp [ze, zar]) (by simp [ze]) hr1 fun ρ w2 v hρ h3 hb hr2 hm2 => ?_
  ·subst h3
   have h3 : ρ 3 = ρ 3 := rfl
   simp +decide only [bK, Nat.reduceAdd]
   refine hK _ _ (zg fun σ hσ => zcf ⟨.inr rfl, _, rfl, ?_⟩)
   have e1 := hσ 1
   simp +decide only [bE, BEq.rfl, Nat.reduceAdd] at e1
   rw [e1]
   exact ⟨hb.oct, hr2, zdl hm1 hm2⟩
theorem zne (B : Base P N) (F : Fns P N) (hN : N.zch ≠ 0) : OctOk P N.zch zsy := by
 intro w lo hi r s hr
 have h := F.PReader_CompactBytes hN
 have hU := h.2.2
 have hS := h.2.1
 refine h.1.call rfl fun loc N' hlo => ?_
 unfold zfz
 refine zc fun K hK => zap (hK _ _ ?_)
 clear hK K
 refine zc fun K hK => zma B F hU (r := r) (by simp [ze, zar]) hr fun w1 hr1 hm1 => hK _ _ ?_
 clear hK K
 refine zc fun K hK => zc fun K1 hK1 => W_eql (d := 3) (j := 2) (n := ((uvN s).1 - 1 : Int)) (upd_same _ _ _) (hK1 _ _ (W_if hlo (upd_same _ _ _) ?_))
 clear hK1 K1
 by_cases hneg : ((uvN s).1 - 1 : Int) = -1
 ·rw [show (((uvN s).1 - 1 : Int) == -1) = true from by simpa using hneg, if_pos rfl]
  refine zc fun K2 hK2 => zad fun τ => ?_
  have eb : ∀ ρ : Env, (#[] : Array (Nat × Operand)).map (fun p => (p.1, ev ρ p.2)) = #[] := fun _ => by simp
  simp +decide only [bK, bE, BEq.rfl, Nat.reduceAdd, eb, zgt B.Lu8 B.uint8]
  refine hK2 _ _ (zg fun σ hσ => zcf ⟨.inr rfl, _, rfl, ?_⟩)
  have e1 := hσ 1
  simp +decide only [bE, BEq.rfl, Nat.reduceAdd] at e1
  have e : zsy s = (some [], (uvN s).2) := by unfold zsy; rw [if_pos hneg]
  rw [e1, e]
  have o3 : Mod w1 (w1.alloc (.cells #[] N.zq)) zu := Mod.alloc _ _ _
  exact ⟨.inr ⟨_, 0, 0, rfl, rfl, Nat.le_refl _, fun h => absurd rfl h, fun j v hj => by simp at hj⟩, hr1.mod o3 (fun _ h => h) (fun _ _ _ _ h => h), hm1.trans o3 fun k o _ h => h.elim id False.elim⟩
 ·rw [show (((uvN s).1 - 1 : Int) == -1) = false from by simpa using hneg, if_neg (by simp)]
  refine zca (hK _ _ ?_)
  clear hK K
  have e : zsy s = (zmm ((uvN s).1 - 1 : Int) (uvN s).2, zht ((uvN s).1 - 1 : Int) (uvN s).2) := by unfold zsy; rw [if_neg hneg]
  rw [e]
  refine zc fun K hK => zlz B F hS (r := r) (n := ((uvN s).1 - 1 : Int)) (by simp [ze, zar]) (by simp [ze]) hr1 fun ρ w2 v hρ h3 hb hr2 hm2 => ?_
  ·subst h3
   have h3 : ρ 2 = ρ 2 := rfl
   simp +decide only [bK, Nat.reduceAdd]
   refine hK _ _ (zg fun σ hσ => zcf ⟨.inr rfl, _, rfl, ?_⟩)
   have e1 := hσ 1
   simp +decide only [bE, BEq.rfl, Nat.reduceAdd] at e1
   rw [e1]
   exact ⟨hb.oct, hr2, zdl hm1 hm2⟩
theorem zir (B : Base P N) (F : Fns P N) (hN : N.zbu ≠ 0) : OctOk P N.zbu zss := by
 intro w lo hi r s hr
 have h := F.PReader_NullableBytes hN
 have hU := h.2.1
 have hS := h.2.2
 refine h.1.call rfl fun loc N' hlo => ?_
 unfold zfs
 refine zc fun K hK => zap (hK _ _ ?_)
 clear hK K
 refine zc fun K hK => zpy B F hU (r := r) (by simp [ze, zar]) hr fun w1 hr1 hm1 => hK _ _ ?_
 clear hK K
 refine zc fun K hK => zc fun K1 hK1 => W_lss (d := 3) (j := 2) (n := (i32N s).1) (upd_same _ _ _) (hK1 _ _ (W_if hlo (upd_same _ _ _) ?_))
 clear hK1 K1
 by_cases hneg : (i32N s).1 < 0
 ·rw [decide_eq_true hneg, if_pos rfl]
  refine zc fun K2 hK2 => zap (hK2 _ _ (zcf ⟨.inr rfl, _, rfl, ?_⟩))
  have e : zss s = (none, (i32N s).2) := by unfold zss; rw [if_pos hneg]
  rw [upd_same, e]
  exact ⟨rfl, hr1, hm1⟩
 ·rw [decide_eq_false hneg, if_neg (by simp)]
  refine zca (hK _ _ ?_)
  clear hK K
  have e : zss s = (zmm (i32N s).1 (i32N s).2, zht (i32N s).1 (i32N s).2) := by unfold zss; rw [if_neg hneg]
  rw [e]
  refine zc fun K hK => zly B F B.int32 (zcw (by have := zgw s; omega) (by have := zgw s; omega)) hS (r := r) (n := (i32N s).1) (by simp [ze, zar]) (by simp [ze]) hr1 fun ρ w2 v hρ h3 hb hr2 hm2 => ?_
  ·subst h3
   have h3 : ρ 3 = ρ 3 := rfl
   simp +decide only [bK, Nat.reduceAdd]
   refine hK _ _ (zg fun σ hσ => ?_)
   have e4 := hσ 4
   simp +decide only [bE, BEq.rfl, Nat.reduceAdd] at e4
   clear hσ hK K
   refine zc fun K hK => zeu (i := 1) (j := 4) (hK _ _ (zcf ⟨.inr rfl, _, rfl, ?_⟩))
   rw [upd_same, e4]
   exact ⟨hb.oct, hr2, zdl hm1 hm2⟩
theorem zik (B : Base P N) (F : Fns P N) (hN : N.zbh ≠ 0) : OctOk P N.zbh znn := by
 intro w lo hi r s hr
 have h := F.PReader_CompactNullableBytes hN
 have hU := h.2.2
 have hS := h.2.1
 refine h.1.call rfl fun loc N' hlo => ?_
 unfold zdv
 refine zc fun K hK => zap (hK _ _ ?_)
 clear hK K
 refine zc fun K hK => zma B F hU (r := r) (by simp [ze, zar]) hr fun w1 hr1 hm1 => hK _ _ ?_
 clear hK K
 refine zc fun K hK => zc fun K1 hK1 => W_lss (d := 3) (j := 2) (n := ((uvN s).1 - 1 : Int)) (upd_same _ _ _) (hK1 _ _ (W_if hlo (upd_same _ _ _) ?_))
 clear hK1 K1
 by_cases hneg : ((uvN s).1 - 1 : Int) < 0
 ·rw [decide_eq_true hneg, if_pos rfl]
  refine zc fun K2 hK2 => zap (hK2 _ _ (zcf ⟨.inr rfl, _, rfl, ?_⟩))
  have e : znn s = (none, (uvN s).2) := by unfold znn; rw [if_pos hneg]
  rw [upd_same, e]
  exact ⟨rfl, hr1, hm1⟩
 ·rw [decide_eq_false hneg, if_neg (by simp)]
  refine zca (hK _ _ ?_)
  clear hK K
  have e : znn s = (zmm ((uvN s).1 - 1 : Int) (uvN s).2, zht ((uvN s).1 - 1 : Int) (uvN s).2) := by unfold znn; rw [if_neg hneg]
  rw [e]
  refine zc fun K hK => zlz B F hS (r := r) (n := ((uvN s).1 - 1 : Int)) (by simp [ze, zar]) (by simp [ze]) hr1 fun ρ w2 v hρ h3 hb hr2 hm2 => ?_
  ·subst h3
   have h3 : ρ 2 = ρ 2 := rfl
   simp +decide only [bK, Nat.reduceAdd]
   refine hK _ _ (zg fun σ hσ => ?_)
   have e4 := hσ 4
   simp +decide only [bE, BEq.rfl, Nat.reduceAdd] at e4
   clear hσ hK K
   refine zc fun K hK => zeu (i := 1) (j := 4) (hK _ _ (zcf ⟨.inr rfl, _, rfl, ?_⟩))
   rw [upd_same, e4]
   exact ⟨hb.oct, hr2, zdl hm1 hm2⟩
theorem znf (B : Base P N) (F : Fns P N) (hN : N.zby ≠ 0) : LenOk P N.zby arrR := by
 intro w lo hi r s hr
 have h := F.PReader_ArrayLen hN
 refine h.1.call rfl fun loc N' hlo => ?_
 unfold zhn
 refine zc fun K hK => zap (hK _ _ ?_)
 clear hK K
 refine zc fun K hK => zpy B F h.2 (r := r) (by simp [ze, zar]) hr fun w1 hr1 hm1 => hK _ _ ?_
 clear hK K
 obtain ⟨σ, hσ⟩ : ∃ σ, σ = upd (upd (zcv #[.pointer (some ⟨r, 0, none⟩)]) 1 (.int .i32 0)) 2 (.int .i32 ((i32N s).1)) := ⟨_, rfl⟩
 have f0 : σ 0 = .pointer (some ⟨r, 0, none⟩) := by rw [hσ]; simp [ze, zar]
 have f2 : σ 2 = .int .i32 ((i32N s).1) := by rw [hσ]; exact upd_same _ _ _
 have hgen : ∀ {c : C} {Q : Exit → Env → World → Prop}, W P loc N' c Q σ w1 → W P loc N' c Q (upd (upd (zcv #[.pointer (some ⟨r, 0, none⟩)]) 1 (.int .i32 0)) 2 (.int .i32 ((i32N s).1))) w1 := fun h => hσ ▸ h
 refine hgen ?_
 clear hgen hσ
 obtain ⟨v, hv, hb⟩ := hr1.cell0
 have hlen := hb.len B (w' := w1) (ty := N.zt)
 have hbd := zgw s
 have hw : IntKind.i64.wrap ((i32N s).1) = (i32N s).1 := zcw (by omega) (by omega)
 refine zc fun K hK => zc fun K1 hK1 => zad fun τ => ?_
 simp +decide (disch := omega) only [bK, bE, Nat.reduceBeqDiff, BEq.rfl, Nat.reduceAdd, Nat.zero_add, f0]
 rw [zaa rfl]
 simp +decide (disch := omega) only [bK, bE, Nat.reduceBeqDiff, BEq.rfl, Nat.add_zero, B.reader0.run, B.Lu8.run_load1 rfl, hv, hlen, f2, zck B.int32 B.int ⟨_, rfl⟩, hw, zf, zac, locs_envOf]
 refine hK1 _ _ (W_if hlo (upd_same _ _ _) ?_)
 clear hK1 K1
 have g0 : ∀ b, upd σ 3 (.bool b) 0 = .pointer (some ⟨r, 0, none⟩) := fun b => by rw [ze (by decide)]; exact f0
 by_cases hlt : ((i32N s).2.l.length : Int) < (i32N s).1
 ·rw [decide_eq_true hlt, if_pos rfl]
  refine zc fun K2 hK2 => W_bad (i := 0) B (g0 _) hr1.there (hK2 _ _ ?_)
  refine zc fun K3 hK3 => zoa (i := 0) B (g0 _) (zfm hr1.there) (hK3 _ _ ?_)
  refine zc fun K4 hK4 => zap (hK4 _ _ (zcf ⟨.inr rfl, _, rfl, ?_⟩))
  have e : arrR s = (0, ⟨[], true, true⟩) := by unfold arrR; rw [if_pos hlt]
  rw [upd_same, e]
  exact ⟨rfl, hr1.bad.1, zdl hm1 hr1.bad.2⟩
 ·rw [decide_eq_false hlt, if_neg (by simp)]
  refine zca (hK _ _ ?_)
  refine zc fun K2 hK2 => zeu (i := 1) (j := 2) (hK2 _ _ (zcf ⟨.inr rfl, _, rfl, ?_⟩))
  have e : arrR s = ((i32N s).1, (i32N s).2) := by unfold arrR; rw [if_neg hlt]
  rw [upd_same, ze (by decide), f2, e]
  exact ⟨rfl, hr1, hm1⟩
theorem zlf (B : Base P N) (F : Fns P N) (hN : N.zai ≠ 0) : LenOk P N.zai znp := by
 intro w lo hi r s hr
 have h := F.PReader_CompactArrayLen hN
 refine h.1.call rfl fun loc N' hlo => ?_
 unfold zey
 refine zc fun K hK => zap (hK _ _ ?_)
 clear hK K
 refine zc fun K hK => zad fun τ => ?_
 simp +decide only [bK, bE, BEq.rfl, Nat.reduceAdd, Nat.zero_add, ze]
 rw [zak (F.PReader_Uvarint h.2).1.has]
 simp +decide only [bK, bE, BEq.rfl]
 refine (zeq B F h.2 w lo hi r s hr).mono ?_
 rintro v w1 ⟨rfl, hr1, hm1⟩
 simp +decide only [bK, Nat.reduceLT, zck B.uint32 B.int32 ⟨_, rfl⟩, zf, zac, locs_envOf]
 refine hK _ _ ?_
 clear hK K
 obtain ⟨σ, hσ⟩ : ∃ σ, σ = upd (upd (zcv #[.pointer (some ⟨r, 0, none⟩)]) 1 (.int .i32 0)) 2 (.int .i32 (zmo s)) := ⟨_, rfl⟩
 have f0 : σ 0 = .pointer (some ⟨r, 0, none⟩) := by rw [hσ]; simp [ze, zar]
 have f2 : σ 2 = .int .i32 (zmo s) := by rw [hσ]; exact upd_same _ _ _
 have hgen : ∀ {c : C} {Q : Exit → Env → World → Prop}, W P loc N' c Q σ w1 → W P loc N' c Q (upd (upd (zcv #[.pointer (some ⟨r, 0, none⟩)]) 1 (.int .i32 0)) 2 (.int .i32 (zmo s))) w1 := fun h => hσ ▸ h
 refine hgen ?_
 clear hgen hσ
 obtain ⟨v, hv, hb⟩ := hr1.cell0
 have hlen := hb.len B (w' := w1) (ty := N.zt)
 have hbd := zot s
 have hw : IntKind.i64.wrap (zmo s) = zmo s := zcw (by omega) (by omega)
 refine zc fun K hK => zc fun K1 hK1 => zad fun τ => ?_
 simp +decide (disch := omega) only [bK, bE, Nat.reduceBeqDiff, BEq.rfl, Nat.reduceAdd, Nat.zero_add, f0]
 rw [zaa rfl]
 simp +decide (disch := omega) only [bK, bE, Nat.reduceBeqDiff, BEq.rfl, Nat.add_zero, B.reader0.run, B.Lu8.run_load1 rfl, hv, hlen, f2, zck B.int32 B.int ⟨_, rfl⟩, hw, zf, zac, locs_envOf]
 refine hK1 _ _ (W_if hlo (upd_same _ _ _) ?_)
 clear hK1 K1
 have g0 : ∀ b, upd σ 3 (.bool b) 0 = .pointer (some ⟨r, 0, none⟩) := fun b => by rw [ze (by decide)]; exact f0
 by_cases hlt : ((uvN s).2.l.length : Int) < zmo s
 ·rw [decide_eq_true hlt, if_pos rfl]
  refine zc fun K2 hK2 => W_bad (i := 0) B (g0 _) hr1.there (hK2 _ _ ?_)
  refine zc fun K3 hK3 => zoa (i := 0) B (g0 _) (zfm hr1.there) (hK3 _ _ ?_)
  refine zc fun K4 hK4 => zap (hK4 _ _ (zcf ⟨.inr rfl, _, rfl, ?_⟩))
  have e : znp s = (0, ⟨[], true, true⟩) := by unfold znp; rw [if_pos hlt]
  rw [upd_same, e]
  exact ⟨rfl, hr1.bad.1, zdl hm1 hr1.bad.2⟩
 ·rw [decide_eq_false hlt, if_neg (by simp)]
  refine zca (hK _ _ ?_)
  refine zc fun K2 hK2 => zeu (i := 1) (j := 2) (hK2 _ _ (zcf ⟨.inr rfl, _, rfl, ?_⟩))
  have e : znp s = (zmo s, (uvN s).2) := by unfold znp; rw [if_neg hlt]
  rw [upd_same, ze (by decide), f2, e]
  exact ⟨rfl, hr1, hm1⟩
end
inductive Val where
 | num (v : Value)
 | nstr (o : Option (List UInt8))
 | oct (o : Option (List UInt8))
 | nilA
 | arr (sz : Nat) (l : List Val)
 | row (l : List Val)
 | nilP
 | ptr (l : List Val)
 | tags (l : List (Nat × List UInt8))
 deriving Inhabited
def OctG (w : World) (G : Nat → Prop) (v : Value) : Option (List UInt8) → Prop
 | none => v = .slice none 0 0
 | some l => ∃ b o c, v = .slice (some ⟨b, o, none⟩) l.length c ∧ l.length ≤ c ∧ (l ≠ [] → G b) ∧ w.rangeAt b o (l.map zbo)
def zbp (w : World) (G : Nat → Prop) : List (Nat × List UInt8) → List MapEntry → Prop
 | [], es => es = []
 | (k, l) :: r, es => ∃ v b rest, es = ⟨.int .u32 k, v, b⟩ :: rest ∧ ((l = [] ∧ ∃ ad c, v = .slice ad 0 c) ∨ OctG w G v (some l)) ∧ zbp w G r rest
def zmr (w : World) (G : Nat → Prop) (v : Value) (l : List (Nat × List UInt8)) : Prop :=
 (v = .map none ∧ l = []) ∨ ∃ m es ck, v = .map (some m) ∧ G m ∧ w.heap[m]? = some (.map es ck) ∧ (∀ e ∈ es.toList, e.born < ck) ∧ (es.toList.map MapEntry.born).Nodup ∧ zbp w G l es.toList ∧ (l.map Prod.fst).Nodup ∧ ∀ x ∈ l, x.1 < 4294967296
mutual
def Rep (w : World) (G : Nat → Prop) : Val → List Value → Prop
 | .num v, cs => cs = v.cells.toList
 | .nstr none, cs => cs = [.pointer none]
 | .nstr (some l), cs => ∃ b, cs = [.pointer (some ⟨b, 0, none⟩)] ∧ G b ∧ w.rangeAt b 0 [strV l]
 | .oct o, cs => ∃ v, cs = [v] ∧ OctG w G v o
 | .nilA, cs => cs = [.slice none 0 0]
 | .arr sz l, cs => ∃ b c css, cs = [.slice (some ⟨b, 0, none⟩) l.length c] ∧ l.length ≤ c ∧ (l ≠ [] → G b) ∧ (∀ x ∈ css, x.length = sz) ∧ RepL w G l css ∧ w.rangeAt b 0 css.flatten
 | .row l, cs => ∃ css, cs = css.flatten ∧ RepL w G l css
 | .nilP, cs => cs = [.pointer none]
 | .ptr l, cs => ∃ b css, cs = [.pointer (some ⟨b, 0, none⟩)] ∧ G b ∧ RepL w G l css ∧ w.rangeAt b 0 css.flatten
 | .tags l, cs => ∃ v, cs = [v] ∧ zmr w G v l
def RepL (w : World) (G : Nat → Prop) : List Val → List (List Value) → Prop
 | [], css => css = []
 | v :: l, css => ∃ c r, css = c :: r ∧ Rep w G v c ∧ RepL w G l r
end
theorem OctG.mod {w w' : World} {M : Nat → Nat → Prop} {G G' : Nat → Prop} (h : Mod w w' M) (hG : ∀ k, G k → k < w.heap.size ∧ (∀ o, ¬ M k o) ∧ G' k) {v : Value} {o : Option (List UInt8)} (hb : OctG w G v o) : OctG w' G' v o := by
 cases o with
 | none => exact hb
 | some l =>
  obtain ⟨b, o, c, h1, h2, h3, h4⟩ := hb
  refine ⟨b, o, c, h1, h2, fun hne => (hG b (h3 hne)).2.2, ?_⟩
  cases l with
  | nil => intro j v hj; simp at hj
  | cons x l =>
   obtain ⟨g1, g2, _⟩ := hG b (h3 (by simp))
   exact h.rangeAt g1 (fun i _ _ => g2 i) h4
theorem zbp.mod {w w' : World} {M : Nat → Nat → Prop} {G G' : Nat → Prop} (h : Mod w w' M) (hG : ∀ k, G k → k < w.heap.size ∧ (∀ o, ¬ M k o) ∧ G' k) : ∀ {l : List (Nat × List UInt8)} {es : List MapEntry}, zbp w G l es → zbp w' G' l es
 | [], _, he => he
 | (k, l) :: r, es, ⟨v, b, rest, h1, h2, h3⟩ => ⟨v, b, rest, h1, h2.imp (fun x => ⟨x.1, x.2⟩) (fun x => x.mod h hG), zbp.mod h hG h3⟩
theorem zmr.mod {w w' : World} {M : Nat → Nat → Prop} {G G' : Nat → Prop} (h : Mod w w' M) (hG : ∀ k, G k → k < w.heap.size ∧ (∀ o, ¬ M k o) ∧ G' k) {v : Value} {l : List (Nat × List UInt8)} (ht : zmr w G v l) : zmr w' G' v l := by
 rcases ht with ht | ⟨m, es, ck, h1, h2, h3, h4, h5, h6, h7⟩
 ·exact .inl ht
 ·obtain ⟨g1, g2, g3⟩ := hG m h2
  exact .inr ⟨m, es, ck, h1, g3, by rw [h.block m g1 g2]; exact h3, h4, h5, h6.mod h hG, h7⟩
mutual
theorem Rep.mod {w w' : World} {M : Nat → Nat → Prop} {G G' : Nat → Prop} (h : Mod w w' M) (hG : ∀ k, G k → k < w.heap.size ∧ (∀ o, ¬ M k o) ∧ G' k) : ∀ (v : Val) {cs : List Value}, Rep w G v cs → Rep w' G' v cs
 | .num v, _, hr => hr
 | .nstr none, _, hr => hr
 | .nstr (some l), _, ⟨b, h1, h2, h3⟩ => ⟨b, h1, (hG b h2).2.2, h.rangeAt (hG b h2).1 (fun i _ _ => (hG b h2).2.1 i) h3⟩
 | .oct o, _, ⟨v, h1, h2⟩ => ⟨v, h1, h2.mod h hG⟩
 | .nilA, _, hr => hr
 | .arr sz l, _, ⟨b, c, css, h1, h2, h3, h4, h5, h6⟩ => ⟨b, c, css, h1, h2, fun hne => (hG b (h3 hne)).2.2, h4, RepL.mod h hG l h5, by
   cases l with
   | nil =>
    simp only [RepL] at h5
    subst h5
    intro j v hj; simp at hj
   | cons x l =>
    obtain ⟨g1, g2, _⟩ := hG b (h3 (by simp))
    exact h.rangeAt g1 (fun i _ _ => g2 i) h6⟩
 | .row l, _, ⟨css, h1, h2⟩ => ⟨css, h1, RepL.mod h hG l h2⟩
 | .nilP, _, hr => hr
 | .ptr l, _, ⟨b, css, h1, h2, h3, h4⟩ => ⟨b, css, h1, (hG b h2).2.2, RepL.mod h hG l h3, h.rangeAt (hG b h2).1 (fun i _ _ => (hG b h2).2.1 i) h4⟩
 | .tags l, _, ⟨v, h1, h2⟩ => ⟨v, h1, h2.mod h hG⟩
theorem RepL.mod {w w' : World} {M : Nat → Nat → Prop} {G G' : Nat → Prop} (h : Mod w w' M) (hG : ∀ k, G k → k < w.heap.size ∧ (∀ o, ¬ M k o) ∧ G' k) : ∀ (l : List Val) {css : List (List Value)}, RepL w G l css → RepL w' G' l css
 | [], _, hr => hr
 | v :: l, _, ⟨c, r, h1, h2, h3⟩ => ⟨c, r, h1, Rep.mod h hG v h2, RepL.mod h hG l h3⟩
end
theorem OctG.mono {w : World} {G G' : Nat → Prop} (hG : ∀ k, G k → G' k) {v : Value} {o : Option (List UInt8)} (hb : OctG w G v o) : OctG w G' v o := by
 cases o with
 | none => exact hb
 | some l =>
  obtain ⟨b, o, c, h1, h2, h3, h4⟩ := hb
  exact ⟨b, o, c, h1, h2, fun hne => hG b (h3 hne), h4⟩
theorem zbp.mono {w : World} {G G' : Nat → Prop} (hG : ∀ k, G k → G' k) : ∀ {l : List (Nat × List UInt8)} {es : List MapEntry}, zbp w G l es → zbp w G' l es
 | [], _, he => he
 | (k, l) :: r, es, ⟨v, b, rest, h1, h2, h3⟩ => ⟨v, b, rest, h1, h2.imp (fun x => ⟨x.1, x.2⟩) (fun x => x.mono hG), zbp.mono hG h3⟩
theorem zmr.mono {w : World} {G G' : Nat → Prop} (hG : ∀ k, G k → G' k) {v : Value} {l : List (Nat × List UInt8)} (ht : zmr w G v l) : zmr w G' v l := by
 rcases ht with ht | ⟨m, es, ck, h1, h2, h3, h4, h5, h6, h7⟩
 ·exact .inl ht
 ·exact .inr ⟨m, es, ck, h1, hG m h2, h3, h4, h5, h6.mono hG, h7⟩
mutual
theorem Rep.mono {w : World} {G G' : Nat → Prop} (hG : ∀ k, G k → G' k) : ∀ (v : Val) {cs : List Value}, Rep w G v cs → Rep w G' v cs
 | .num v, _, hr => hr
 | .nstr none, _, hr => hr
 | .nstr (some l), _, ⟨b, h1, h2, h3⟩ => ⟨b, h1, hG b h2, h3⟩
 | .oct o, _, ⟨v, h1, h2⟩ => ⟨v, h1, h2.mono hG⟩
 | .nilA, _, hr => hr
 | .arr sz l, _, ⟨b, c, css, h1, h2, h3, h4, h5, h6⟩ => ⟨b, c, css, h1, h2, fun hne => hG b (h3 hne), h4, RepL.mono hG l h5, h6⟩
 | .row l, _, ⟨css, h1, h2⟩ => ⟨css, h1, RepL.mono hG l h2⟩
 | .nilP, _, hr => hr
 | .ptr l, _, ⟨b, css, h1, h2, h3, h4⟩ => ⟨b, css, h1, hG b h2, RepL.mono hG l h3, h4⟩
 | .tags l, _, ⟨v, h1, h2⟩ => ⟨v, h1, h2.mono hG⟩
theorem RepL.mono {w : World} {G G' : Nat → Prop} (hG : ∀ k, G k → G' k) : ∀ (l : List Val) {css : List (List Value)}, RepL w G l css → RepL w G' l css
 | [], _, hr => hr
 | v :: l, _, ⟨c, r, h1, h2, h3⟩ => ⟨c, r, h1, Rep.mono hG v h2, RepL.mono hG l h3⟩
end
theorem RepL.length {w : World} {G : Nat → Prop} : ∀ {l : List Val} {css : List (List Value)}, RepL w G l css → css.length = l.length
 | [], _, h => by simp only [RepL] at h; subst h; rfl
 | v :: l, _, ⟨c, r, h1, h2, h3⟩ => by subst h1; simp [RepL.length h3]
theorem RepL.append {w : World} {G : Nat → Prop} : ∀ {l : List Val} {css : List (List Value)} {l' : List Val} {css' : List (List Value)}, RepL w G l css → RepL w G l' css' → RepL w G (l ++ l') (css ++ css')
 | [], _, _, _, h, h' => by simp only [RepL] at h; subst h; exact h'
 | v :: l, _, _, _, ⟨c, r, h1, h2, h3⟩, h' => by subst h1; exact ⟨c, r ++ _, rfl, h2, RepL.append h3 h'⟩
theorem OctAt.octG {w : World} {lo hi : Nat} {v : Value} {o : Option (List UInt8)} (h : OctAt w lo hi v o) : OctG w (fun k => lo ≤ k ∧ k < hi) v o := by
 cases o with
 | none => exact h
 | some l =>
  rcases h with ⟨h, _⟩ | ⟨b, o, c, _, h1, h2, h3, h4⟩
  ·cases h
  ·exact ⟨b, o, c, h1, h2, h3, h4⟩
inductive PK where
 | bool | i8 | i16 | u16 | i32 | i64 | uuid
 | en (t : TypeId)
 deriving DecidableEq
def PK.isEn : PK → Bool
 | .en _ => true
 | _ => false
def PK.is8 : PK → Bool
 | .i8 => true
 | .en _ => true
 | _ => false
def PK.nt (N : Nums) (k : PK) : Prop := (k = .uuid → N.zba ≠ 0) ∧ (k.is8 = true → N.ziq ≠ 0)
def PK.isSg : PK → Bool
 | .en _ => false
 | .uuid => false
 | _ => true
inductive Txt where
 | str | nstr | byt | nbyt
 deriving DecidableEq
inductive Gd where
 | all | ge (n : Int) | btw (n m : Int) | never
def Gd.on (ver : Int) : Gd → Bool
 | .all => true
 | .ge n => decide (ver ≥ n)
 | .btw n m => decide (ver ≥ n) && decide (ver ≤ m)
 | .never => false
def Gd.nev : Gd → Bool
 | .never => true
 | _ => false
def PK.f (N : Nums) : PK → FuncId
 | .bool => N.zex | .i8 => N.zdf | .i16 => N.zat | .u16 => N.zea | .i32 => N.zbd | .i64 => N.zen | .uuid => N.zdo | .en _ => N.zdf
def PK.t (N : Nums) : PK → TypeId
 | .bool => N.zbg | .i8 => N.ziq | .i16 => N.zbs | .u16 => N.zfk | .i32 => N.zbz | .i64 => N.zef | .uuid => N.zba | .en t => t
def PK.zero : PK → Value
 | .bool => .bool false | .i8 => .int .i8 0 | .i16 => .int .i16 0 | .u16 => .int .u16 0 | .i32 => .int .i32 0 | .i64 => .int .i64 0 | .uuid => .agg (Array.replicate 16 (.int .u8 0)) | .en _ => .int .i8 0
def PK.sz : PK → Nat
 | .uuid => 16 | _ => 1
def uuidV (l : List UInt8) : Value := .agg ((l ++ List.replicate (16 - l.length) 0).take 16 |>.map zbo).toArray
def PK.rd : PK → RS → Value × RS
 | .bool => zeh 1 (fun l => .bool (be l != 0)) (.bool false)
 | .i8 => zeh 1 (fun l => .int .i8 (IntKind.i8.wrap (be l))) (.int .i8 0)
 | .i16 => zeh 2 (fun l => .int .i16 (IntKind.i16.wrap (be l))) (.int .i16 0)
 | .u16 => zeh 2 (fun l => .int .u16 (be l)) (.int .u16 0)
 | .i32 => zeh 4 (fun l => .int .i32 (IntKind.i32.wrap (be l))) (.int .i32 0)
 | .i64 => zeh 8 (fun l => .int .i64 (IntKind.i64.wrap (be l))) (.int .i64 0)
 | .uuid => fun s => (uuidV (zdq 16 s), zht 16 s)
 | .en _ => zeh 1 (fun l => .int .i8 (IntKind.i8.wrap (be l))) (.int .i8 0)
def PK.vn : PK → Nat
 | .en _ => 3
 | _ => 1
def Txt.t (N : Nums) : Txt → TypeId
 | .str => N.zaj | .nstr => N.zbj | _ => N.zb
def Txt.zero : Txt → Value
 | .str => .string ⟨#[]⟩ | .nstr => .pointer none | _ => .slice none 0 0
def Txt.iniV : Txt → Val
 | .str => .num (strV []) | .nstr => .nstr none | _ => .oct none
def Txt.rd (fl : Bool) : Txt → RS → Val × RS
 | .str, s => let x := if fl then zic s else strR s; (.num (strV x.1), x.2)
 | .nstr, s => let x := if fl then zit s else zmn s; (.nstr x.1, x.2)
 | .byt, s => let x := if fl then zsy s else bytR s; (.oct x.1, x.2)
 | .nbyt, s => let x := if fl then znn s else zss s; (.oct x.1, x.2)
mutual
inductive Ty where
 | pr (k : PK) (d : Option Value)
 | txt (k : Txt)
 | arr (st : TypeId) (nul : Option Int) (e : El)
 | row (T pT : TypeId) (dflt : FuncId) (fs : Fds)
 | tv (k : Int)
inductive El where
 | pr (k : PK)
 | txt (k : Txt)
 | row (T pT : TypeId) (dflt : FuncId) (fs : Fds)
inductive Fds where
 | nil
 | tags (kt : Option Nat)
 | cons (g : Gd) (ty : Ty) (rest : Fds)
end
mutual
def Ty.sz : Ty → Nat
 | .pr k _ => k.sz
 | .txt _ => 1
 | .arr .. => 1
 | .row _ _ _ fs => fs.sz
 | .tv _ => 1
def Fds.sz : Fds → Nat
 | .nil => 0
 | .tags _ => 1
 | .cons _ ty r => ty.sz + r.sz
end
def El.sz : El → Nat
 | .pr k => k.sz
 | .txt _ => 1
 | .row _ _ _ fs => fs.sz
def Fds.szs : Fds → List Nat
 | .nil => []
 | .tags _ => [1]
 | .cons _ ty r => ty.sz :: r.szs
theorem Fds.szs_sum : ∀ fs : Fds, fs.szs.sum = fs.sz
 | .nil => rfl
 | .tags _ => rfl
 | .cons _ ty r => by simp only [Fds.szs, Fds.sz, List.sum_cons, Fds.szs_sum r]
mutual
def Ty.zero : Ty → List Value
 | .pr k _ => k.zero.cells.toList
 | .txt k => [k.zero]
 | .arr .. => [.slice none 0 0]
 | .row _ _ _ fs => fs.zero
 | .tv _ => [.pointer none]
def Fds.zero : Fds → List Value
 | .nil => []
 | .tags _ => [.map none]
 | .cons _ ty r => ty.zero ++ r.zero
end
mutual
def Ty.ini : Ty → List Value
 | .pr k d => (d.getD k.zero).cells.toList
 | .txt k => [k.zero]
 | .arr .. => [.slice none 0 0]
 | .row _ _ _ fs => fs.ini
 | .tv _ => [.pointer none]
def Fds.ini : Fds → List Value
 | .nil => []
 | .tags _ => [.map none]
 | .cons _ ty r => ty.ini ++ r.ini
end
mutual
def Ty.iniV : Ty → Val
 | .pr k d => .num (d.getD k.zero)
 | .txt k => k.iniV
 | .arr .. => .nilA
 | .row _ _ _ fs => .row fs.iniV
 | .tv _ => .nstr none
def Fds.iniV : Fds → List Val
 | .nil => []
 | .tags _ => [.tags []]
 | .cons _ ty r => ty.iniV :: r.iniV
end
def rdN {α : Type} (f : RS → Option (α × RS)) : Nat → RS → Option (List α × RS)
 | 0, s => some ([], s)
 | n + 1, s => match f s with
  | none => none
  | some (v, s) => match rdN f n s with
   | none => none
   | some (l, s) => some (v :: l, s)
def tput (l : List (Nat × List UInt8)) (k : Nat) (v : List UInt8) : List (Nat × List UInt8) :=
 if (l.map Prod.fst).contains k then l.map fun x => if x.1 = k then (k, v) else x else l ++ [(k, v)]
def zsd : Nat → List (Nat × List UInt8) → RS → List (Nat × List UInt8) × RS
 | 0, l, s => (l, s)
 | n + 1, l, s =>
  let k := uvN s
  let z := uvN k.2
  zsd n (tput l k.1 (zdq z.1 z.2)) (zht z.1 z.2)
def inS (s : RS) : RS := ⟨zdq (uvN s).1 (uvN s).2, false, zpg (uvN s).1 (uvN s).2⟩
def outS (s : RS) : RS := zht (uvN s).1 (uvN s).2
def kN {X : Type} (keyR : X → RS → Option (X × RS)) (dfl : Nat → X → RS → X × RS) : Nat → X → RS → Option (X × RS)
 | 0, x, s => some (x, s)
 | c + 1, x, s => if (uvN s).1 = 0 then (match keyR x (uvN s).2 with
   | none => none
   | some y => kN keyR dfl c y.1 y.2) else kN keyR dfl c (dfl (uvN s).1 x (uvN s).2).1 (dfl (uvN s).1 x (uvN s).2).2
def kDfl (c : Nat) (x : List Val × List (Nat × List UInt8)) (s : RS) : (List Val × List (Nat × List UInt8)) × RS := ((x.1, tput x.2 c (inS s).l), outS s)
def kRj (f : Val → RS → Option (Val × RS)) (j : Nat) (x : List Val × List (Nat × List UInt8)) (s : RS) : Option ((List Val × List (Nat × List UInt8)) × RS) :=
 match f (x.1.getD j .nilP) (inS s) with
 | none => none
 | some (v, s') => if s'.bad then none else some ((x.1.set j v, x.2), outS s)
def ktR (fl : Bool) (f : Val → RS → Option (Val × RS)) (j : Nat) (l : List Val) (s : RS) : Option (List Val × RS) :=
 if fl then match kN (kRj f j) kDfl (uvN s).1 (l.dropLast, []) (uvN s).2 with
  | none => none
  | some y => some (y.1.1 ++ [.tags y.1.2], y.2)
 else some (l.dropLast ++ [.tags []], s)
def zqj (s : RS) : List (Nat × List UInt8) × RS := zsd (uvN s).1 [] (uvN s).2
def Fds.kt : Fds → Option Nat
 | .nil => none
 | .tags k => k
 | .cons _ _ r => r.kt
def Fds.len : Fds → Nat
 | .cons _ _ r => r.len + 1
 | _ => 0
section
variable (ver : Int) (fl : Bool)
mutual
def Ty.rd : Ty → RS → Option (Val × RS)
 | .pr k _, s => some (.num (k.rd s).1, (k.rd s).2)
 | .txt k, s => some (k.rd fl s)
 | .arr _ nul e, s =>
  let x := if fl then znp s else arrR s
  if x.2.bad then none
  else if 0 < x.1 then
   match rdN e.rd x.1.toNat x.2 with
   | none => none
   | some (l, s) => some (.arr e.sz l, s)
  else some (match nul with
   | none => .nilA
   | some n => if ver < n ∨ x.1 = 0 then .arr e.sz [] else .nilA, x.2)
 | .row _ _ _ fs, s => match fs.rd s with
  | none => none
  | some (l, s) => some (.row l, s)
 | .tv k, s => some (if ver < k then let x := if fl then zic s else strR s; (.nstr (some x.1), x.2) else Txt.rd fl .nstr s)
def El.rd : El → RS → Option (Val × RS)
 | .pr k, s => some (.num (k.rd s).1, (k.rd s).2)
 | .txt k, s => some (k.rd fl s)
 | .row _ _ _ fs, s => match (match fs.rd s with
   | none => none
   | some (l, s) => (match fs.kt with | none => some (l, s) | some j => ktR fl (fs.rdK j) j l s)) with
  | none => none
  | some (l, s) => some (.row l, s)
def Fds.rd : Fds → RS → Option (List Val × RS)
 | .nil, s => some ([], s)
 | .tags kt, s => match kt with
  | none => if fl then some ([.tags (zqj s).1], (zqj s).2) else some ([.tags []], s)
  | some _ => some ([.num (.map none)], s)
 | .cons g ty r, s => match (if g.on ver then ty.rd s else some (ty.iniV, s)) with
  | none => none
  | some (v, s) => match r.rd s with
   | none => none
   | some (l, s) => some (v :: l, s)
def Ty.rdK : Ty → Val → RS → Option (Val × RS)
 | .pr k _, _, s => some (.num (k.rd s).1, (k.rd s).2)
 | .txt k, _, s => some (k.rd fl s)
 | .arr _ _ e, v, s =>
  let x := if fl then znp s else arrR s
  if x.2.bad then none
  else if 0 < x.1 then
   match rdN e.rd x.1.toNat x.2 with
   | none => none
   | some (l, s) => some (.arr e.sz l, s)
  else some (match v with
   | .nilA => .nilA
   | _ => .arr e.sz [], x.2)
 | .row .., _, _ => none
 | .tv _, _, _ => none
def Fds.rdK : Fds → Nat → Val → RS → Option (Val × RS)
 | .nil, _, _, _ => none
 | .tags _, _, _, _ => none
 | .cons _ ty r, j, v, s => match j with
  | 0 => ty.rdK v s
  | j + 1 => r.rdK j v s
end
def Fds.rdR (fs : Fds) (s : RS) : Option (List Val × RS) :=
 match fs.rd ver fl s with
 | none => none
 | some (l, s) => (match fs.kt with | none => some (l, s) | some j => ktR fl (fs.rdK ver fl j) j l s)
end
def seqs : List C → C
 | [] => .skip
 | [x] => x
 | x :: l => .seq x (seqs l)
def zeo (n : Nat) (v : Value) : C := .ops [⟨some (n + 100), .assign (.const v), 0, none, []⟩]
def zmq (n m : Nat) : C := .ops [⟨some 0, .move (V m), 0, none, []⟩, ⟨some (n + 100), .assign (T 0), 0, none, []⟩]
def cIf (n i : Nat) (a b : C) : C := .seq (.ops [⟨some (n + 100), .move (V i), 0, none, []⟩]) (.cond n a b)
section
variable (N : Nums)
def zes (n : Nat) (f : FuncId) (t : TypeId) : C := .ops [⟨some 0, .call ⟨.value (.func f), #[V 4], #[N.zr]⟩, t, none, []⟩, ⟨some (n + 100), .assign (T 0), 0, none, []⟩]
def cBox (n : Nat) (f : FuncId) (t : TypeId) : C := .ops [⟨some 0, .call ⟨.value (.func f), #[V 4], #[N.zr]⟩, t, none, []⟩, ⟨some (n + 100), .alloc t, 0, none, []⟩, ⟨none, .store t (V n) (T 0), 0, none, []⟩]
def PK.get (k : PK) (n : Nat) : C := match k with
 | .uuid => cBox N n N.zdo N.zba
 | k => zes N n (k.f N) (k.t N)
def PK.src (k : PK) (n : Nat) : Op := match k with
 | .uuid => .load N.zba (V n)
 | _ => .move (V n)
def cEnum (n : Nat) (st : C) : C :=
 .seq (zeo n (.int .i8 0)) (.seq (.seq (zes N (n + 1) N.zdf N.ziq) (zmq n (n + 1))) (.seq (zmq (n + 2) n) st))
def PK.gen (k : PK) (n : Nat) (st : Op → C) : C := match k with
 | .en t => cEnum N n (st (.move (V (n + 2))))
 | k => .seq (k.get N n) (st (k.src N n))
def zfu (is : Nat) (Tt : TypeId) (idx : Nat) (t : TypeId) (src : Op) : C :=
 .ops [⟨some 0, .move (V is), 0, none, []⟩, ⟨some 1, src, 0, none, []⟩, ⟨some 2, .nilCheck (T 0), 0, none, []⟩, ⟨some 3, .fieldAddr Tt (T 2) idx, 0, none, []⟩, ⟨none, .store t (T 3) (T 1), 0, none, []⟩]
def zpu (ia ii : Nat) (st t : TypeId) (src : Op) : C :=
 .ops [⟨some 0, .move (V ia), 0, none, []⟩, ⟨some 1, .move (V ii), 0, none, []⟩, ⟨some 2, src, 0, none, []⟩, ⟨some 3, .indexAddr st (T 0) (T 1), 0, none, []⟩, ⟨none, .store t (T 3) (T 2), 0, none, []⟩]
def cTxt (fx : Bool) (k : Txt) (n m : Nat) : C :=
 match k, fx with
 | .str, true => cIf m 2 (cIf (m + 1) 6 (zes N n N.zaz N.zaj) (zes N n N.zbf N.zaj)) (cIf (m + 2) 6 (zes N n N.zbv N.zaj) (zes N n N.zcl N.zaj))
 | .str, false => cIf m 2 (zes N n N.zbf N.zaj) (zes N n N.zcl N.zaj)
 | .nstr, true => cIf m 6 (cIf (m + 1) 2 (zes N n N.zam N.zbj) (zes N n N.zbb N.zbj)) (cIf (m + 2) 2 (zes N n N.zaw N.zbj) (zes N n N.zbr N.zbj))
 | .nstr, false => cIf m 2 (zes N n N.zaw N.zbj) (zes N n N.zbr N.zbj)
 | .byt, true => cIf m 6 (zes N n N.zch N.zb) (zes N n N.zdi N.zb)
 | .byt, false => zes N n N.zdi N.zb
 | .nbyt, true => cIf m 6 (zes N n N.zbh N.zb) (zes N n N.zbu N.zb)
 | .nbyt, false => zes N n N.zbu N.zb
def Txt.vn (fx : Bool) : Txt → Nat
 | .str => if fx then 3 else 1
 | .nstr => if fx then 3 else 1
 | _ => if fx then 1 else 0
def cGd (g : Gd) (n : Nat) (c : Nat → C) : C :=
 match g with
 | .all => c n
 | .ge m => .seq (.ops [⟨some 0, .move (V 5), 0, none, []⟩, ⟨some (n + 100), .binOp .geq N.zbs (T 0) (.const (.int .i16 m)) N.zbs, 0, none, []⟩]) (.cond n (c (n + 1)) .skip)
 | .never => .skip
 | .btw a b => .seq (.ops [⟨some 0, .move (V 5), 0, none, []⟩, ⟨some 1, .binOp .geq N.zbs (T 0) (.const (.int .i16 a)) N.zbs, 0, none, []⟩, ⟨some 2, .move (T 1), 0, none, []⟩, ⟨some 3, .move (V 5), 0, some (some 2, true), []⟩,
   ⟨some 4, .binOp .leq N.zbs (T 3) (.const (.int .i16 b)) N.zbs, 0, some (some 2, true), []⟩, ⟨some (n + 100), .pick (T 2) (T 4) (.const (.bool false)), 0, none, []⟩]) (.cond n (c (n + 1)) .skip)
def Gd.vn : Gd → Nat
 | .all => 0
 | _ => 1
def cLen (fx : Bool) (n : Nat) : C :=
 if fx then cIf (n + 3) 6 (zes N (n + 2) N.zai N.zbz) (zes N (n + 2) N.zby N.zbz) else zes N (n + 2) N.zby N.zbz
def cOk (m : Nat) : C :=
 .seq (.ops [⟨some 0, .call ⟨.value (.func N.zdt), #[V 4], #[N.zr]⟩, N.zbg, none, []⟩, ⟨some (m + 100), .unOp .not N.zbg (T 0), 0, none, []⟩])
  (.cond m (.seq (zes N 3 N.zw N.zeg) .ret) .skip)
def cNul (st : TypeId) (k : Int) (n m : Nat) : C :=
 .seq (.ops [⟨some 0, .move (V 5), 0, none, []⟩, ⟨some 1, .binOp .lss N.zbs (T 0) (.const (.int .i16 k)) N.zbs, 0, none, []⟩, ⟨some 2, .move (T 1), 0, none, []⟩, ⟨some 3, .move (V (n + 2)), 0, some (some 2, false), []⟩,
   ⟨some 4, .binOp .eql N.zbz (T 3) (.const (.int .i32 0)) N.zbz, 0, some (some 2, false), []⟩, ⟨some (m + 100), .pick (T 2) (.const (.bool true)) (T 4), 0, none, []⟩])
  (.cond m (.ops [⟨some 0, .buildSlice st 0 #[], 0, none, []⟩, ⟨some (n + 1 + 100), .assign (T 0), 0, none, []⟩]) .skip)
def cNulQ (st : TypeId) (nul : Option Int) (n m : Nat) (rest : C) : C := match nul with
 | none => rest
 | some k => .seq (cNul N st k n m) rest
def cCut (st : TypeId) (a : Nat) : C := .ops [⟨some 0, .move (V a), 0, none, []⟩, ⟨some 1, .slice st (T 0) none (some (.const (.int .i64 0))) none, 0, none, []⟩, ⟨some (a + 100), .assign (T 1), 0, none, []⟩]
def cGrow (st : TypeId) (a l m : Nat) : C :=
 .seq (.ops [⟨some 0, .move (V l), 0, none, []⟩, ⟨some (m + 100), .binOp .gtr N.zbz (T 0) (.const (.int .i32 0)) N.zbz, 0, none, []⟩])
  (.cond m (.ops [⟨some 0, .move (V a), 0, none, []⟩, ⟨some 1, .move (V l), 0, none, []⟩, ⟨some 2, .call ⟨.builtin .append, #[T 0, T 1], #[st, N.zbz]⟩, st, none, []⟩, ⟨some (a + 100), .assign (T 2), 0, none, []⟩]) .skip)
def cLoop (i l c k : Nat) (body : C) : C :=
 .seq (zeo i (.int .i32 0)) (.block k (.loop (.seq
  (.seq (.ops [⟨some 0, .move (V i), 0, none, []⟩, ⟨some 1, .move (V l), 0, none, []⟩, ⟨some (c + 100), .binOp .lss N.zbz (T 0) (T 1) N.zbz, 0, none, []⟩]) (.cond c .skip (.exit k)))
  (.seq (.block (k + 1) body)
   (.ops [⟨some 0, .move (V i), 0, none, []⟩, ⟨some 1, .binOp .add N.zbz (T 0) (.const (.int .i32 1)) N.zbz, 0, none, []⟩, ⟨some (i + 100), .assign (T 1), 0, none, []⟩])))))
def cTags (is : Nat) (Tt : TypeId) (idx n : Nat) : C :=
 .seq (.ops [⟨some (n + 100), .move (V 6), 0, none, []⟩])
  (.cond n (.ops [⟨some 0, .move (V is), 0, none, []⟩, ⟨some 1, .call ⟨.value (.func N.zco), #[V 4], #[N.zaq]⟩, N.zcc, none, []⟩, ⟨some 2, .nilCheck (T 0), 0, none, []⟩,
   ⟨some 3, .fieldAddr Tt (T 2) idx, 0, none, []⟩, ⟨none, .store N.zcc (T 3) (T 1), 0, none, []⟩]) .skip)
def opsR (q : Nat) : List ROp := [⟨some 0, .call ⟨.value (.func N.zn), #[V 4], #[N.zr]⟩, N.zm, none, []⟩, ⟨some 1, .convert N.zm N.zt (T 0), 0, none, []⟩, ⟨some 2, .call ⟨.value (.func N.zo), #[V 4, T 1], #[N.zr, N.zt]⟩, N.zb, none, []⟩,
 ⟨some 3, .build N.zr #[(0, T 2)], 0, none, []⟩, ⟨some (q + 100), .alloc N.zr, 0, none, []⟩, ⟨none, .store N.zr (V q) (T 3), 0, none, []⟩]
def cEndK (q m : Nat) : C := .seq ((zes N m N.zw N.zeg).sw 4 q)
 (.seq (.ops [⟨some 0, .move (V m), 0, none, []⟩, ⟨some (m + 1 + 100), .binOp .neq N.zeg (T 0) (.const .nilIface) N.zeg, 0, none, []⟩]) (.cond (m + 1) (.seq (zmq 3 m) .ret) .skip))
def cKeyPr (k : PK) (is : Nat) (Tt : TypeId) (idx q : Nat) : C := .seq (.ops (opsR N q)) (.seq ((k.get N (q + 1)).sw 4 q) (.seq (zfu is Tt idx (k.t N) (k.src N (q + 1))) (cEndK N q (q + 2))))
def zpv (fx : Bool) (k : Txt) (is : Nat) (Tt : TypeId) (idx q : Nat) : C := .seq (.ops (opsR N q)) (.seq (zeo (q + 1) k.zero) (.seq ((cTxt N fx k (q + 1) (q + 2)).sw 4 q) (.seq (zfu is Tt idx (k.t N) (.move (V (q + 1)))) (cEndK N q (q + 2 + k.vn fx)))))
def znv (n k : Nat) (key dfl : C) : C :=
 .seq (.ops [⟨some (n + 100), .move (V 6), 0, none, []⟩]) (.cond n (.seq (.ops [⟨some 0, .call ⟨.value (.func N.zn), #[V 4], #[N.zr]⟩, N.zm, none, []⟩, ⟨some (n + 1 + 100), .assign (T 0), 0, none, []⟩])
  (.block k (.loop (.seq (.seq (.ops [⟨some 0, .move (V (n + 1)), 0, none, []⟩, ⟨some (n + 2 + 100), .binOp .gtr N.zm (T 0) (.const (.int .u32 0)) N.zm, 0, none, []⟩]) (.cond (n + 2) .skip (.exit k)))
   (.seq (.block (k + 1) (.seq (.ops [⟨some 0, .call ⟨.value (.func N.zn), #[V 4], #[N.zr]⟩, N.zm, none, []⟩, ⟨some (n + 3 + 100), .assign (T 0), 0, none, []⟩])
    (.seq (.ops [⟨some (n + 4 + 100), .move (V (n + 3)), 0, none, []⟩]) (.block (k + 2) (.seq (.ops [⟨some 0, .binOp .eql N.zm (V (n + 4)) (.const (.int .u32 0)) N.zm, 0, none, []⟩, ⟨some (n + 5 + 100), .assign (T 0), 0, none, []⟩]) (.cond (n + 5) key dfl))))))
   (.ops [⟨some 0, .move (V (n + 1)), 0, none, []⟩, ⟨some 1, .binOp .sub N.zm (T 0) (.const (.int .u32 1)) N.zm, 0, none, []⟩, ⟨some (n + 1 + 100), .assign (T 1), 0, none, []⟩])))))) .skip)
def dDfl (is Tt idx n : Nat) : List ROp := [⟨some 0, .move (V is), 0, none, []⟩, ⟨some 1, .nilCheck (T 0), 0, none, [0]⟩, ⟨some 2, .fieldAddr Tt (T 1) idx, 0, none, [1]⟩, ⟨some 3, .move (V (n + 3)), 0, none, []⟩,
 ⟨some 4, .call ⟨.value (.func N.zn), #[V 4], #[N.zr]⟩, N.zm, none, []⟩, ⟨some 5, .convert N.zm N.zt (T 4), 0, none, [4]⟩,
 ⟨some 6, .call ⟨.value (.func N.zo), #[V 4, T 5], #[N.zr, N.zt]⟩, N.zb, none, [5, 4]⟩, ⟨some 7, .call ⟨.value (.func N.zbx), #[T 2, T 3, T 6], #[N.zcc, N.zm, N.zb]⟩, N.t_, none, [2, 3, 6, 6]⟩]
def cDflt (f : FuncId) (pT : TypeId) (x : Nat) : C := .ops [⟨some 0, .move (V x), 0, none, []⟩, ⟨some 1, .call ⟨.value (.func f), #[T 0], #[pT]⟩, N.t_, none, []⟩]
def zpw (n : Nat) (f : FuncId) : C := .ops [⟨some 0, .call ⟨.value (.func f), #[V 4], #[N.zr]⟩, N.zaj, none, []⟩, ⟨none, .store N.zaj (V n) (T 0), 0, none, []⟩]
def cTv (fx : Bool) (k : Int) (n : Nat) : C :=
 .seq (.ops [⟨some 0, .move (V 5), 0, none, []⟩, ⟨some (n + 1 + 100), .binOp .lss N.zbs (T 0) (.const (.int .i16 k)) N.zbs, 0, none, []⟩])
  (.cond (n + 1)
   (.seq (.ops [⟨some (n + 2 + 100), .alloc N.zaj, 0, none, []⟩]) (.seq
    (if fx then cIf (n + 3) 6 (cIf (n + 4) 2 (zpw N (n + 2) N.zaz) (zpw N (n + 2) N.zbv)) (cIf (n + 5) 2 (zpw N (n + 2) N.zbf) (zpw N (n + 2) N.zcl))
     else cIf (n + 3) 2 (zpw N (n + 2) N.zbf) (zpw N (n + 2) N.zcl))
    (.ops [⟨some (n + 100), .assign (V (n + 2)), 0, none, []⟩])))
   (cTxt N fx .nstr n (if fx then n + 6 else n + 4)))
section
variable (fx : Bool)
mutual
def Ty.vn : Ty → Nat
 | .pr k _ => k.vn
 | .txt k => k.vn fx + 1
 | .arr _ nul e => 3 + (if fx then 1 else 0) + (if nul.isSome then 1 else 0) + 4 + e.vn
 | .row _ _ _ fs => 2 + fs.vn
 | .tv _ => if fx then 9 else 5
def El.vn : El → Nat
 | .pr _ => 1
 | .txt k => k.vn fx + 1
 | .row _ _ _ fs => 2 + fs.vn + (match fs.kt with | none => 0 | some j => 9 + fs.vnK j)
def Fds.vn : Fds → Nat
 | .nil => 0
 | .tags k => if k.isNone then 1 else 0
 | .cons g ty r => (if g.nev then 0 else g.vn + ty.vn) + r.vn
def Fds.vnK : Fds → Nat → Nat
 | .nil, _ => 0
 | .tags _, _ => 0
 | .cons _ ty r, j => match j with
  | 0 => ty.vn
  | j + 1 => r.vnK j
end
end
mutual
def Ty.bn : Ty → Nat
 | .arr _ _ e => 2 + e.bn
 | .row _ _ _ fs => fs.bn
 | _ => 0
def El.bn : El → Nat
 | .row _ _ _ fs => fs.bn + (match fs.kt with | none => 0 | some j => 3 + fs.bnK j)
 | _ => 0
def Fds.bn : Fds → Nat
 | .cons g ty r => (if g.nev then 0 else ty.bn) + r.bn
 | _ => 0
def Fds.bnK : Fds → Nat → Nat
 | .cons _ ty r, j => match j with
  | 0 => ty.bn
  | j + 1 => r.bnK j
 | _, _ => 0
end
def cArr (fx : Bool) (is : Nat) (Tt : TypeId) (idx : Nat) (st : TypeId) (nul : Option Int) (n k : Nat) (eb : Nat → Nat → Nat → Nat → List C) (fin : C) : C :=
  let m := n + 3 + (if fx then 1 else 0)
  let p := m + (if nul.isSome then 1 else 0)
  .seq (.ops [⟨some 0, .move (V is), 0, none, []⟩, ⟨some 1, .nilCheck (T 0), 0, none, []⟩, ⟨some 2, .fieldAddr Tt (T 1) idx, 0, none, []⟩, ⟨some 3, .load st (T 2), 0, none, []⟩, ⟨some (n + 100), .assign (T 3), 0, none, []⟩]) (
  .seq (zmq (n + 1) n) (
  .seq (zeo (n + 2) (.int .i32 0)) (
  .seq (cLen N fx n) (
  cNulQ N st nul n m (
  .seq (cOk N p) (
  .seq (cCut st (n + 1)) (
  .seq (cGrow N st (n + 1) (n + 2) (p + 1)) (
  .seq (cLoop N (p + 2) (n + 2) (p + 3) k (seqs (eb (n + 1) (p + 2) (p + 4) (k + 2)))) (
  .seq (zmq n (n + 1)) (
  fin))))))))))
section
variable (fx : Bool)
mutual
def Ty.gen (is : Nat) (Tt : TypeId) (idx : Nat) : Ty → Nat → Nat → C
 | .pr k _, n, _ => k.gen N n (zfu is Tt idx (k.t N))
 | .txt k, n, _ => .seq (zeo n k.zero) (.seq (cTxt N fx k n (n + 1)) (zfu is Tt idx (k.t N) (.move (V n))))
 | .arr st nul e, n, k => cArr N fx is Tt idx st nul n k (fun ia ii n k => e.gen ia ii st n k) (zfu is Tt idx st (.move (V n)))
 | .row T' pT d fs, n, k =>
  seqs (.ops [⟨some 0, .move (V is), 0, none, []⟩, ⟨some 1, .nilCheck (T 0), 0, none, []⟩, ⟨some 2, .fieldAddr Tt (T 1) idx, 0, none, []⟩, ⟨some (n + 100), .assign (T 2), 0, none, []⟩] ::
   cDflt N d pT n :: zmq (n + 1) n :: fs.gen (n + 1) T' 0 (n + 2) k)
 | .tv k, n, _ => .seq (zeo n (.pointer none)) (.seq (cTv N fx k n) (zfu is Tt idx N.zbj (.move (V n))))
def El.gen (ia ii : Nat) (st : TypeId) : El → Nat → Nat → List C
 | .pr k, n, _ => [k.get N n, zpu ia ii st (k.t N) (k.src N n)]
 | .txt k, n, _ => [zeo n k.zero, cTxt N fx k n (n + 1), zpu ia ii st (k.t N) (.move (V n))]
 | .row T' pT d fs, n, k =>
  .ops [⟨some 0, .move (V ia), 0, none, []⟩, ⟨some 1, .move (V ii), 0, none, []⟩, ⟨some 2, .indexAddr st (T 0) (T 1), 0, none, []⟩, ⟨some (n + 100), .assign (T 2), 0, none, []⟩] ::
   cDflt N d pT n :: zmq (n + 1) n :: (fs.gen (n + 1) T' 0 (n + 2) k ++ (match fs.kt with
    | none => []
    | some j => [znv N (n + 2 + fs.vn fx) (k + fs.bn) (fs.genK (n + 1) T' 0 (n + 2 + fs.vn fx + 6) (k + fs.bn + 3) j) (.draw (dDfl N (n + 1) T' (0 + fs.len) (n + 2 + fs.vn fx)))]))
def Fds.gen (is : Nat) (Tt : TypeId) (idx : Nat) : Fds → Nat → Nat → List C
 | .nil, _, _ => []
 | .tags kt, n, _ => if kt.isNone then [cTags N is Tt idx n] else []
 | .cons g ty r, n, k => (if g.nev then [] else [cGd N g n (fun n => ty.gen is Tt idx n k)]) ++ r.gen is Tt (idx + 1) (n + (if g.nev then 0 else g.vn + ty.vn fx)) (k + (if g.nev then 0 else ty.bn))
def Ty.genK (is : Nat) (Tt : TypeId) (idx : Nat) : Ty → Nat → Nat → C
 | .pr k _, q, _ => cKeyPr N k is Tt idx q
 | .txt k, q, _ => zpv N fx k is Tt idx q
 | .arr st nul e, q, k => .seq (.ops (opsR N q)) ((cArr N fx is Tt idx st nul (q + 1) k (fun ia ii n k => e.gen ia ii st n k) ((C.seq (zfu is Tt idx st (.move (V (q + 1)))) (cEndK N q (q + 8 + (if fx then 1 else 0) + (if nul.isSome then 1 else 0) + e.vn fx))).sw 4 q)).sw 4 q)
 | .row .., _, _ => .skip
 | .tv _, _, _ => .skip
def Fds.genK (is : Nat) (Tt : TypeId) (idx : Nat) : Fds → Nat → Nat → Nat → C
 | .nil, _, _, _ => .skip
 | .tags _, _, _, _ => .skip
 | .cons _ ty r, q, k, j => match j with
  | 0 => ty.genK is Tt idx q k
  | j + 1 => r.genK is Tt (idx + 1) q k j
end
def Fds.genR (fs : Fds) (is : Nat) (Tt : TypeId) (idx n k : Nat) : List C := fs.gen N fx is Tt idx n k ++ (match fs.kt with
 | none => []
 | some j => [znv N (n + fs.vn fx) (k + fs.bn) (fs.genK N fx is Tt idx (n + fs.vn fx + 6) (k + fs.bn + 3) j) (.draw (dDfl N is Tt (idx + fs.len) (n + fs.vn fx)))])
structure Msg where
 tT : TypeId
 pT : TypeId
 dflt : FuncId
 fl : Int
 vin : Bool
 fs : Fds
def Msg.gen (m : Msg) : C :=
 let is := if fx then 7 else 6
 seqs ([zeo 3 .nilIface, cDflt N m.dflt m.pT 0,
  .ops [⟨some 0, .move (V 1), 0, none, []⟩, ⟨some 1, .build N.zr #[(0, T 0)], 0, none, []⟩, ⟨some 104, .alloc N.zr, 0, none, []⟩, ⟨none, .store N.zr (V 4) (T 1), 0, none, []⟩]] ++
  (if m.vin then [.ops [⟨some 0, .move (V 0), 0, none, []⟩, ⟨some 1, .call ⟨.value (.func N.zat), #[V 4], #[N.zr]⟩, N.zbs, none, []⟩, ⟨some 2, .nilCheck (T 0), 0, none, []⟩, ⟨some 3, .fieldAddr m.tT (T 2) 0, 0, none, []⟩, ⟨none, .store N.zbs (T 3) (T 1), 0, none, []⟩]] else []) ++
  [.ops [⟨some 0, .move (V 0), 0, none, []⟩, ⟨some 1, .nilCheck (T 0), 0, none, []⟩, ⟨some 2, .fieldAddr m.tT (T 1) 0, 0, none, []⟩, ⟨some 3, .load N.zbs (T 2), 0, none, []⟩, ⟨some 105, .assign (T 3), 0, none, []⟩],
  .ops [⟨some 0, .move (V 5), 0, none, []⟩]] ++
  (if fx then [.ops [⟨some 0, .move (V 5), 0, none, []⟩, ⟨some 1, .binOp .geq N.zbs (T 0) (.const (.int .i16 m.fl)) N.zbs, 0, none, []⟩, ⟨some 106, .assign (T 1), 0, none, []⟩], .ops [⟨some 0, .move (V 6), 0, none, []⟩]] else []) ++
  [zmq is 0] ++ m.fs.genR N fx is m.tT 1 (is + 1) 0 ++ [zes N 3 N.zw N.zeg, .ret])
end
end
section
variable {P : Program} {N : Nums}
theorem zhe {t e : TypeId} {n a b a' b' : Nat} {z z' : Value} {de : TypeDesc} (ht : TI P t (.array n e) a b z) (he : TI P e de a' b' z') {ad : Addr} {w : World} :
  (Instr.sliceAt t (.pointer (some ad)) none none none).run P w = .ok (.slice (some ad) n n) w := by
 by_cases hn : n = 0
 ·subst hn
  simp [Instr.sliceAt, Instr.sliceBounds, Instr.sureAddr, Sem.run_bind, ht.run_und, he.run_size]
 ·simp [Instr.sliceAt, Instr.sliceBounds, Instr.sureAddr, Sem.run_bind, ht.run_und, he.run_size, Addr.add]
theorem zah {b : Nat} : ∀ (cs : List Value) (o : Nat) (w : World) (old : List Value), w.rangeAt b o old → cs.length ≤ old.length → (w.setCells b o cs).rangeAt b o (cs ++ old.drop cs.length)
 | [], o, w, old, h, _ => by simpa [World.setCells] using h
 | c :: cs, o, w, [], _, hl => by simp at hl
 | c :: cs, o, w, x :: old, h, hl => by
  have hx : w.cell? ⟨b, o, none⟩ = some x := h 0 x rfl
  have hrest : (w.setCell ⟨b, o, none⟩ c).rangeAt b (o + 1) old := by
   intro j v hj
   rw [World.cell?_setCell_other _ _ _ _ (by intro e; injection e with e1 e2; omega)]
   have := h (j + 1) v (by simpa using hj)
   rwa [show o + (j + 1) = o + 1 + j by omega] at this
  have ih := zah cs (o + 1) _ old hrest (by simpa using hl)
  have m : Mod (w.setCell ⟨b, o, none⟩ c) (((w.setCell ⟨b, o, none⟩ c)).setCells b (o + 1) cs) (rng b (o + 1) cs.length) := Mod.setCells cs (o + 1) _ fun _ i h1 h2 => ⟨rfl, h1, h2⟩
  show ((w.setCell ⟨b, o, none⟩ c).setCells b (o + 1) cs).rangeAt b o _
  intro j v hj
  cases j with
  | zero =>
   simp only [List.cons_append, List.getElem?_cons_zero, Option.some.injEq] at hj
   subst hj
   have hc : (w.setCell ⟨b, o, none⟩ c).cell? ⟨b, o, none⟩ = some c := World.cell?_setCell_same _ _ _ hx
   show ((w.setCell ⟨b, o, none⟩ c).setCells b (o + 1) cs).cell? ⟨b, o, none⟩ = some c
   rw [m.cell b o (by rw [show (w.setCell ⟨b, o, none⟩ c).heap.size = w.heap.size by simp [World.setCell]]; exact zag (by rw [hx]; rfl)) (fun hm => by have := hm.2.1; omega)]
   exact hc
  | succ j =>
   have := ih j v (by simpa using hj)
   rwa [show o + 1 + j = o + (j + 1) by omega] at this
theorem znw (l : List UInt8) : ∀ v ∈ l.map zbo, v.oneCell' = true := by
 intro v hv
 obtain ⟨x, _, rfl⟩ := List.mem_map.1 hv
 rfl
def zjy (l : List UInt8) : List UInt8 := (l ++ List.replicate (16 - l.length) 0).take 16
theorem zek (l : List UInt8) : (zjy l).length = 16 := by unfold zjy; simp; omega
theorem zbc.copyTo (B : Base P N) {w : World} {lo hi : Nat} {v : Value} {nl : Bool} {l : List UInt8} {ty : TypeId} {b n c : Nat} (h : zbc w lo hi v nl l) (hl : l.length ≤ n) (ht : w.there b 0 n) :
  (Builtin.copy_ #[N.zb, N.zb] ty #[.slice (some ⟨b, 0, none⟩) n c, v]).run P w = .ok (goInt l.length) (w.setCells b 0 (l.map zbo)) := by
 obtain ⟨i, hi, hsz, _, _⟩ := B.uint8.info
 have hs : (P.info? N.zq).map (·.size) = some 1 := by rw [hi]; simp [hsz]
 rcases h with ⟨_, rfl, rfl⟩ | ⟨b', o', c', _, rfl, h2, h34, h5⟩
 ·exact run_copy_none w _ _ _ _ _ _ _ _ _ _ B.Lu8.und hs (by simp [])
 ·have := run_copy_cells (P := P) w N.zb N.zb ty N.zq b 0 n c ⟨b', o', none⟩ l.length c' (l.map zbo) B.Lu8.und hs (by simp [hl]) (fun j u hj => by rw [Addr.add_mid]; exact h5 j u hj)
   (fun j hj => (ht j (by simp at hj; omega)).1) (fun j hj => (ht j (by simp at hj; omega)).2) (znw l)
  simpa using this
theorem rd_Uuid (B : Base P N) (F : Fns P N) (hN : N.zdo ≠ 0) (hT : N.zba ≠ 0) : RdOk P N.zdo PK.uuid.rd := by
 intro w lo hi r s hr
 have h := F.PReader_Uuid hN
 have hU := B.uuid hT
 refine h.1.call rfl fun loc N' hlo => ?_
 unfold zkh
 obtain ⟨σ0, hσ0⟩ : ∃ σ0, σ0 = zcv #[.pointer (some ⟨r, 0, none⟩)] := ⟨_, rfl⟩
 have h0 : σ0 0 = .pointer (some ⟨r, 0, none⟩) := by rw [hσ0]; rfl
 rw [← hσ0]
 have ezero : (Array.replicate 16 (Value.int .u8 0)).toList = List.replicate 16 (.int .u8 0) := rfl
 refine zc fun K hK => zad fun τ => ?_
 simp +decide only [bK, Nat.reduceAdd, hU.run_alloc, zf, locs_envOf]
 refine hK _ _ ?_
 clear hK K
 obtain ⟨w1, hw1⟩ : ∃ w1, w1 = w.alloc (.cells (Value.cells (.agg (Array.replicate 16 (.int .u8 0)))) N.zba) := ⟨_, rfl⟩
 rw [← hw1]
 have m1 : Mod w w1 zu := by rw [hw1]; exact Mod.alloc _ _ _
 have s1 : w1.heap.size = w.heap.size + 1 := by rw [hw1]; exact zal _ _
 have r1 : w1.rangeAt w.heap.size 0 (List.replicate 16 (.int .u8 0)) := by rw [hw1]; exact zz w _ _ _
 have t1 : w1.there w.heap.size 0 16 := by rw [hw1]; exact zbq w _ _
 refine zc fun K hK => zad fun τ => ?_
 simp +decide only [bK, Nat.reduceAdd, hU.run_alloc, zf, locs_envOf]
 refine hK _ _ ?_
 clear hK K
 obtain ⟨w2, hw2⟩ : ∃ w2, w2 = w1.alloc (.cells (Value.cells (.agg (Array.replicate 16 (.int .u8 0)))) N.zba) := ⟨_, rfl⟩
 rw [← hw2]
 have m2 : Mod w1 w2 zu := by rw [hw2]; exact Mod.alloc _ _ _
 have s2 : w2.heap.size = w1.heap.size + 1 := by rw [hw2]; exact zal _ _
 have r2 : w2.rangeAt w1.heap.size 0 (List.replicate 16 (.int .u8 0)) := by rw [hw2]; exact zz w1 _ _ _
 have t2 : w2.there w1.heap.size 0 16 := by rw [hw2]; exact zbq w1 _ _
 have m12 : Mod w w2 zu := m1.trans' m2
 have hr2 : RdAt w2 lo hi r s := hr.mod m12 (fun _ h => h) (fun _ _ _ _ h => h)
 have hrlt := hr.lt
 obtain ⟨σ, hσ⟩ : ∃ σ, σ = upd (upd σ0 1 (.pointer (some ⟨w.heap.size, 0, none⟩))) 2 (.pointer (some ⟨w1.heap.size, 0, none⟩)) := ⟨_, rfl⟩
 have f0 : σ 0 = .pointer (some ⟨r, 0, none⟩) := by rw [hσ, ze (by decide), ze (by decide)]; exact h0
 have f1 : σ 1 = .pointer (some ⟨w.heap.size, 0, none⟩) := by rw [hσ, ze (by decide)]; exact upd_same _ _ _
 have f2 : σ 2 = .pointer (some ⟨w1.heap.size, 0, none⟩) := by rw [hσ]; exact upd_same _ _ _
 rw [← hσ]
 clear hσ
 refine zc fun K hK => W_drawZ B.mixed [true, true, false, false] (by kernel_rfl) (fun _ => True) trivial fun τ => ?_
 have g2 : zcp σ τ 102 = .pointer (some ⟨w1.heap.size, 0, none⟩) := by rw [← f2]; exact envOf_var σ τ 2
 have g0 : zcp σ τ 100 = .pointer (some ⟨r, 0, none⟩) := by rw [← f0]; exact envOf_var σ τ 0
 refine za (.slice (some ⟨w1.heap.size, 0, none⟩) 16 16) (fun w' _ => zh (by
  have e := zhe (w := w') hU B.uint8 (ad := ⟨w1.heap.size, 0, none⟩)
  simp only [Option.map_none, ev_tmp, g2, e])) rfl ?_
 refine za (.pointer (some ⟨r, 0, none⟩)) (fun w' _ => by
  rw [zax, ev_tmp]
  simp +decide only [bE, Nat.reduceBeqDiff, Nat.zero_add, f0]) rfl ?_
 simp only [zcs, zcu, List.zip_cons_cons, List.zip_nil_right, List.zipWith_cons_cons, List.zipWith_nil_right, List.filter, Bool.not_true, Bool.not_false, List.map, zdc]
 rw [zcn (F.PReader_Span h.2).has]
 simp +decide only [bK, bE, BEq.rfl, true_and]
 have hrd : RdAt w2.drew lo hi r s := hr2.mod (Mod.drew w2 zu) (fun _ h => h) (fun _ _ _ _ h => h)
 refine (zid B F h.2 (n := 16) hrd).mono ?_
 rintro v w3 ⟨hb, hr3, hm3⟩
 have hsl : (zdq 16 s).length ≤ 16 := by unfold zdq; split <;> simp; omega
 have hcp := hb.copyTo B (ty := N.zt) (b := w1.heap.size) (n := 16) (c := 16) hsl (by
  have := hm3.there (by show w1.heap.size < w2.heap.size; omega) ((Mod.drew w2 zu).there (by omega) t2)
  exact this)
 rw [step_copy]
 simp +decide only [bK, bE, Nat.reduceBeqDiff, BEq.rfl, hcp]
 clear hcp
 obtain ⟨w4, hw4⟩ : ∃ w4, w4 = w3.setCells w1.heap.size 0 ((zdq 16 s).map zbo) := ⟨_, rfl⟩
 rw [← hw4]
 have m4 : Mod w3 w4 (blk w1.heap.size) := by rw [hw4]; exact Mod.setCells _ 0 _ fun _ _ _ _ => rfl
 have s3 : w2.heap.size ≤ w3.heap.size := hm3.size
 have hr4 : RdAt w4 lo hi r (zht 16 s) := hr3.mod m4 (fun o e => by have : r = w1.heap.size := e; omega) fun k o h1 h2 e => by
  have h3 : k = w1.heap.size := e
  have := hr.hi_le
  omega
 have m23 : Mod w2 w3 (blk r) := (Mod.drew w2 (blk r)).trans' hm3
 have rg2 : w4.rangeAt w1.heap.size 0 ((zjy (zdq 16 s)).map zbo) := by
  have h1 : w3.rangeAt w1.heap.size 0 (List.replicate 16 (.int .u8 0)) := m23.rangeAt (by omega) (fun i _ _ e => by have : w1.heap.size = r := e; omega) r2
  have h2 := zah ((zdq 16 s).map zbo) 0 w3 _ h1 (by simp; omega)
  rw [hw4]
  have e : (zjy (zdq 16 s)).map zbo = (zdq 16 s).map zbo ++ (List.replicate 16 (Value.int .u8 0)).drop ((zdq 16 s).map zbo).length := by
   unfold zjy
   rw [List.take_of_length_le (by simp; omega), List.map_append, List.length_map, List.drop_replicate, List.map_replicate]
   rfl
  rw [e]; exact h2
 have t1' : w4.there w.heap.size 0 16 := m4.there (by omega) (m23.there (by omega) (m2.there (by omega) t1))
 refine hK _ _ (zg fun σ4 hσ => ?_)
 have e1 := hσ 1
 have e2 := hσ 2
 simp +decide only [bE, Nat.reduceBeqDiff, Nat.reduceAdd, f1, f2] at e1 e2
 clear hσ hK K
 have hld := hU.run_load (w := w4) (b := w1.heap.size) (o := 0) rg2 (by rw [List.length_map]; exact zek _) (fun h => by cases h)
 refine zc fun K hK => zad fun τ => ?_
 have hst := hU.run_store (w := w4) (b := w.heap.size) (o := 0) (v := .agg ((zjy (zdq 16 s)).map zbo).toArray) (cs := (zjy (zdq 16 s)).map zbo) rfl (by rw [List.length_map]; exact zek _) t1' (znw _)
 have hlv : ldv (.array 16 N.zq) ((zjy (zdq 16 s)).map zbo) = .agg ((zjy (zdq 16 s)).map zbo).toArray := rfl
 simp +decide only [bK, bE, Nat.reduceBeqDiff, BEq.rfl, Nat.reduceAdd, e1, e2, hld, hlv, hst]
 refine hK _ _ (zg fun σ5 hσ => zcf ⟨.inr rfl, .agg ((zjy (zdq 16 s)).map zbo).toArray, ⟨⟨w.heap.size, 0, none⟩, ?_, ?_⟩, ?_⟩)
 ·have e1' := hσ 1
  simp +decide only [bE, Nat.reduceBeqDiff, Nat.reduceAdd, e1] at e1'
  exact e1'
 ·have hcur : w4.rangeAt w.heap.size 0 (List.replicate 16 (.int .u8 0)) := m4.rangeAt (by omega) (fun i _ _ e => by have : w.heap.size = w1.heap.size := e; omega) (m23.rangeAt (by omega) (fun i _ _ e => by have : w.heap.size = r := e; omega) (m2.rangeAt (by omega) (fun _ _ _ h => h) r1))
  have h2 := zah ((zjy (zdq 16 s)).map zbo) 0 w4 _ hcur (by rw [List.length_map, zek]; simp)
  rw [List.drop_of_length_le (by rw [List.length_map, zek]; simp), List.append_nil] at h2
  have hl2 := hU.run_load (w := w4.setCells w.heap.size 0 ((zjy (zdq 16 s)).map zbo)) (b := w.heap.size) (o := 0) h2 (by rw [List.length_map]; exact zek _) (fun h => by cases h)
  simpa [Instr.loadAt, Instr.sureAddr, Sem.run_bind, hlv] using hl2
 ·have m5 : Mod w4 (w4.setCells w.heap.size 0 ((zjy (zdq 16 s)).map zbo)) (blk w.heap.size) := Mod.setCells _ 0 _ fun _ _ _ _ => rfl
  refine ⟨rfl, hr4.mod m5 (fun o e => by have : r = w.heap.size := e; omega) (fun k o h1 h2 e => by have h3 : k = w.heap.size := e; have := hr.hi_le; omega), ?_⟩
  have m3' : Mod w w3 (blk r) := m12.trans m23 fun k o _ h => h.elim False.elim id
  exact (m3'.fresh m4 (fun k o e => by have : k = w1.heap.size := e; omega)).fresh m5 (fun k o e => by have : k = w.heap.size := e; omega)
end
structure Cx (σ : Env) (fx u fl : Bool) (ver : Int) (r : Nat) : Prop where
 un : σ 2 = .bool u
 rd : σ 4 = .pointer (some ⟨r, 0, none⟩)
 vr : σ 5 = .int .i16 ver
 fle : fx = true → σ 6 = .bool fl
 nofl : fx = false → fl = false
def Ag (n : Nat) (σ σ' : Env) : Prop := ∀ i, i < n → σ' i = σ i
theorem Ag.refl (n : Nat) (σ : Env) : Ag n σ σ := fun _ _ => rfl
theorem Ag.trans {n m : Nat} {σ σ' σ'' : Env} (h : Ag n σ σ') (h' : Ag m σ' σ'') (hm : n ≤ m) : Ag n σ σ'' := fun i hi => (h' i (by omega)).trans (h i hi)
theorem Ag.upd {n i : Nat} {σ σ' : Env} {v : Value} (h : Ag n σ σ') (hi : n ≤ i) : Ag n σ (upd σ' i v) := fun j hj => by rw [ze (by omega)]; exact h j hj
theorem Ag.mono {n m : Nat} {σ σ' : Env} (h : Ag m σ σ') (hm : n ≤ m) : Ag n σ σ' := fun i hi => h i (by omega)
theorem Cx.ag {σ σ' : Env} {fx u fl : Bool} {ver : Int} {r n : Nat} (h : Cx σ fx u fl ver r) (ha : Ag n σ σ') (hn : 7 ≤ n) : Cx σ' fx u fl ver r :=
 ⟨by rw [ha 2 (by omega)]; exact h.un, by rw [ha 4 (by omega)]; exact h.rd, by rw [ha 5 (by omega)]; exact h.vr, fun e => by rw [ha 6 (by omega)]; exact h.fle e, h.nofl⟩
def GG (lo hi a b : Nat) : Nat → Prop := fun k => (lo ≤ k ∧ k < hi) ∨ (a ≤ k ∧ k < b)
section
variable {P : Program} {N : Nums} {loc : List Nat} {N' : Nat} {Q : Exit → Env → World → Prop} {σ : Env} {w : World}
theorem zku (hlo : zec loc N') {n i : Nat} {b : Bool} {a c : C} (hi : σ i = .bool b) (h : W P loc N' (if b then a else c) Q (upd σ n (.bool b)) w) : W P loc N' (cIf n i a c) Q σ w := by
 unfold cIf
 refine zc fun K hK => zad fun τ => ?_
 simp +decide (disch := omega) only [bK, bE, zf, locs_envOf, hi]
 exact hK _ _ (W_if hlo (upd_same _ _ _) h)
theorem zha {r : Nat} {f : FuncId} {t : TypeId} {n : Nat} (hb : zcr P f) (h4 : σ 4 = .pointer (some ⟨r, 0, none⟩)) {R : Value → World → Prop} (hc : Call P f #[.pointer (some ⟨r, 0, none⟩)] w R) (h : ∀ v w', R v w' → Q .normal (upd σ n v) w') :
  W P loc N' (zes N n f t) Q σ w := by
 unfold zes
 refine zad fun τ => ?_
 simp +decide (disch := omega) only [bK]
 rw [zak hb]
 simp +decide (disch := omega) only [bK, bE, BEq.rfl, Nat.reduceAdd, h4]
 refine hc.mono fun v w' hR => ?_
 simp +decide (disch := omega) only [zf, zac, locs_envOf]
 exact h v w' hR
def zgl (P : Program) (src : Op) (σ : Env) (w : World) (v : Value) : Prop := ∀ (ρ : Env) (d : Nat) (K : Env → World → Prop), (∀ i, ρ (i + 100) = σ i) → zbe P ⟨some d, src, 0, none, []⟩ ρ w K = K (put ρ (some d) v) w
theorem zgl.move {n : Nat} : zgl P (.move (V n)) σ w (σ n) := fun ρ d K h => by rw [ziz, ev_tmp, h]
theorem zmu {is : Nat} {Tt : TypeId} {idx : Nat} {t : TypeId} {src : Op} {v : Value} {cs : List Value} {b o off sz by' : Nat} {d : TypeDesc} {z : Value} (hT : HF P Tt idx off) (ht : TI P t d sz by' z) (hsrc : zgl P src σ w v)
  (his : σ is = .pointer (some ⟨b, o, none⟩)) (hv : v.cells = cs.toArray) (hl : cs.length = sz) (h1 : ∀ c ∈ cs, c.oneCell' = true) (hth : w.there b (o + off) sz) (hQ : Q .normal σ (w.setCells b (o + off) cs)) :
  W P loc N' (zfu is Tt idx t src) Q σ w := by
 unfold zfu
 refine zad fun τ => ?_
 have st := ht.run_store (w := w) (b := b) (o := o + off) (v := v) hv hl hth h1
 simp +decide (disch := omega) only [bK, bE, Nat.reduceBeqDiff, BEq.rfl, his]
 rw [hsrc _ _ _ (fun i => by simp +decide (disch := omega) only [zop, zlh, sel_false, show ((i + 100 : Nat) == 0) = false from by simp, show decide (i + 100 < 100) = false from by simp, Nat.add_sub_cancel])]
 rw [zaa rfl]
 simp +decide (disch := omega) only [bK, bE, Nat.reduceBeqDiff, BEq.rfl, hT.run, st, zac, locs_envOf]
 exact hQ
theorem W_storeE {ia ii : Nat} {st t : TypeId} {src : Op} {v : Value} {cs : List Value} {b c n j sz by' a1 a2 : Nat} {d : TypeDesc} {z z2 : Value} (hS : TI P st (.slice t) a1 a2 z2) (ht : TI P t d sz by' z) (hsrc : zgl P src σ w v)
  (ha : σ ia = .slice (some ⟨b, 0, none⟩) n c) (hi : σ ii = .int .i32 j) (hj : j < n) (hv : v.cells = cs.toArray) (hl : cs.length = sz) (h1 : ∀ c ∈ cs, c.oneCell' = true) (hth : w.there b (j * sz) sz) (hQ : Q .normal σ (w.setCells b (j * sz) cs)) :
  W P loc N' (zpu ia ii st t src) Q σ w := by
 unfold zpu
 refine zad fun τ => ?_
 have sto := ht.run_store (w := w) (b := b) (o := 0 + j * sz) (v := v) hv hl (by rw [Nat.zero_add]; exact hth) h1
 have hix := zx (w := w) hS ht (bl := b) (o := 0) (n := n) (c := c) (i := j) (k := .i32) hj
 simp +decide (disch := omega) only [bK, bE, Nat.reduceBeqDiff, BEq.rfl, ha, hi]
 rw [hsrc _ _ _ (fun i => by simp +decide (disch := omega) only [zop, zlh, sel_false, show ((i + 100 : Nat) == 0) = false from by simp, show ((i + 100 : Nat) == 1) = false from by simp, show decide (i + 100 < 100) = false from by simp, Nat.add_sub_cancel])]
 rw [Nat.zero_add] at hix sto
 simp +decide (disch := omega) only [bK, bE, Nat.reduceBeqDiff, BEq.rfl, hix, sto, zac, locs_envOf]
 exact hQ
def Txt.fns (N : Nums) (fx : Bool) : Txt → List FuncId
 | .str => [N.zbf, N.zcl] ++ if fx then [N.zaz, N.zbv] else []
 | .nstr => [N.zaw, N.zbr] ++ if fx then [N.zam, N.zbb] else []
 | .byt => N.zdi :: if fx then [N.zch] else []
 | .nbyt => N.zbu :: if fx then [N.zbh] else []
def TxtQ (lo hi r n : Nat) (σ : Env) (w : World) (x : Val × RS) (Q : Env → World → Prop) : Prop :=
 ∀ σ' w' v, Ag n σ σ' → σ' n = v → v.oneCell' = true → Rep w' (GG lo hi w.heap.size w'.heap.size) x.1 [v] → RdAt w' lo hi r x.2 → Mod w w' (blk r) → Q σ' w'
theorem zju {σ0 : Env} {lo hi r n : Nat} {s : RS} {f : FuncId} {t : TypeId} {g : RS → List UInt8 × RS} (hb : zcr P f) (hok : ztg P f g) (h4 : σ 4 = .pointer (some ⟨r, 0, none⟩)) (hr : RdAt w lo hi r s) (hA : Ag n σ0 σ)
  (h : TxtQ lo hi r n σ0 w (.num (strV (g s).1), (g s).2) (Q .normal)) : W P loc N' (zes N n f t) Q σ w :=
 zha hb h4 (hok w lo hi r s hr) fun v w' ⟨hv, hr', hm⟩ => h _ w' v (hA.upd (Nat.le_refl _)) (upd_same _ _ _) (by rw [hv]; rfl) (by rw [hv]; rfl) hr' hm
theorem zhz {σ0 : Env} {lo hi r n : Nat} {s : RS} {f : FuncId} {t : TypeId} {g : RS → Option (List UInt8) × RS} (hb : zcr P f) (hok : zsb P f g) (h4 : σ 4 = .pointer (some ⟨r, 0, none⟩)) (hr : RdAt w lo hi r s) (hA : Ag n σ0 σ)
  (h : TxtQ lo hi r n σ0 w (.nstr (g s).1, (g s).2) (Q .normal)) : W P loc N' (zes N n f t) Q σ w := by
 refine zha hb h4 (hok w lo hi r s hr) fun v w' ⟨hv, hr', hm⟩ => ?_
 have h2 := h (Kf.upd σ n v) w' v (hA.upd (Nat.le_refl _)) (upd_same _ _ _)
 cases hg : (g s).1 with
 | none =>
  rw [hg] at hv h2
  have hv : v = .pointer none := hv
  exact h2 (by rw [hv]; rfl) (by rw [hv]; rfl) hr' hm
 | some l =>
  rw [hg] at hv h2
  obtain ⟨b, hv, h5, h6, h7⟩ := hv
  exact h2 (by rw [hv]; rfl) ⟨b, by rw [hv], .inr ⟨h5, h6⟩, zdn.2 h7⟩ hr' hm
theorem zjv {σ0 : Env} {lo hi r n : Nat} {s : RS} {f : FuncId} {t : TypeId} {g : RS → Option (List UInt8) × RS} (hb : zcr P f) (hok : OctOk P f g) (h4 : σ 4 = .pointer (some ⟨r, 0, none⟩)) (hr : RdAt w lo hi r s) (hA : Ag n σ0 σ)
  (h : TxtQ lo hi r n σ0 w (.oct (g s).1, (g s).2) (Q .normal)) : W P loc N' (zes N n f t) Q σ w := by
 refine zha hb h4 (hok w lo hi r s hr) fun v w' ⟨hv, hr', hm⟩ => ?_
 refine h (Kf.upd σ n v) w' v (hA.upd (Nat.le_refl _)) (upd_same _ _ _) ?_ ⟨v, rfl, hv.octG.mono fun k hk => .inl hk⟩ hr' hm
 cases hg : (g s).1 with
 | none =>
  rw [hg] at hv
  have hv : v = .slice none 0 0 := hv
  rw [hv]; rfl
 | some l =>
  rw [hg] at hv
  have hv : zbc w' lo hi v false l := hv
  exact hv.oneCell
theorem W_cTxt (B : Base P N) (F : Fns P N) (hlo : zec loc N') {fx u fl : Bool} {ver : Int} {lo hi r n m : Nat} {s : RS} {k : Txt} (hk : ∀ f ∈ k.fns N fx, f ≠ 0) (hx : Cx σ fx u fl ver r) (hr : RdAt w lo hi r s) (hn : 7 ≤ n) (hm : n < m)
  (h : TxtQ lo hi r n σ w (k.rd fl s) (Q .normal)) : W P loc N' (cTxt N fx k n m) Q σ w := by
 have g0 : ∀ σ', Ag n σ σ' → σ' 4 = .pointer (some ⟨r, 0, none⟩) := fun σ' ha => by rw [ha 4 (by omega)]; exact hx.rd
 have g2 : ∀ σ', Ag n σ σ' → σ' 2 = .bool u := fun σ' ha => by rw [ha 2 (by omega)]; exact hx.un
 have g6 : fx = true → ∀ σ', Ag n σ σ' → σ' 6 = .bool fl := fun e σ' ha => by rw [ha 6 (by omega)]; exact hx.fle e
 have a0 := Ag.refl n σ
 have a1 : ∀ b, Ag n σ (Kf.upd σ m b) := fun b => a0.upd (by omega)
 have a2 : ∀ b j c, m ≤ j → Ag n σ (Kf.upd (Kf.upd σ m b) j c) := fun b j c hj => (a1 b).upd (by omega)
 cases fx with
 | true =>
  have g6 := g6 rfl
  cases k with
  | str =>
   refine zku hlo (g2 _ a0) ?_
   cases u with
   | true =>
    refine zku hlo (g6 _ (a1 _)) ?_
    cases fl with
    | true => exact zju (F.PReader_UnsafeCompactString (hk _ (by simp [Txt.fns]))).1.has (zfx B F (hk _ (by simp [Txt.fns]))) (g0 _ (a2 _ _ _ (by omega))) hr (a2 _ _ _ (by omega)) h
    | false => exact zju (F.PReader_UnsafeString (hk _ (by simp [Txt.fns]))).1.has (zfo B F (hk _ (by simp [Txt.fns]))) (g0 _ (a2 _ _ _ (by omega))) hr (a2 _ _ _ (by omega)) h
   | false =>
    refine zku hlo (g6 _ (a1 _)) ?_
    cases fl with
    | true => exact zju (F.PReader_CompactString (hk _ (by simp [Txt.fns]))).1.has (zis B F (hk _ (by simp [Txt.fns]))) (g0 _ (a2 _ _ _ (by omega))) hr (a2 _ _ _ (by omega)) h
    | false => exact zju (F.PReader_String (hk _ (by simp [Txt.fns]))).1.has (zle B F (hk _ (by simp [Txt.fns]))) (g0 _ (a2 _ _ _ (by omega))) hr (a2 _ _ _ (by omega)) h
  | nstr =>
   refine zku hlo (g6 _ a0) ?_
   cases fl with
   | true =>
    refine zku hlo (g2 _ (a1 _)) ?_
    cases u with
    | true => exact zhz (F.PReader_UnsafeCompactNullableString (hk _ (by simp [Txt.fns]))).1.has (zgj B F (hk _ (by simp [Txt.fns]))) (g0 _ (a2 _ _ _ (by omega))) hr (a2 _ _ _ (by omega)) h
    | false => exact zhz (F.PReader_CompactNullableString (hk _ (by simp [Txt.fns]))).1.has (zhx B F (hk _ (by simp [Txt.fns]))) (g0 _ (a2 _ _ _ (by omega))) hr (a2 _ _ _ (by omega)) h
   | false =>
    refine zku hlo (g2 _ (a1 _)) ?_
    cases u with
    | true => exact zhz (F.PReader_UnsafeNullableString (hk _ (by simp [Txt.fns]))).1.has (zfp B F (hk _ (by simp [Txt.fns]))) (g0 _ (a2 _ _ _ (by omega))) hr (a2 _ _ _ (by omega)) h
    | false => exact zhz (F.PReader_NullableString (hk _ (by simp [Txt.fns]))).1.has (zhw B F (hk _ (by simp [Txt.fns]))) (g0 _ (a2 _ _ _ (by omega))) hr (a2 _ _ _ (by omega)) h
  | byt =>
   refine zku hlo (g6 _ a0) ?_
   cases fl with
   | true => exact zjv (F.PReader_CompactBytes (hk _ (by simp [Txt.fns]))).1.has (zne B F (hk _ (by simp [Txt.fns]))) (g0 _ (a1 _)) hr (a1 _) h
   | false => exact zjv (F.PReader_Bytes (hk _ (by simp [Txt.fns]))).1.has (rd_Bytes B F (hk _ (by simp [Txt.fns]))) (g0 _ (a1 _)) hr (a1 _) h
  | nbyt =>
   refine zku hlo (g6 _ a0) ?_
   cases fl with
   | true => exact zjv (F.PReader_CompactNullableBytes (hk _ (by simp [Txt.fns]))).1.has (zik B F (hk _ (by simp [Txt.fns]))) (g0 _ (a1 _)) hr (a1 _) h
   | false => exact zjv (F.PReader_NullableBytes (hk _ (by simp [Txt.fns]))).1.has (zir B F (hk _ (by simp [Txt.fns]))) (g0 _ (a1 _)) hr (a1 _) h
 | false =>
  have hfl := hx.nofl rfl
  subst hfl
  cases k with
  | str =>
   refine zku hlo (g2 _ a0) ?_
   cases u with
   | true => exact zju (F.PReader_UnsafeString (hk _ (by simp [Txt.fns]))).1.has (zfo B F (hk _ (by simp [Txt.fns]))) (g0 _ (a1 _)) hr (a1 _) h
   | false => exact zju (F.PReader_String (hk _ (by simp [Txt.fns]))).1.has (zle B F (hk _ (by simp [Txt.fns]))) (g0 _ (a1 _)) hr (a1 _) h
  | nstr =>
   refine zku hlo (g2 _ a0) ?_
   cases u with
   | true => exact zhz (F.PReader_UnsafeNullableString (hk _ (by simp [Txt.fns]))).1.has (zfp B F (hk _ (by simp [Txt.fns]))) (g0 _ (a1 _)) hr (a1 _) h
   | false => exact zhz (F.PReader_NullableString (hk _ (by simp [Txt.fns]))).1.has (zhw B F (hk _ (by simp [Txt.fns]))) (g0 _ (a1 _)) hr (a1 _) h
  | byt => exact zjv (F.PReader_Bytes (hk _ (by simp [Txt.fns]))).1.has (rd_Bytes B F (hk _ (by simp [Txt.fns]))) (g0 _ a0) hr a0 h
  | nbyt => exact zjv (F.PReader_NullableBytes (hk _ (by simp [Txt.fns]))).1.has (zir B F (hk _ (by simp [Txt.fns]))) (g0 _ a0) hr a0 h
end
section
variable {P : Program} {N : Nums}
theorem pk_rd (B : Base P N) (F : Fns P N) (k : PK) (hk : k.f N ≠ 0) (hu : k.nt N) : zcr P (k.f N) ∧ RdOk P (k.f N) k.rd := by
 cases k with
 | bool => exact ⟨(F.PReader_Bool hk).has, rd_Bool B F hk⟩
 | i8 => exact ⟨(F.PReader_Int8 hk).has, rd_Int8 B F hk (hu.2 rfl)⟩
 | i16 => exact ⟨(F.PReader_Int16 hk).1.has, rd_Int16 B F hk⟩
 | u16 => exact ⟨(F.PReader_Uint16 hk).1.has, rd_Uint16 B F hk⟩
 | i32 => exact ⟨(F.PReader_Int32 hk).1.has, rd_Int32 B F hk⟩
 | i64 => exact ⟨(F.PReader_Int64 hk).1.has, rd_Int64 B F hk⟩
 | uuid => exact ⟨(F.PReader_Uuid hk).1.has, rd_Uuid B F hk (hu.1 rfl)⟩
 | en t => exact ⟨(F.PReader_Int8 hk).has, rd_Int8 B F hk (hu.2 rfl)⟩
theorem pk_ti (B : Base P N) (k : PK) (hu : k.nt N) (he : ∀ t, k = .en t → TI P t (.int .i8) 1 1 (.int .i8 0)) : ∃ d by', TI P (k.t N) d k.sz by' k.zero := by
 cases k with
 | bool => exact ⟨_, _, B.bool⟩
 | i8 => exact ⟨_, _, B.int8 (hu.2 rfl)⟩
 | i16 => exact ⟨_, _, B.int16⟩
 | u16 => exact ⟨_, _, B.uint16⟩
 | i32 => exact ⟨_, _, B.int32⟩
 | i64 => exact ⟨_, _, B.int64⟩
 | uuid => exact ⟨_, _, B.uuid (hu.1 rfl)⟩
 | en t => exact ⟨_, _, he t rfl⟩
structure PKv (k : PK) (v : Value) : Prop where
 len : v.cells.toList.length = k.sz
 one : ∀ c ∈ v.cells.toList, c.oneCell' = true
 plain : k ≠ .uuid → v.oneCell' = true
 agg : k = .uuid → ∃ cs : List Value, v = .agg cs.toArray ∧ cs.length = 16
theorem zkd (k : PK) (s : RS) : PKv k (k.rd s).1 := by
 have fx : ∀ (c : Nat) (f : List UInt8 → Value) (z : Value) (k : PK), k ≠ .uuid → k.sz = 1 → (∀ l, (f l).cells = #[f l] ∧ (f l).oneCell' = true) → z.cells = #[z] ∧ z.oneCell' = true → PKv k (zeh c f z s).1 := by
  intro c f z k hk hs hf hz
  unfold zeh
  split
  ·refine ⟨?_, ?_, fun _ => hz.2, fun e => absurd e hk⟩
   ·show z.cells.toList.length = _; rw [hz.1, hs]; rfl
   ·intro x hx
    have hx : x ∈ z.cells.toList := hx
    rw [hz.1] at hx
    simp at hx; subst hx; exact hz.2
  ·obtain ⟨h1, h2⟩ := hf (s.l.take c)
   refine ⟨?_, ?_, fun _ => h2, fun e => absurd e hk⟩
   ·show (f (s.l.take c)).cells.toList.length = _; rw [h1, hs]; rfl
   ·intro x hx
    have hx : x ∈ (f (s.l.take c)).cells.toList := hx
    rw [h1] at hx
    simp at hx; subst hx; exact h2
 cases k with
 | uuid =>
  refine ⟨by show ((zjy (zdq 16 s)).map zbo).toArray.toList.length = 16; simp [zek], ?_, fun h => absurd rfl h, fun _ => ⟨(zjy (zdq 16 s)).map zbo, rfl, by rw [List.length_map]; exact zek _⟩⟩
  intro x hx
  have hx : x ∈ ((zjy (zdq 16 s)).map zbo).toArray.toList := hx
  rw [List.toList_toArray] at hx
  exact znw _ x hx
 | en t => exact fx _ _ _ _ (by simp) rfl (fun l => ⟨rfl, rfl⟩) ⟨rfl, rfl⟩
 | _ => exact fx _ _ _ _ (by decide) rfl (fun l => ⟨rfl, rfl⟩) ⟨rfl, rfl⟩
section
variable {loc : List Nat} {N' : Nat} {Q : Exit → Env → World → Prop} {σ : Env} {w : World}
theorem W_get (B : Base P N) (F : Fns P N) {k : PK} (hk : k.f N ≠ 0) (hu : k.nt N) (hen : k.isEn = false) {lo hi r n : Nat} {s : RS} (h4 : σ 4 = .pointer (some ⟨r, 0, none⟩)) (hr : RdAt w lo hi r s)
  (h : ∀ σ' w', Ag n σ σ' → zgl P (k.src N n) σ' w' (k.rd s).1 → RdAt w' lo hi r (k.rd s).2 → Mod w w' (blk r) → Q .normal σ' w') : W P loc N' (k.get N n) Q σ w := by
 obtain ⟨hb, hok⟩ := pk_rd B F k hk hu
 have plain : ∀ f t, k.get N n = zes N n f t → f = k.f N → k.src N n = .move (V n) → W P loc N' (k.get N n) Q σ w := by
  intro f t e1 e2 e3
  rw [e1]
  subst e2
  refine zha hb h4 (hok w lo hi r s hr) fun v w' ⟨hv, hr', hm⟩ => h _ w' ((Ag.refl n σ).upd (Nat.le_refl _)) ?_ hr' hm
  rw [e3, ← hv]
  have := zgl.move (P := P) (σ := Kf.upd σ n v) (w := w') (n := n)
  rwa [upd_same] at this
 cases k with
 | uuid =>
  have hU := B.uuid (hu.1 rfl)
  obtain ⟨x, hx, hxl⟩ := (zkd .uuid s).agg rfl
  have hone := (zkd .uuid s).one
  rw [hx] at hone
  unfold PK.get cBox
  refine zad fun τ => ?_
  simp +decide (disch := omega) only [bK, bE, Nat.reduceBeqDiff, BEq.rfl]
  rw [zak (f := N.zdo) hb]
  simp +decide (disch := omega) only [bK, bE, BEq.rfl, Nat.reduceAdd, h4]
  refine (hok w lo hi r s hr).mono ?_
  rintro v w1 ⟨hv, hr1, hm1⟩
  rw [hx] at hv
  subst hv
  simp +decide (disch := omega) only [bK, hU.run_alloc]
  obtain ⟨w2, hw2⟩ : ∃ w2, w2 = w1.alloc (.cells (Value.cells (.agg (Array.replicate 16 (.int .u8 0)))) N.zba) := ⟨_, rfl⟩
  rw [← hw2]
  have m2 : Mod w1 w2 zu := by rw [hw2]; exact Mod.alloc _ _ _
  have s2 : w2.heap.size = w1.heap.size + 1 := by rw [hw2]; exact zal _ _
  have t2 : w2.there w1.heap.size 0 16 := by rw [hw2]; exact zbq w1 _ _
  have r2 : w2.rangeAt w1.heap.size 0 (List.replicate 16 (.int .u8 0)) := by rw [hw2]; exact zz w1 _ _ _
  have hst := hU.run_store (w := w2) (b := w1.heap.size) (o := 0) (v := .agg x.toArray) (cs := x) rfl hxl t2 (fun c hc => hone c (by simpa [Value.cells] using hc))
  simp +decide (disch := omega) only [bK, hst, zf, zac, locs_envOf]
  have m3 : Mod w2 (w2.setCells w1.heap.size 0 x) (blk w1.heap.size) := Mod.setCells _ 0 _ fun _ _ _ _ => rfl
  have r3 := zah x 0 w2 _ r2 (by rw [hxl]; simp)
  rw [List.drop_of_length_le (by rw [hxl]; simp), List.append_nil] at r3
  have hlt := hr1.lt
  have hhi := hr1.hi_le
  refine h _ _ ((Ag.refl n σ).upd (Nat.le_refl _)) ?_ ((hr1.mod m2 (fun _ h => h) (fun _ _ _ _ h => h)).mod m3 (fun o e => by have : r = w1.heap.size := e; omega) (fun k o h1 h2 e => by have : k = w1.heap.size := e; omega)) ?_
  ·intro ρ d K hρ
   have hl := hU.run_load (w := w2.setCells w1.heap.size 0 x) (b := w1.heap.size) (o := 0) r3 hxl (fun h => by cases h)
   have hlv : ldv (.array 16 N.zq) x = .agg x.toArray := rfl
   have hρn : ρ (n + 100) = .pointer (some ⟨w1.heap.size, 0, none⟩) := by rw [hρ]; exact upd_same _ _ _
   show zbe P ⟨some d, .load N.zba (V n), 0, none, []⟩ ρ _ K = _
   rw [zja, ev_tmp, hρn, hl, stepV_ok, hlv, hx]
  ·have := hm1.size
   exact (hm1.trans' (m2.mono fun _ _ _ h => h.elim)).fresh m3 fun k o e => by have : k = w1.heap.size := e; omega
 | _ => exact plain _ _ rfl rfl rfl
structure Inv (N : Nums) (w : World) (lo hi r : Nat) (s : RS) (e : Value) : Prop where
 rd : RdAt w lo hi r s
 er : w.cell? ⟨N.zd, 0, none⟩ = some e
 gr : N.zd ≠ r
 ei : ∃ te ve, e = .iface te ve
structure Pl (N : Nums) (w : World) (lo hi r b o n : Nat) : Prop where
 there : w.there b o n
 lt : b < w.heap.size
 br : b ≠ r
 bs : b < lo ∨ hi ≤ b
 bg : b ≠ N.zd
theorem Inv.mod {w w' : World} {lo hi r b o n : Nat} {s s' : RS} {e : Value} (h : Inv N w lo hi r s e) (hb : b ≠ N.zd) (hm : Mod w w' (orM (blk r) (rng b o n))) (hr : RdAt w' lo hi r s') : Inv N w' lo hi r s' e :=
 ⟨hr, by rw [hm.cell _ _ (zag (by rw [h.er]; rfl)) (fun hh => hh.elim (fun e => h.gr e) fun e => hb e.1.symm)]; exact h.er, h.gr, h.ei⟩
theorem Pl.mod {w w' : World} {M : Nat → Nat → Prop} {lo hi r b o n : Nat} (h : Pl N w lo hi r b o n) (hm : Mod w w' M) : Pl N w' lo hi r b o n :=
 ⟨hm.there h.lt h.there, Nat.lt_of_lt_of_le h.lt hm.size, h.br, h.bs, h.bg⟩
theorem Pl.sub {w : World} {lo hi r b o n o' n' : Nat} (h : Pl N w lo hi r b o n) (h1 : o ≤ o') (h2 : o' + n' ≤ o + n) : Pl N w lo hi r b o' n' :=
 ⟨fun j hj => by have := h.there (o' - o + j) (by omega); rwa [show o + (o' - o + j) = o' + j by omega] at this, h.lt, h.br, h.bs, h.bg⟩
def FQ (N : Nums) (lo hi r n b o sz : Nat) (e : Value) (σ : Env) (w : World) (x : Option (Val × RS)) (Q : Exit → Env → World → Prop) : Prop :=
 match x with
 | none => ∀ σ' w', σ' 3 = e → Mod w w' (orM (blk r) (rng b o sz)) → Q .ret σ' w'
 | some (v, s') => ∀ σ' w' cs, Ag n σ σ' → RdAt w' lo hi r s' → Mod w w' (orM (blk r) (rng b o sz)) → w'.rangeAt b o cs → cs.length = sz → Rep w' (GG lo hi w.heap.size w'.heap.size) v cs → Q .normal σ' w'
theorem zkz {lo hi r n is b oo off sz by' : Nat} {Tt : TypeId} {idx : Nat} {t : TypeId} {src : Op} {d : TypeDesc} {z v : Value} {x : Val} {e : Value} {s s' : RS} {σ0 : Env} {w0 : World} {ini : List Value} (hT : HF P Tt idx off) (ht : TI P t d sz by' z) (hsrc : zgl P src σ w v)
  (his : σ is = .pointer (some ⟨b, oo, none⟩)) (hl : v.cells.toList.length = sz) (h1 : ∀ c ∈ v.cells.toList, c.oneCell' = true) (hpl : Pl N w0 lo hi r b (oo + off) sz) (hini : w0.rangeAt b (oo + off) ini) (hil : ini.length = sz)
  (hA : Ag n σ0 σ) (hm : Mod w0 w (blk r)) (hr : RdAt w lo hi r s') (hrep : Rep w (GG lo hi w0.heap.size w.heap.size) x v.cells.toList)
  (hQ : FQ N lo hi r n b (oo + off) sz e σ0 w0 (some (x, s')) Q) : W P loc N' (zfu is Tt idx t src) Q σ w := by
 have hpl' := hpl.mod hm
 refine zmu hT ht hsrc his (cs := v.cells.toList) (by simp) hl h1 hpl'.there ?_
 have ms : Mod w (w.setCells b (oo + off) v.cells.toList) (rng b (oo + off) sz) := Mod.setCells _ _ _ fun _ i h2 h3 => ⟨rfl, h2, by omega⟩
 have hini' : w.rangeAt b (oo + off) ini := hm.rangeAt hpl.lt (fun i _ _ e => hpl.br e) hini
 have hrg := zah v.cells.toList (oo + off) w ini hini' (by omega)
 rw [List.drop_of_length_le (by omega), List.append_nil] at hrg
 have hbs := hpl.bs
 have hblt := hpl.lt
 have hbr := hpl.br
 have hsz := hm.size
 refine hQ σ _ _ hA (hr.mod ms (fun o e => hpl.br e.1.symm) (fun k o h2 h3 e => by have : k = b := e.1; omega)) (hm.trans ms fun k o _ h => h) hrg hl ?_
 have hsz2 : (w.setCells b (oo + off) v.cells.toList).heap.size = w.heap.size := by
  have hg : ∀ (cs : List Value) (o : Nat) (w : World), (w.setCells b o cs).heap.size = w.heap.size := by
   intro cs
   induction cs with
   | nil => intro o w; rfl
   | cons c cs ih => intro o w; show ((w.setCell ⟨b, o, none⟩ c).setCells b (o + 1) cs).heap.size = _; rw [ih]; simp [World.setCell]
  exact hg _ _ _
 refine Rep.mod ms (fun k hk => ?_) x hrep
 have hhi := hr.hi_le
 rcases hk with ⟨h2, h3⟩ | ⟨h2, h3⟩
 ·exact ⟨by omega, fun o e => by have : k = b := e.1; omega, .inl ⟨h2, h3⟩⟩
 ·exact ⟨by omega, fun o e => by have : k = b := e.1; omega, .inr ⟨h2, by omega⟩⟩
end
end
def WL (P : Program) (loc : List Nat) (N' : Nat) : List C → (Exit → Env → World → Prop) → Env → World → Prop
 | [], Q => Q .normal
 | x :: l, Q => W P loc N' x (zee (WL P loc N' l Q) Q)
section
variable {P : Program} {N : Nums} {loc : List Nat} {N' : Nat} {Q : Exit → Env → World → Prop} {σ : Env} {w : World}
theorem thenQ_self {Q : Exit → Env → World → Prop} {e : Exit} {σ : Env} {w : World} (h : zee (Q .normal) Q e σ w) : Q e σ w := by
 cases e <;> exact h
theorem zho : ∀ {l : List C} {Q : Exit → Env → World → Prop} {σ : Env} {w : World}, l ≠ [] → WL P loc N' l Q σ w → W P loc N' (seqs l) Q σ w
 | [], _, _, _, h, _ => absurd rfl h
 | [x], _, _, _, _, h => zgm h fun _ _ _ => thenQ_self
 | x :: y :: l, _, _, _, _, h => W_seq (zgm h fun e σ w hq => by
   cases e with
   | normal => exact zho (l := y :: l) (by simp) hq
   | _ => exact hq)
theorem zoc : ∀ {l l' : List C} {Q : Exit → Env → World → Prop} {σ : Env} {w : World}, WL P loc N' l (zee (WL P loc N' l' Q) Q) σ w → WL P loc N' (l ++ l') Q σ w
 | [], _, _, _, _, h => h
 | x :: l, l', Q, σ, w, h => by
  refine zgm h fun e σ w hq => ?_
  cases e with
  | normal => exact zoc hq
  | _ => exact hq
theorem zau {x : C} {l : List C} (h : ∀ K : Env → World → Prop, (∀ σ w, WL P loc N' l Q σ w → K σ w) → W P loc N' x (zee K Q) σ w) : WL P loc N' (x :: l) Q σ w := h _ fun _ _ h => h
def TyOk (P : Program) (N : Nums) (fx : Bool) (t : Ty) : Prop :=
 ∀ {loc : List Nat} {N' : Nat} {Q : Exit → Env → World → Prop} {σ : Env} {w : World} {lo hi r : Nat} {s : RS} {e : Value} {u fl : Bool} {ver : Int} {is b oo : Nat} {Tt : TypeId} {idx off n k : Nat},
  zec loc N' → Cx σ fx u fl ver r → Inv N w lo hi r s e → Pl N w lo hi r b (oo + off) t.sz → σ is = .pointer (some ⟨b, oo, none⟩) → HF P Tt idx off → w.rangeAt b (oo + off) t.ini → 7 ≤ n → is < n →
  FQ N lo hi r n b (oo + off) t.sz e σ w (t.rd ver fl s) Q → W P loc N' (t.gen N fx is Tt idx n k) Q σ w
theorem wrap8_8 (n : Int) : IntKind.i8.wrap (IntKind.i8.wrap n) = IntKind.i8.wrap n := by
 have e : ∀ n : Int, IntKind.i8.wrap n = (let m := n % 256; if (true && decide (m ≥ 128)) = true then m - 256 else m) := fun _ => rfl
 rw [e, e]
 simp only [Bool.true_and, decide_eq_true_eq]
 split <;> split <;> omega
theorem rd8 (s : RS) : ∃ x, (PK.i8.rd s).1 = .int .i8 x ∧ IntKind.i8.wrap x = x := by
 show ∃ x, (zeh 1 (fun l => .int .i8 (IntKind.i8.wrap (be l))) (.int .i8 0) s).1 = _ ∧ _
 unfold zeh
 split
 ·exact ⟨0, rfl, by decide⟩
 ·exact ⟨_, rfl, wrap8_8 _⟩
theorem tyOk_pr (B : Base P N) (F : Fns P N) {fx : Bool} {k : PK} {d : Option Value} (hk : k.f N ≠ 0) (hu : k.nt N) (he : ∀ t, k = .en t → TI P t (.int .i8) 1 1 (.int .i8 0)) (hd : (d.getD k.zero).cells.toList.length = k.sz) : TyOk P N fx (.pr k d) := by
 intro loc N' Q σ w lo hi r s e u fl ver is b oo Tt idx off n kb hlo hx hinv hpl his hT hini hn hisn hQ
 obtain ⟨dd, by', ht⟩ := pk_ti B k hu he
 show W P loc N' (k.gen N n (zfu is Tt idx (k.t N))) Q σ w
 cases hen : k.isEn with
 | false =>
  have eg : ∀ st : Op → C, k.gen N n st = .seq (k.get N n) (st (k.src N n)) := by intro st; cases k <;> first | rfl | cases hen
  rw [eg]
  refine zc fun K hK => W_get B F hk hu hen hx.rd hinv.rd fun σ' w' ha hs hr' hm => hK _ _ ?_
  exact zkz (x := .num (k.rd s).1) (s := s) hT ht hs (by rw [ha is hisn]; exact his) (zkd k s).len (zkd k s).one hpl hini hd ha hm hr' rfl hQ
 | true =>
  cases k with
  | en t =>
   have ht := he t rfl
   obtain ⟨hb, hok⟩ := pk_rd B F (.en t) hk hu
   obtain ⟨x, hx8, hxw⟩ := rd8 s
   show W P loc N' (cEnum N n (zfu is Tt idx t (.move (V (n + 2))))) Q σ w
   unfold cEnum
   refine zc fun K hK => zap (hK _ _ ?_)
   clear hK K
   refine zc fun K hK => zc fun K1 hK1 => zha (r := r) (f := N.zdf) hb (by rw [ze (by omega)]; exact hx.rd) (hok w lo hi r s hinv.rd) fun v w' ⟨hv, hr', hm⟩ => hK1 _ _ ?_
   clear hK1 K1
   have hv : v = .int .i8 x := hv.trans hx8
   subst hv
   refine zeu (hK _ _ ?_)
   rw [upd_same]
   clear hK K
   refine zc fun K hK => zeu (hK _ _ ?_)
   clear hK K
   rw [upd_same]
   obtain ⟨σ3, hσ3⟩ : ∃ σ3, σ3 = upd (upd (upd (upd σ n (.int .i8 0)) (n + 1) (.int .i8 x)) n (.int .i8 x)) (n + 2) (.int .i8 x) := ⟨_, rfl⟩
   rw [← hσ3]
   have ha : Ag n σ σ3 := by rw [hσ3]; exact ((((Ag.refl n σ).upd (Nat.le_refl n)).upd (by omega)).upd (Nat.le_refl n)).upd (by omega)
   have hn2 : σ3 (n + 2) = .int .i8 x := by rw [hσ3]; exact upd_same _ _ _
   have hs : zgl P (.move (V (n + 2))) σ3 w' (.int .i8 x) := by
    have := zgl.move (P := P) (σ := σ3) (w := w') (n := n + 2)
    rwa [hn2] at this
   have e8 : (PK.en t).rd s = (.int .i8 x, (PK.i8.rd s).2) := by
    show PK.i8.rd s = _
    rw [← hx8]
   refine zkz (x := .num ((PK.en t).rd s).1) (s := s) hT ht hs (by rw [ha is hisn]; exact his) rfl (fun c hc => by have hc : c ∈ [Value.int .i8 x] := hc; simp at hc; rw [hc]; rfl) hpl hini hd ha hm hr' ?_ hQ
   rw [e8]
   simp only [Rep]
  | _ => cases hen
theorem txt_ti (B : Base P N) {k : Txt} (hp : k = .nstr → N.zbj ≠ 0) : ∃ d by', TI P (k.t N) d 1 by' k.zero := by
 cases k with
 | str => exact ⟨_, _, B.string⟩
 | nstr => exact ⟨_, _, B.pstring (hp rfl)⟩
 | _ => exact ⟨_, _, B.Lu8⟩
theorem zbt {v : Value} (h : v.oneCell' = true) : v.cells = #[v] := by cases v <;> first | rfl | simp [Value.oneCell'] at h
theorem tyOk_txt (B : Base P N) (F : Fns P N) {fx : Bool} {k : Txt} (hk : ∀ f ∈ k.fns N fx, f ≠ 0) (hp : k = .nstr → N.zbj ≠ 0) : TyOk P N fx (.txt k) := by
 intro loc N' Q σ w lo hi r s e u fl ver is b oo Tt idx off n kb hlo hx hinv hpl his hT hini hn hisn hQ
 refine zc fun K hK => zap (hK _ _ ?_)
 clear hK K
 have a0 : Ag n σ (upd σ n k.zero) := (Ag.refl n σ).upd (Nat.le_refl _)
 refine zc fun K hK => W_cTxt B F hlo hk (hx.ag a0 hn) hinv.rd hn (by omega) fun σ' w' v ha hv hone hrep hr' hm => hK _ _ ?_
 clear hK K
 obtain ⟨dd, by', ht⟩ := txt_ti B hp
 have ha' := a0.trans ha (Nat.le_refl _)
 have hc := zbt hone
 have hs : zgl P (.move (V n)) σ' w' v := by rw [← hv]; exact zgl.move
 exact zkz (s := s) hT ht hs (by rw [ha' is hisn]; exact his) (by rw [hc]; rfl) (by rw [hc]; intro c hc'; simp at hc'; subst hc'; exact hone) hpl hini rfl ha' hm hr' (by rw [hc]; exact hrep) hQ
theorem leaf_box (B : Base P N) {lo hi r m b : Nat} {s : RS} {f : FuncId} {g : RS → List UInt8 × RS} (hb : zcr P f) (hok : ztg P f g) (h4 : σ 4 = .pointer (some ⟨r, 0, none⟩)) (hr : RdAt w lo hi r s) (hbx : σ m = .pointer (some ⟨b, 0, none⟩)) {u : Value} (hu : w.cell? ⟨b, 0, none⟩ = some u) (hth : w.there b 0 1) (hbr : b ≠ r) (hbs : b < lo ∨ hi ≤ b)
  (h : ∀ w', w'.cell? ⟨b, 0, none⟩ = some (strV (g s).1) → RdAt w' lo hi r (g s).2 → Mod w w' (orM (blk r) (blk b)) → Q .normal σ w') : W P loc N' (zpw N m f) Q σ w := by
 unfold zpw
 refine zad fun τ => ?_
 simp +decide (disch := omega) only [bK]
 rw [zak hb]
 simp +decide (disch := omega) only [bK, bE, Nat.reduceBeqDiff, BEq.rfl, Nat.reduceAdd, h4]
 refine (hok w lo hi r s hr).mono ?_
 rintro v w1 ⟨rfl, hr1, hm1⟩
 have hbl : b < w.heap.size := zag (by rw [hu]; rfl)
 have hc1 : w1.cell? ⟨b, 0, none⟩ = some u := by rw [hm1.cell _ _ hbl (fun e => hbr e)]; exact hu
 have st := B.string.run_store1 (w := w1) (b := b) (o := 0) (v := strV (g s).1) rfl (hm1.there hbl hth)
 simp +decide (disch := omega) only [bK, hbx, st, zac, locs_envOf]
 have m2 : Mod w1 (w1.setCell ⟨b, 0, none⟩ (strV (g s).1)) (blk b) := Mod.setCell fun _ => rfl
 refine h _ (World.cell?_setCell_same _ _ _ hc1) (hr1.mod m2 (fun o e => hbr (by have : r = b := e; exact this.symm)) (fun k o h1 h2 e => by have : k = b := e; omega)) (hm1.trans m2 fun k o _ h => h)
theorem tyOk_tv (B : Base P N) (F : Fns P N) {fx : Bool} {k : Int} (hks : ∀ f ∈ Txt.str.fns N fx, f ≠ 0) (hkn : ∀ f ∈ Txt.nstr.fns N fx, f ≠ 0) (hp : N.zbj ≠ 0) : TyOk P N fx (.tv k) := by
 intro loc N' Q σ w lo hi r s e u fl ver is b oo Tt idx off n kb hlo hx hinv hpl his hT hini hn hisn hQ
 rw [Ty.gen]
 refine zc fun K hK => zap (hK _ _ ?_)
 clear hK K
 have a0 : Ag n σ (upd σ n (.pointer none)) := (Ag.refl n σ).upd (Nat.le_refl _)
 have hx0 := hx.ag a0 hn
 obtain ⟨σ1, hσ1⟩ : ∃ σ1, σ1 = upd σ n (.pointer none) := ⟨_, rfl⟩
 rw [← hσ1] at a0 hx0 ⊢
 clear hσ1
 rw [Ty.rd] at hQ
 have hti := B.pstring hp
 refine zc fun K hK => ?_
 have fin : ∀ (σ' : Env) (w' : World) (v : Value) (x : Val × RS), (if ver < k then (let x := if fl then zic s else strR s; ((.nstr (some x.1), x.2) : Val × RS)) else Txt.rd fl .nstr s) = x → Ag n σ σ' → σ' n = v → v.oneCell' = true → Rep w' (GG lo hi w.heap.size w'.heap.size) x.1 [v] → RdAt w' lo hi r x.2 → Mod w w' (blk r) → K σ' w' := by
  intro σ' w' v x hxe ha hv hone hrep hr' hm
  rw [hxe] at hQ
  refine hK _ _ ?_
  have hc := zbt hone
  have hs : zgl P (.move (V n)) σ' w' v := by rw [← hv]; exact zgl.move
  exact zkz (s := s) hT hti hs (by rw [ha is hisn]; exact his) (by rw [hc]; rfl) (by rw [hc]; intro c hc'; simp at hc'; subst hc'; exact hone) hpl hini rfl ha hm hr' (by rw [hc]; exact hrep) hQ
 clear hK hQ
 show W P loc N' (cTv N fx k n) (zee K Q) σ1 w
 unfold cTv
 refine zc fun K1 hK1 => zad fun τ => ?_
 simp +decide (disch := omega) only [bK, bE, BEq.rfl, Nat.reduceAdd, hx0.vr, zf, zac, locs_envOf]
 refine hK1 _ _ (W_if hlo (upd_same _ _ _) ?_)
 clear hK1 K1
 have a1 : Ag n σ (upd σ1 (n + 1) (.bool (decide (ver < k)))) := a0.upd (by omega)
 obtain ⟨σ2, hσ2⟩ : ∃ σ2, σ2 = upd σ1 (n + 1) (.bool (decide (ver < k))) := ⟨_, rfl⟩
 rw [← hσ2] at a1 ⊢
 clear hσ2
 by_cases hv : ver < k
 ·rw [decide_eq_true hv, if_pos rfl]
  rw [if_pos hv] at fin
  refine zc fun K2 hK2 => zad fun τ => ?_
  simp +decide (disch := omega) only [bK, B.string.run_alloc, zf, locs_envOf]
  obtain ⟨w1, hw1⟩ : ∃ w1, w1 = w.alloc (.cells (Value.cells (.string ⟨#[]⟩)) N.zaj) := ⟨_, rfl⟩
  rw [← hw1]
  have m1 : Mod w w1 zu := by rw [hw1]; exact Mod.alloc _ _ _
  have s1 : w1.heap.size = w.heap.size + 1 := by rw [hw1]; exact zal _ _
  have t1 : w1.there w.heap.size 0 1 := by rw [hw1]; exact zbq w _ _
  have c1 : w1.cell? ⟨w.heap.size, 0, none⟩ = some (.string ⟨#[]⟩) := by rw [hw1]; exact zz w #[.string ⟨#[]⟩] N.zaj (0, 0) 0 _ rfl
  clear hw1
  refine hK2 _ _ ?_
  clear hK2 K2
  have a2 : Ag n σ (upd σ2 (n + 2) (.pointer (some ⟨w.heap.size, 0, none⟩))) := a1.upd (by omega)
  obtain ⟨σ3, hσ3⟩ : ∃ σ3, σ3 = upd σ2 (n + 2) (.pointer (some ⟨w.heap.size, 0, none⟩)) := ⟨_, rfl⟩
  have f2 : σ3 (n + 2) = .pointer (some ⟨w.heap.size, 0, none⟩) := by rw [hσ3]; exact upd_same _ _ _
  rw [← hσ3] at a2 ⊢
  clear hσ3
  have hr1 : RdAt w1 lo hi r s := hinv.rd.mod m1 (fun _ h => h) (fun _ _ _ _ h => h)
  have hrl := hinv.rd.lt
  have hhi := hinv.rd.hi_le
  refine zc fun K3 hK3 => ?_
  have done : ∀ (σ4 : Env) (w4 : World) (g : RS → List UInt8 × RS), (if fl then zic s else strR s) = g s → (∀ i, i < n + 3 → σ4 i = σ3 i) → w4.cell? ⟨w.heap.size, 0, none⟩ = some (strV (g s).1) → RdAt w4 lo hi r (g s).2 → Mod w1 w4 (orM (blk r) (blk w.heap.size)) → K3 σ4 w4 := by
   intro σ4 w4 g hg h4 hcell hr4 m4
   refine hK3 _ _ (zad fun τ => ?_)
   have f4 : σ4 (n + 2) = .pointer (some ⟨w.heap.size, 0, none⟩) := (h4 _ (by omega)).trans f2
   simp +decide (disch := omega) only [bK, bE, f4, zf, locs_envOf]
   have s4 := m4.size
   have m04 : Mod w w4 (blk r) := m1.trans m4 fun k o hk h => h.elim False.elim fun h => h.elim id fun h => by have : k = w.heap.size := h; omega
   refine fin _ w4 (.pointer (some ⟨w.heap.size, 0, none⟩)) (.nstr (some (g s).1), (g s).2) (by rw [hg]) (fun i hi => by rw [ze (by omega), h4 i (by omega)]; exact a2 i hi) (upd_same _ _ _) rfl ?_ hr4 m04
   simp only [Rep]
   exact ⟨_, rfl, .inr ⟨Nat.le_refl _, by omega⟩, zdn.2 hcell⟩
  clear hK3 fin
  have g4 : ∀ σ' : Env, (∀ i, i < n + 3 → σ' i = σ3 i) → σ' 4 = .pointer (some ⟨r, 0, none⟩) := fun σ' h => by rw [h 4 (by omega), a2 4 (by omega)]; exact hx.rd
  have g2 : ∀ σ' : Env, (∀ i, i < n + 3 → σ' i = σ3 i) → σ' 2 = .bool u := fun σ' h => by rw [h 2 (by omega), a2 2 (by omega)]; exact hx.un
  have leaf : ∀ (σ' : Env) (f : FuncId) (g : RS → List UInt8 × RS), (∀ i, i < n + 3 → σ' i = σ3 i) → zcr P f → ztg P f g → (if fl then zic s else strR s) = g s → W P loc N' (zpw N (n + 2) f) (zee K3 (zee K Q)) σ' w1 := by
   intro σ' f g h hb hok hg
   exact leaf_box B hb hok (g4 σ' h) hr1 ((h (n + 2) (by omega)).trans f2) c1 t1 (by omega) (.inr hhi) fun w' hc hr' hm => done σ' w' g hg h hc hr' hm
  have u1 : ∀ (σ' : Env) (j : Nat) (v : Value), (∀ i, i < n + 3 → σ' i = σ3 i) → n + 3 ≤ j → ∀ i, i < n + 3 → upd σ' j v i = σ3 i := fun σ' j v h hj i hi => by rw [ze (by omega)]; exact h i hi
  cases fx with
  | true =>
   simp only [if_true]
   have g6 : ∀ σ' : Env, (∀ i, i < n + 3 → σ' i = σ3 i) → σ' 6 = .bool fl := fun σ' h => by rw [h 6 (by omega), a2 6 (by omega)]; exact hx.fle rfl
   refine zku hlo (g6 _ fun _ _ => rfl) ?_
   have h3 := u1 σ3 (n + 3) (.bool fl) (fun _ _ => rfl) (by omega)
   cases fl with
   | true =>
    rw [if_pos rfl]
    refine zku hlo (g2 _ h3) ?_
    have h4 := u1 _ (n + 4) (.bool u) h3 (by omega)
    cases u with
    | true => exact leaf _ _ zic h4 (F.PReader_UnsafeCompactString (hks _ (by simp [Txt.fns]))).1.has (zfx B F (hks _ (by simp [Txt.fns]))) rfl
    | false => exact leaf _ _ zic h4 (F.PReader_CompactString (hks _ (by simp [Txt.fns]))).1.has (zis B F (hks _ (by simp [Txt.fns]))) rfl
   | false =>
    rw [if_neg (by decide)]
    refine zku hlo (g2 _ h3) ?_
    have h4 := u1 _ (n + 5) (.bool u) h3 (by omega)
    cases u with
    | true => exact leaf _ _ strR h4 (F.PReader_UnsafeString (hks _ (by simp [Txt.fns]))).1.has (zfo B F (hks _ (by simp [Txt.fns]))) rfl
    | false => exact leaf _ _ strR h4 (F.PReader_String (hks _ (by simp [Txt.fns]))).1.has (zle B F (hks _ (by simp [Txt.fns]))) rfl
  | false =>
   have hfl := hx.nofl rfl
   subst hfl
   simp only [Bool.false_eq_true, if_false]
   refine zku hlo (g2 _ fun _ _ => rfl) ?_
   have h4 := u1 σ3 (n + 3) (.bool u) (fun _ _ => rfl) (by omega)
   cases u with
   | true => exact leaf _ _ strR h4 (F.PReader_UnsafeString (hks _ (by simp [Txt.fns]))).1.has (zfo B F (hks _ (by simp [Txt.fns]))) rfl
   | false => exact leaf _ _ strR h4 (F.PReader_String (hks _ (by simp [Txt.fns]))).1.has (zle B F (hks _ (by simp [Txt.fns]))) rfl
 ·rw [decide_eq_false hv, if_neg (by decide)]
  rw [if_neg hv] at fin
  refine W_cTxt B F hlo hkn (hx.ag a1 hn) hinv.rd hn (by cases fx <;> simp <;> omega) fun σ' w' v ha hv hone hrep hr' hm => ?_
  exact fin σ' w' v _ rfl (a1.trans ha (Nat.le_refl _)) hv hone hrep hr' hm
theorem W_cGd (hlo : zec loc N') {g : Gd} {n : Nat} {c : Nat → C} {ver : Int} (h5 : σ 5 = .int .i16 ver) (hon : g.on ver = true → ∀ σ', Ag n σ σ' → W P loc N' (c (n + g.vn)) Q σ' w) (hoff : g.on ver = false → ∀ σ', Ag n σ σ' → Q .normal σ' w) : W P loc N' (cGd N g n c) Q σ w := by
 cases g with
 | all => exact hon rfl σ (Ag.refl _ _)
 | never => exact zca (hoff rfl σ (Ag.refl _ _))
 | ge m =>
  unfold cGd
  refine zc fun K hK => zad fun τ => ?_
  simp +decide (disch := omega) only [bK, bE, BEq.rfl, Nat.reduceAdd, h5, zf, zac, locs_envOf]
  refine hK _ _ (W_if hlo (upd_same _ _ _) ?_)
  have a := (Ag.refl n σ).upd (v := .bool (decide (ver ≥ m))) (Nat.le_refl n)
  by_cases hg : ver ≥ m
  ·rw [decide_eq_true hg] at a ⊢
   exact hon (by simp [Gd.on, hg]) _ a
  ·rw [decide_eq_false hg] at a ⊢
   exact zca (hoff (by simp [Gd.on]; omega) _ a)
 | btw x y =>
  unfold cGd
  refine zc fun K hK => zad fun τ => ?_
  simp +decide (disch := omega) only [bK, bE, BEq.rfl, Nat.reduceAdd, h5]
  have fin : ∀ (ρ : Env) (bb : Bool), (∀ i, ρ (i + 100) = σ i) → bb = (Gd.btw x y).on ver → K (upd (locs ρ) n (.bool bb)) w := by
   intro ρ bb hρ hb
   have e : locs ρ = σ := by funext i; exact hρ i
   rw [e]
   refine hK _ _ (W_if hlo (upd_same _ _ _) ?_)
   have a := (Ag.refl n σ).upd (v := .bool bb) (Nat.le_refl n)
   cases bb with
   | true => exact hon hb.symm _ a
   | false => exact zca (hoff hb.symm _ a)
  by_cases hg : ver ≥ x
  ·rw [decide_eq_true hg]
   refine Eq.mpr (zbi (by simp +decide only [bE, BEq.rfl])) ?_
   simp +decide (disch := omega) only [bK, bE, Nat.reduceBeqDiff, Nat.reduceAdd, h5]
   refine Eq.mpr (zbi (by simp +decide only [bE, Nat.reduceBeqDiff, BEq.rfl])) ?_
   simp +decide (disch := omega) only [bK, bE, Nat.reduceBeqDiff, BEq.rfl, if_true, zdy]
   rw [show ∀ ρ : Env, ∀ v, locs (put ρ (some (n + 100)) v) = upd (locs ρ) n v from fun ρ v => zf ρ n v]
   refine fin _ _ (fun i => by simp +decide only [bE, Nat.reduceBeqDiff]) ?_
   simp [Gd.on, hg]
  ·rw [decide_eq_false hg]
   refine Eq.mpr (zde (by simp +decide only [bE, BEq.rfl]; rfl)) ?_
   refine Eq.mpr (zde (by simp +decide only [bE, Nat.reduceBeqDiff, BEq.rfl]; rfl)) ?_
   simp +decide (disch := omega) only [bK, bE, Nat.reduceBeqDiff, BEq.rfl, if_false, zdy]
   rw [show ∀ ρ : Env, ∀ v, locs (put ρ (some (n + 100)) v) = upd (locs ρ) n v from fun ρ v => zf ρ n v]
   refine fin _ _ (fun i => by simp +decide only [bE, Nat.reduceBeqDiff]) ?_
   simp [Gd.on]; omega
end
section
variable {P : Program} {N : Nums}
mutual
def Ty.dok : Ty → Prop
 | .pr k d => (d.getD k.zero).cells.toList.length = k.sz
 | .row _ _ _ fs => fs.dok
 | _ => True
def Fds.dok : Fds → Prop
 | .cons _ t r => t.dok ∧ r.dok
 | _ => True
end
mutual
theorem Ty.ini_length : ∀ (t : Ty), t.dok → t.ini.length = t.sz
 | .pr k d, h => h
 | .txt _, _ => rfl
 | .arr .., _ => rfl
 | .row _ _ _ fs, h => Fds.ini_length fs h
 | .tv _, _ => rfl
theorem Fds.ini_length : ∀ (fs : Fds), fs.dok → fs.ini.length = fs.sz
 | .nil, _ => rfl
 | .tags _, _ => rfl
 | .cons _ t r, h => by
  simp only [Fds.ini, Fds.sz, List.length_append]
  rw [Ty.ini_length t h.1, Fds.ini_length r h.2]
end
mutual
theorem Ty.ini_rep (w : World) (G : Nat → Prop) : ∀ (t : Ty), Rep w G t.iniV t.ini
 | .pr k d => by simp only [Ty.iniV, Ty.ini, Rep]
 | .txt k => by
  cases k with
  | str => simp only [Ty.iniV, Ty.ini, Txt.iniV, Txt.zero, Rep, strV]; rfl
  | nstr => simp only [Ty.iniV, Ty.ini, Txt.iniV, Txt.zero, Rep]
  | byt => simp only [Ty.iniV, Ty.ini, Txt.iniV, Txt.zero, Rep]; exact ⟨_, rfl, rfl⟩
  | nbyt => simp only [Ty.iniV, Ty.ini, Txt.iniV, Txt.zero, Rep]; exact ⟨_, rfl, rfl⟩
 | .arr .. => by simp only [Ty.iniV, Ty.ini, Rep]
 | .tv _ => by simp only [Ty.iniV, Ty.ini, Rep]
 | .row _ _ _ fs => by
  simp only [Ty.iniV, Ty.ini, Rep]
  obtain ⟨css, h1, h2⟩ := Fds.ini_rep w G fs
  exact ⟨css, h1.symm, h2⟩
theorem Fds.ini_rep (w : World) (G : Nat → Prop) : ∀ (fs : Fds), ∃ css : List (List Value), css.flatten = fs.ini ∧ RepL w G fs.iniV css
 | .nil => ⟨[], rfl, by simp only [Fds.iniV, RepL]⟩
 | .tags _ => ⟨[[.map none]], rfl, by simp only [Fds.iniV, RepL, Rep]; exact ⟨_, _, rfl, ⟨_, rfl, .inl ⟨rfl, rfl⟩⟩, rfl⟩⟩
 | .cons _ t r => by
  obtain ⟨css, h1, h2⟩ := Fds.ini_rep w G r
  refine ⟨t.ini :: css, ?_, ?_⟩
  ·simp only [List.flatten_cons, h1, Fds.ini]
  ·simp only [Fds.iniV, RepL]
   exact ⟨_, _, rfl, Ty.ini_rep w G t, h2⟩
end
def Fds.hf (P : Program) (Tt : TypeId) : Fds → Nat → Nat → Prop
 | .nil, _, _ => True
 | .tags _, idx, off => HF P Tt idx off
 | .cons _ t r, idx, off => HF P Tt idx off ∧ r.hf P Tt (idx + 1) (off + t.sz)
def FQs (N : Nums) (lo hi r n b o sz : Nat) (szs : List Nat) (e : Value) (σ : Env) (w : World) (x : Option (List Val × RS)) (Q : Exit → Env → World → Prop) : Prop :=
 match x with
 | none => ∀ σ' w', σ' 3 = e → Mod w w' (orM (blk r) (rng b o sz)) → Q .ret σ' w'
 | some (vs, s') => ∀ σ' w' css, Ag n σ σ' → RdAt w' lo hi r s' → Mod w w' (orM (blk r) (rng b o sz)) → w'.rangeAt b o css.flatten → css.flatten.length = sz → css.map List.length = szs → RepL w' (GG lo hi w.heap.size w'.heap.size) vs css → Q .normal σ' w'
def zqd (P : Program) (N : Nums) (fx : Bool) (fs : Fds) : Prop :=
 ∀ {loc : List Nat} {N' : Nat} {Q : Exit → Env → World → Prop} {σ : Env} {w : World} {lo hi r : Nat} {s : RS} {e : Value} {u fl : Bool} {ver : Int} {is b oo : Nat} {Tt : TypeId} {idx off n k : Nat},
  zec loc N' → Cx σ fx u fl ver r → Inv N w lo hi r s e → Pl N w lo hi r b (oo + off) fs.sz → σ is = .pointer (some ⟨b, oo, none⟩) → fs.hf P Tt idx off → w.rangeAt b (oo + off) fs.ini → 7 ≤ n → is < n →
  FQs N lo hi r n b (oo + off) fs.sz fs.szs e σ w (fs.rd ver fl s) Q → WL P loc N' (fs.gen N fx is Tt idx n k) Q σ w
def FdsOkR (P : Program) (N : Nums) (fx : Bool) (fs : Fds) : Prop :=
 ∀ {loc : List Nat} {N' : Nat} {Q : Exit → Env → World → Prop} {σ : Env} {w : World} {lo hi r : Nat} {s : RS} {e : Value} {u fl : Bool} {ver : Int} {is b oo : Nat} {Tt : TypeId} {idx off n k : Nat},
  zec loc N' → Cx σ fx u fl ver r → Inv N w lo hi r s e → Pl N w lo hi r b (oo + off) fs.sz → σ is = .pointer (some ⟨b, oo, none⟩) → fs.hf P Tt idx off → w.rangeAt b (oo + off) fs.ini → 7 ≤ n → is < n →
  FQs N lo hi r n b (oo + off) fs.sz fs.szs e σ w (fs.rdR ver fl s) Q → WL P loc N' (fs.genR N fx is Tt idx n k) Q σ w
theorem fdsOk_nil {fx : Bool} : zqd P N fx .nil := by
 intro loc N' Q σ w lo hi r s e u fl ver is b oo Tt idx off n k hlo hx hinv hpl his hT hini hn hisn hQ
 exact hQ σ w [] (Ag.refl _ _) hinv.rd (.refl _ _) (fun j v hj => by simp at hj) rfl rfl (by simp only [RepL])
theorem zng {r b o n o' n' : Nat} (h1 : o ≤ o') (h2 : o' + n' ≤ o + n) : ∀ k i, orM (blk r) (rng b o' n') k i → orM (blk r) (rng b o n) k i :=
 fun _ _ h => h.imp id fun h => ⟨h.1, by have := h.2.1; omega, by have := h.2.2; omega⟩
theorem znm {fx : Bool} {t : Ty} {rest : Fds} (hr : zqd P N fx rest) {g : Gd} {loc : List Nat} {N' : Nat} {Q : Exit → Env → World → Prop} {σ σ1 : Env} {w w1 : World} {lo hi r : Nat} {s s1 : RS} {e : Value} {u fl : Bool} {ver : Int} {is b oo : Nat} {Tt : TypeId} {idx off n m k : Nat} {v : Val} {cs : List Value}
  (hlo : zec loc N') (hx : Cx σ fx u fl ver r) (hinv : Inv N w lo hi r s e) (hpl : Pl N w lo hi r b (oo + off) (t.sz + rest.sz)) (his : σ is = .pointer (some ⟨b, oo, none⟩)) (hT : rest.hf P Tt (idx + 1) (off + t.sz))
  (hini : w.rangeAt b (oo + off + t.sz) rest.ini) (hn : 7 ≤ n) (hisn : is < n) (hnm : n ≤ m)
  (ha : Ag n σ σ1) (hr1 : RdAt w1 lo hi r s1) (hm : Mod w w1 (orM (blk r) (rng b (oo + off) t.sz))) (hrg : w1.rangeAt b (oo + off) cs) (hcl : cs.length = t.sz) (hrep : Rep w1 (GG lo hi w.heap.size w1.heap.size) v cs)
  (hQ : FQs N lo hi r n b (oo + off) (t.sz + rest.sz) (t.sz :: rest.szs) e σ w (match rest.rd ver fl s1 with | none => none | some (l, s) => some (v :: l, s)) Q) :
  WL P loc N' (rest.gen N fx is Tt (idx + 1) m k) Q σ1 w1 := by
 have hbr := hpl.br
 have hbs := hpl.bs
 have hblt := hpl.lt
 have hs1 := hm.size
 have hlt := hinv.rd.lt
 have hap := hinv.rd.apart
 have hhi := hinv.rd.hi_le
 refine hr (s := s1) (e := e) (oo := oo) (off := off + t.sz) (b := b) hlo (hx.ag ha hn) (hinv.mod hpl.bg hm hr1) ((hpl.sub (by omega) (by omega)).mod hm) (by rw [ha is hisn]; exact his) hT ?_ (by omega) (by omega) ?_
 ·rw [← Nat.add_assoc]
  exact hm.rangeAt hblt (fun i h1 h2 h => h.elim hbr fun h => by have := h.2.2; omega) hini
 ·rw [← Nat.add_assoc]
  cases hrr : rest.rd ver fl s1 with
  | none =>
   rw [hrr] at hQ
   exact fun σ' w' h3 hm2 => hQ σ' w' h3 (hm.trans hm2 fun k i _ h => h.elim (zng (Nat.le_refl _) (by omega) k i) (zng (by omega) (by omega) k i))
  | some x =>
   obtain ⟨l, s2⟩ := x
   rw [hrr] at hQ
   intro σ2 w2 css ha2 hr2 hm2 hrg2 hl2 hls2 hrep2
   have hs2 := hm2.size
   refine hQ σ2 w2 (cs :: css) (ha.trans ha2 (by omega)) hr2 (hm.trans hm2 fun k i _ h => h.elim (zng (Nat.le_refl _) (by omega) k i) (zng (by omega) (by omega) k i)) ?_ (by rw [List.flatten_cons, List.length_append, hcl, hl2]) (by rw [List.map_cons, hcl, hls2]) ?_
   ·rw [List.flatten_cons, zj]
    refine ⟨hm2.rangeAt (by omega) (fun i h1 h2 h => h.elim hbr fun h => by have := h.2.1; omega) hrg, ?_⟩
    rw [hcl]; exact hrg2
   ·simp only [RepL]
    refine ⟨cs, css, rfl, Rep.mod hm2 (fun k hk => ?_) v hrep, RepL.mono (fun k hk => ?_) l hrep2⟩
    ·have hnot : k ≠ b ∧ k ≠ r ∧ k < w1.heap.size := by rcases hk with ⟨h2, h3⟩ | ⟨h2, h3⟩ <;> omega
     refine ⟨hnot.2.2, fun o h => h.elim hnot.2.1 fun h => hnot.1 h.1, ?_⟩
     rcases hk with hk | ⟨h2, h3⟩
     ·exact .inl hk
     ·exact .inr ⟨h2, by omega⟩
    ·rcases hk with hk | ⟨h2, h3⟩
     ·exact .inl hk
     ·exact .inr ⟨by omega, h3⟩
theorem fdsOk_cons {fx : Bool} {g : Gd} {t : Ty} {rest : Fds} (ht : TyOk P N fx t) (hd : t.dok) (hr : zqd P N fx rest) : zqd P N fx (.cons g t rest) := by
 intro loc N' Q σ w lo hi r s e u fl ver is b oo Tt idx off n k hlo hx hinv hpl his hT hini hn hisn hQ
 obtain ⟨hT1, hT2⟩ := hT
 have hil := Ty.ini_length t hd
 have hini' := zj.1 hini
 rw [hil] at hini'
 by_cases hnev : g.nev = true
 ·have hoff : g.on ver = false := by cases g <;> first | rfl | cases hnev
  simp only [Fds.rd, hoff, Bool.false_eq_true, if_false] at hQ
  simp only [Fds.gen, hnev, if_true, List.nil_append, Nat.add_zero]
  exact znm hr (g := g) hlo hx hinv hpl his hT2 hini'.2 hn hisn (Nat.le_refl _) (Ag.refl _ _) hinv.rd (.refl _ _) hini'.1 hil (Ty.ini_rep _ _ t) hQ
 simp only [Fds.gen, if_neg hnev, List.cons_append, List.nil_append]
 refine W_cGd hlo hx.vr (fun hon σ1 ha => ?_) (fun hoff σ1 ha => ?_)
 ·have hinv1 := hinv
  refine ht (s := s) (e := e) (oo := oo) (off := off) (b := b) hlo (hx.ag ha hn) hinv (hpl.sub (Nat.le_refl _) (by simp only [Fds.sz]; omega)) (by rw [ha is hisn]; exact his) hT1 hini'.1 (by omega) (by omega) ?_
  simp only [Fds.rd, hon, if_true] at hQ
  cases hrd : t.rd ver fl s with
  | none =>
   rw [hrd] at hQ
   exact fun σ' w' h3 hm => hQ σ' w' h3 (hm.mono fun k i _ h => zng (Nat.le_refl _) (by simp only [Fds.sz]; omega) k i h)
  | some x =>
   obtain ⟨v, s1⟩ := x
   rw [hrd] at hQ
   intro σ2 w1 cs ha2 hr1 hm hrg hcl hrep
   exact znm hr (g := g) hlo hx hinv hpl his hT2 hini'.2 hn hisn (by omega) (ha.trans ha2 (by omega)) hr1 hm hrg hcl hrep hQ
 ·simp only [Fds.rd, hoff, Bool.false_eq_true, if_false] at hQ
  exact znm hr (g := g) hlo hx hinv hpl his hT2 hini'.2 hn hisn (by omega) ha hinv.rd (.refl _ _) hini'.1 hil (Ty.ini_rep _ _ t) hQ
def TagsOk (P : Program) (N : Nums) : Prop :=
 zcr P N.zco ∧ ∀ w lo hi r s, RdAt w lo hi r s → Call P N.zco #[.pointer (some ⟨r, 0, none⟩)] w fun v w' => ∃ m, v = .agg #[m] ∧ m.oneCell' = true ∧ zmr w' (GG lo hi w.heap.size w'.heap.size) m (zqj s).1 ∧ RdAt w' lo hi r (zqj s).2 ∧ Mod w w' (blk r)
theorem zsx {fx : Bool} (j : Nat) : zqd P N fx (.tags (some j)) := by
 intro loc N' Q σ w lo hi r s e u fl ver is b oo Tt idx off n k hlo hx hinv hpl his hT hini hn hisn hQ
 refine hQ σ w [[.map none]] (Ag.refl _ _) hinv.rd (.refl _ _) hini rfl rfl ?_
 simp only [RepL, Rep]
 exact ⟨_, _, rfl, rfl, rfl⟩
theorem fdsOk_tags (B : Base P N) (hN : N.zcc ≠ 0) (hok : TagsOk P N) : zqd P N true (.tags none) := by
 intro loc N' Q σ w lo hi r s e u fl ver is b oo Tt idx off n k hlo hx hinv hpl his hT hini hn hisn hQ
 obtain ⟨⟨fs, ht⟩, _, _⟩ := B.tags hN
 have hT : HF P Tt idx off := hT
 show W P loc N' (cTags N is Tt idx n) (zee (Q .normal) Q) σ w
 refine zgm (Q := Q) ?_ fun e σ w h => by cases e <;> exact h
 unfold cTags
 refine zc fun K hK => zad fun τ => ?_
 have h6 := hx.fle rfl
 simp +decide (disch := omega) only [bK, bE, Nat.reduceAdd, h6, zf, locs_envOf]
 refine hK _ _ (W_if hlo (upd_same _ _ _) ?_)
 clear hK K
 have a : ∀ bb, Ag n σ (upd σ n (.bool bb)) := fun bb => (Ag.refl n σ).upd (Nat.le_refl n)
 cases fl with
 | false =>
  refine zca (hQ _ w [[.map none]] (a _) hinv.rd (.refl _ _) hini rfl rfl ?_)
  simp only [RepL, Rep]
  exact ⟨_, _, rfl, ⟨_, rfl, .inl ⟨rfl, rfl⟩⟩, rfl⟩
 | true =>
  rw [if_pos rfl]
  obtain ⟨σ1, hσ1⟩ : ∃ σ1, σ1 = upd σ n (.bool true) := ⟨_, rfl⟩
  rw [← hσ1]
  have ha : Ag n σ σ1 := by rw [hσ1]; exact a _
  have f4 : σ1 4 = .pointer (some ⟨r, 0, none⟩) := by rw [ha 4 (by omega)]; exact hx.rd
  have fis : σ1 is = .pointer (some ⟨b, oo, none⟩) := by rw [ha is hisn]; exact his
  refine zad fun τ => ?_
  simp +decide (disch := omega) only [bK, bE, Nat.reduceBeqDiff, BEq.rfl, fis]
  rw [zak hok.1]
  simp +decide (disch := omega) only [bK, bE, Nat.reduceBeqDiff, Nat.reduceAdd, f4]
  refine (hok.2 w lo hi r s hinv.rd).mono ?_
  rintro v w1 ⟨m, rfl, hone, htg, hr1, hm⟩
  have hpl1 := hpl.mod hm
  have st := ht.run_store (w := w1) (b := b) (o := oo + off) (v := .agg #[m]) (cs := [m]) rfl rfl hpl1.there (fun c hc => by simp at hc; subst hc; exact hone)
  rw [zaa (a := ⟨b, oo, none⟩) (by simp +decide only [bK, bE, Nat.reduceBeqDiff, BEq.rfl])]
  simp +decide (disch := omega) only [bK, bE, Nat.reduceBeqDiff, BEq.rfl, hT.run, st, zac, locs_envOf]
  have ms : Mod w1 (w1.setCells b (oo + off) [m]) (rng b (oo + off) 1) := Mod.setCells _ _ _ fun _ i h2 h3 => ⟨rfl, h2, h3⟩
  have hbr := hpl.br
  have hbs := hpl.bs
  have hblt := hpl.lt
  have hs1 := hm.size
  have hap := hinv.rd.apart
  have hhi := hinv.rd.hi_le
  have hini1 : w1.rangeAt b (oo + off) [.map none] := hm.rangeAt hblt (fun i _ _ e => hbr e) hini
  have hrg := zah [m] (oo + off) w1 _ hini1 (Nat.le_refl _)
  refine hQ σ1 _ [[m]] ha (hr1.mod ms (fun o e => hbr e.1.symm) (fun k o h2 h3 e => by have : k = b := e.1; omega)) (hm.trans ms fun k o _ h => h) hrg rfl rfl ?_
  simp only [RepL, Rep]
  refine ⟨_, _, rfl, ⟨m, rfl, htg.mod ms fun k hk => ?_⟩, rfl⟩
  have hsz2 : (w1.setCells b (oo + off) [m]).heap.size = w1.heap.size := by simp [World.setCells, World.setCell]
  have hnot : k ≠ b ∧ k < w1.heap.size := by rcases hk with ⟨h2, h3⟩ | ⟨h2, h3⟩ <;> omega
  refine ⟨hnot.2, fun o h => hnot.1 h.1, ?_⟩
  rw [hsz2]; exact hk
end
section
variable {P : Program} {N : Nums}
def zs (z : List Value) (n : Nat) : List Value := (List.replicate n z).flatten
theorem zix (z : List Value) (n : Nat) : (zs z n).length = n * z.length := by simp [zs]
theorem zsc (z : List Value) (n : Nat) : zs z (n + 1) = z ++ zs z n := by simp [zs, List.replicate_succ]
theorem zej (z : Array Value) (n : Nat) : (Builtin.zeroCells z n).toList = zs z.toList n := by
 induction n with
 | zero => simp [Builtin.zeroCells, zs]
 | succ n ih =>
  have e : zs z.toList (n + 1) = zs z.toList n ++ z.toList := by
   simp [zs, List.replicate_succ']
  rw [e, ← ih]
  unfold Builtin.zeroCells
  apply List.ext_getElem
  ·simp [Nat.succ_mul]
  ·intro i h1 h2
   simp only [Array.toList_map, Array.toList_range, List.getElem_map, List.getElem_range]
   rw [List.getElem_append]
   split
   ·rename_i h
    simp at h
    simp
   ·rename_i h
    simp only [List.length_map, List.length_range, Nat.not_lt] at h
    have hi : i < (n + 1) * z.size := by simpa using h1
    have hm : i % z.size = i - n * z.size := by
     have h3 : i - n * z.size < z.size := by rw [Nat.succ_mul] at hi; omega
     have h4 : i = (i - n * z.size) + n * z.size := by omega
     rw [h4, Nat.add_mul_mod_self_right, Nat.mod_eq_of_lt h3]; omega
    have hlt : i - n * z.size < z.size := by rw [Nat.succ_mul] at hi; omega
    simp [hm, hlt]
theorem run_grow (B : Base P N) {ad : Option Addr} {st et ty : TypeId} {a b sz by' : Nat} {z z' : Value} {d : TypeDesc} (hS : TI P st (.slice et) a b z') (ht : TI P et d sz by' z) {w : World} {L : Nat} (hL : 0 < L) (hL2 : L < 2147483648) (hsz : 0 < sz) (hb : by' ≤ 131072) (hz : z.cells.size = sz) :
  ∃ cap rest, L ≤ cap ∧ (Builtin.append_ #[st, N.zbz] ty #[.slice ad 0 0, .int .i32 L]).run P w = .ok (.slice (some ⟨w.heap.size, 0, none⟩) L cap) (w.drew.alloc (.cells (zs z.cells.toList L ++ rest).toArray et)) := by
 obtain ⟨i, hi, h1, h2, h3⟩ := ht.info
 have hmul : L * by' ≤ 2147483648 * 131072 := Nat.mul_le_mul (by omega) hb
 have e48 : (2147483648 * 131072 : Nat) = 281474976710656 := by decide
 rw [e48] at hmul
 have hw : IntKind.i64.wrap (L : Int) = L := zcw (by omega) (by omega)
 have n1 : ¬ ((L : Int) < 0) := by omega
 have n2 : ¬ (281474976710656 < (L : Int) * (by' : Int)) := by
  rw [← Int.natCast_mul]
  have h := Int.ofNat_le.2 hmul
  exact Int.not_lt.2 h
 have n3 : L * sz ≠ 0 := Nat.mul_ne_zero (by omega) (by omega)
 have n4 : ¬ (9223372036854775807 < (L : Int)) := by omega
 have n5 : ¬ (281474976710656 < L * by') := by omega
 have n6 : L ≠ 0 := by omega
 have n7 : sz ≠ 0 := by omega
 refine ⟨grownCap w L 0 et, zs z.cells.toList (grownCap w L 0 et - L), grownCap_ge w L 0 et, ?_⟩
 have hnc : Builtin.nextslicecap L 0 = L := by unfold Builtin.nextslicecap; rw [if_pos (by omega)]
 have hfc : (Builtin.firstCells sz 0 (.slice ad 0 0)).run P w.drew = .ok #[] w.drew := by
  cases ad with
  | none => rfl
  | some a => simp [Builtin.firstCells]; rfl
 simp [Builtin.append_, run_underlying hS.und, run_underlying B.int32.und, sizeOf, typeInfo, zeroValue, hi, h1, h2, h3, asInt, asIntOf, hw, n1, n2, n3, n4, n5, n6, hnc, hfc, Question.forced, newRow, grownCap]
 congr 2
 apply Array.ext'
 simp [zej]
end
section
variable {P : Program} {N : Nums}
def El.ty (N : Nums) : El → TypeId
 | .pr k => k.t N
 | .txt k => k.t N
 | .row T _ _ _ => T
def El.zero : El → List Value
 | .pr k => k.zero.cells.toList
 | .txt k => [k.zero]
 | .row _ _ _ fs => fs.zero
def ElOk (P : Program) (N : Nums) (fx : Bool) (el : El) : Prop :=
 ∀ {loc : List Nat} {N' : Nat} {Q : Exit → Env → World → Prop} {σ : Env} {w : World} {lo hi r : Nat} {s : RS} {e : Value} {u fl : Bool} {ver : Int} {ia ii b j len c n k : Nat} {st : TypeId} {a1 a2 : Nat} {z2 : Value},
  zec loc N' → Cx σ fx u fl ver r → Inv N w lo hi r s e → Pl N w lo hi r b (j * el.sz) el.sz → σ ia = .slice (some ⟨b, 0, none⟩) len c → σ ii = .int .i32 j → j < len → TI P st (.slice (el.ty N)) a1 a2 z2 →
  w.rangeAt b (j * el.sz) el.zero → 7 ≤ n → ia < n → ii < n → FQ N lo hi r n b (j * el.sz) el.sz e σ w (el.rd ver fl s) Q → WL P loc N' (el.gen N fx ia ii st n k) Q σ w
theorem stored {Q : Exit → Env → World → Prop} {σ : Env} {w : World} {lo hi r n b o sz : Nat} {v : Value} {x : Val} {e : Value} {s' : RS} {σ0 : Env} {w0 : World} {ini : List Value}
  (hl : v.cells.toList.length = sz) (hpl : Pl N w0 lo hi r b o sz) (hini : w0.rangeAt b o ini) (hil : ini.length = sz)
  (hA : Ag n σ0 σ) (hm : Mod w0 w (blk r)) (hr : RdAt w lo hi r s') (hrep : Rep w (GG lo hi w0.heap.size w.heap.size) x v.cells.toList)
  (hQ : FQ N lo hi r n b o sz e σ0 w0 (some (x, s')) Q) : Q .normal σ (w.setCells b o v.cells.toList) := by
 have hpl' := hpl.mod hm
 have ms : Mod w (w.setCells b o v.cells.toList) (rng b o sz) := Mod.setCells _ _ _ fun _ i h2 h3 => ⟨rfl, h2, by omega⟩
 have hini' : w.rangeAt b o ini := hm.rangeAt hpl.lt (fun i _ _ e => hpl.br e) hini
 have hrg := zah v.cells.toList o w ini hini' (by omega)
 rw [List.drop_of_length_le (by omega), List.append_nil] at hrg
 have hbs := hpl.bs
 have hblt := hpl.lt
 have hbr := hpl.br
 have hsz := hm.size
 refine hQ σ _ _ hA (hr.mod ms (fun o e => hpl.br e.1.symm) (fun k o h2 h3 e => by have : k = b := e.1; omega)) (hm.trans ms fun k o _ h => h) hrg hl ?_
 have hsz2 : (w.setCells b o v.cells.toList).heap.size = w.heap.size := by
  have hg : ∀ (cs : List Value) (o : Nat) (w : World), (w.setCells b o cs).heap.size = w.heap.size := by
   intro cs
   induction cs with
   | nil => intro o w; rfl
   | cons c cs ih => intro o w; show ((w.setCell ⟨b, o, none⟩ c).setCells b (o + 1) cs).heap.size = _; rw [ih]; simp [World.setCell]
  exact hg _ _ _
 refine Rep.mod ms (fun k hk => ?_) x hrep
 have hhi := hr.hi_le
 rcases hk with ⟨h2, h3⟩ | ⟨h2, h3⟩
 ·exact ⟨by omega, fun o e => by have : k = b := e.1; omega, .inl ⟨h2, h3⟩⟩
 ·exact ⟨by omega, fun o e => by have : k = b := e.1; omega, .inr ⟨h2, by omega⟩⟩
theorem WL_two {loc : List Nat} {N' : Nat} {Q : Exit → Env → World → Prop} {σ : Env} {w : World} {x y : C} (h : ∀ K : Env → World → Prop, (∀ σ w, W P loc N' y Q σ w → K σ w) → W P loc N' x (zee K Q) σ w) : WL P loc N' [x, y] Q σ w :=
 h _ fun _ _ h => zgm h fun e σ w hq => by cases e <;> exact hq
theorem elOk_pr (B : Base P N) (F : Fns P N) {fx : Bool} {k : PK} (hk : k.f N ≠ 0) (hu : k.nt N) (hen : k.isEn = false) (hz : k.zero.cells.toList.length = k.sz) : ElOk P N fx (.pr k) := by
 intro loc N' Q σ w lo hi r s e u fl ver ia ii b j len c n kb st a1 a2 z2 hlo hx hinv hpl hia hii hj hS hini hn hian hiin hQ
 refine WL_two fun K hK => W_get B F hk hu hen hx.rd hinv.rd fun σ' w' ha hs hr' hm => hK _ _ ?_
 obtain ⟨dd, by', ht⟩ := pk_ti B k hu (fun t e => by rw [e] at hen; cases hen)
 exact W_storeE hS ht hs (by rw [ha ia hian]; exact hia) (by rw [ha ii hiin]; exact hii) hj (cs := (k.rd s).1.cells.toList) (by simp) (zkd k s).len (zkd k s).one (hpl.mod hm).there
  (stored (x := .num (k.rd s).1) (zkd k s).len hpl hini hz ha hm hr' (by simp only [Rep]) hQ)
theorem elOk_txt (B : Base P N) (F : Fns P N) {fx : Bool} {k : Txt} (hk : ∀ f ∈ k.fns N fx, f ≠ 0) (hp : k = .nstr → N.zbj ≠ 0) : ElOk P N fx (.txt k) := by
 intro loc N' Q σ w lo hi r s e u fl ver ia ii b j len c n kb st a1 a2 z2 hlo hx hinv hpl hia hii hj hS hini hn hian hiin hQ
 refine zau fun K hK => zap (hK _ _ ?_)
 clear hK K
 have a0 : Ag n σ (upd σ n k.zero) := (Ag.refl n σ).upd (Nat.le_refl _)
 refine WL_two fun K hK => W_cTxt B F hlo hk (hx.ag a0 hn) hinv.rd hn (by omega) fun σ' w' v ha hv hone hrep hr' hm => hK _ _ ?_
 clear hK K
 obtain ⟨dd, by', ht⟩ := txt_ti B hp
 have ha' := a0.trans ha (Nat.le_refl _)
 have hc := zbt hone
 have hs : zgl P (.move (V n)) σ' w' v := by rw [← hv]; exact zgl.move
 exact W_storeE hS ht hs (by rw [ha' ia hian]; exact hia) (by rw [ha' ii hiin]; exact hii) hj (cs := v.cells.toList) (by simp) (by rw [hc]; rfl) (by rw [hc]; intro c hc'; simp at hc'; subst hc'; exact hone) (hpl.mod hm).there
  (stored (by rw [hc]; rfl) hpl hini rfl ha' hm hr' (by rw [hc]; exact hrep) hQ)
def DfOk (P : Program) (f : FuncId) (fs : Fds) : Prop :=
 zcr P f ∧ ∀ w b o, w.there b o fs.sz → b < w.heap.size → w.rangeAt b o fs.zero → Call P f #[.pointer (some ⟨b, o, none⟩)] w fun _ w' => Mod w w' (rng b o fs.sz) ∧ w'.rangeAt b o fs.ini
theorem elOk_row {fx : Bool} {T' pT : TypeId} {f : FuncId} {fs : Fds} {d : TypeDesc} {by' : Nat} {z : Value} (ht : TI P T' d fs.sz by' z) (hf : DfOk P f fs) (hfs : FdsOkR P N fx fs) (hhf : fs.hf P T' 0 0) : ElOk P N fx (.row T' pT f fs) := by
 intro loc N' Q σ w lo hi r s e u fl ver ia ii b j len c n kb st a1 a2 z2 hlo hx hinv hpl hia hii hj hS hini hn hian hiin hQ
 have hix := fun w' => zx (w := w') hS (he := ht) (bl := b) (o := 0) (n := len) (c := c) (i := j) (k := .i32) hj
 refine zau fun K hK => zad fun τ => ?_
 simp +decide (disch := omega) only [bK, bE, Nat.reduceBeqDiff, BEq.rfl, Nat.zero_add, hia, hii, hix, zf, zac, locs_envOf]
 refine hK _ _ ?_
 clear hK K
 obtain ⟨σ1, hσ1⟩ : ∃ σ1, σ1 = upd σ n (.pointer (some ⟨b, j * fs.sz, none⟩)) := ⟨_, rfl⟩
 have ha1 : Ag n σ σ1 := by rw [hσ1]; exact (Ag.refl n σ).upd (Nat.le_refl n)
 have f1 : σ1 n = .pointer (some ⟨b, j * fs.sz, none⟩) := by rw [hσ1]; exact upd_same _ _ _
 have hgen : ∀ {l : List C}, WL P loc N' l Q σ1 w → WL P loc N' l Q (upd σ n (.pointer (some ⟨b, j * fs.sz, none⟩))) w := fun h => hσ1 ▸ h
 refine hgen ?_
 clear hgen hσ1
 refine zau fun K hK => zad fun τ => ?_
 simp +decide (disch := omega) only [bK, bE, f1]
 rw [zak hf.1]
 simp +decide (disch := omega) only [bK, bE, BEq.rfl]
 refine (hf.2 w b (j * fs.sz) hpl.there hpl.lt hini).mono ?_
 rintro _ w1 ⟨hm1, hini1⟩
 simp +decide (disch := omega) only [zac, locs_envOf]
 refine hK _ _ ?_
 clear hK K
 refine zau fun K hK => zeu (hK _ _ ?_)
 clear hK K
 rw [f1]
 obtain ⟨σ2, hσ2⟩ : ∃ σ2, σ2 = upd σ1 (n + 1) (.pointer (some ⟨b, j * fs.sz, none⟩)) := ⟨_, rfl⟩
 have ha2 : Ag n σ σ2 := by rw [hσ2]; exact ha1.upd (by omega)
 have f2 : σ2 (n + 1) = .pointer (some ⟨b, j * fs.sz, none⟩) := by rw [hσ2]; exact upd_same _ _ _
 rw [← hσ2]
 clear hσ2
 have hbr := hpl.br
 have hbs := hpl.bs
 have hblt := hpl.lt
 have hm1' : Mod w w1 (orM (blk r) (rng b (j * fs.sz) fs.sz)) := hm1.mono fun _ _ _ h => .inr h
 have hr1 : RdAt w1 lo hi r s := hinv.rd.mod hm1 (fun o h => hbr h.1.symm) (fun k o h2 h3 h => by have : k = b := h.1; omega)
 show WL P loc N' (fs.genR N fx (n + 1) T' 0 (n + 2) kb) Q σ2 w1
 refine hfs (s := s) (e := e) (oo := j * fs.sz) (off := 0) (b := b) hlo (hx.ag ha2 hn) (hinv.mod hpl.bg hm1' hr1) (hpl.mod hm1) f2 hhf hini1 (by omega) (by omega) ?_
 show FQs N lo hi r (n + 2) b (j * fs.sz) fs.sz fs.szs e σ2 w1 (fs.rdR ver fl s) Q
 rw [El.rd] at hQ
 have hQ : FQ N lo hi r n b (j * fs.sz) fs.sz e σ w (match fs.rdR ver fl s with | none => none | some (l, s) => some (.row l, s)) Q := hQ
 cases hrd : fs.rdR ver fl s with
 | none =>
  rw [hrd] at hQ
  exact fun σ' w' h3 hm => hQ σ' w' h3 (hm1'.trans' hm)
 | some x =>
  obtain ⟨l, s'⟩ := x
  rw [hrd] at hQ
  intro σ3 w3 css ha3 hr3 hm3 hrg3 hl3 _ hrep3
  have hs1 := hm1.size
  refine hQ σ3 w3 css.flatten (ha2.trans ha3 (by omega)) hr3 (hm1'.trans' hm3) hrg3 hl3 ?_
  simp only [Rep]
  exact ⟨css, rfl, RepL.mono (fun k hk => hk.imp id fun h => ⟨by omega, h.2⟩) l hrep3⟩
theorem tyOk_row {fx : Bool} {T' pT : TypeId} {f : FuncId} {fs : Fds} (hf : DfOk P f fs) (hfs : zqd P N fx fs) (hhf : fs.hf P T' 0 0) (hzi : fs.zero = fs.ini) : TyOk P N fx (.row T' pT f fs) := by
 intro loc N' Q σ w lo hi r s e u fl ver is b oo Tt idx off n kb hlo hx hinv hpl his hT hini hn hisn hQ
 rw [Ty.gen]
 refine zho (by simp) ?_
 refine zau fun K hK => zad fun τ => ?_
 simp +decide (disch := omega) only [bK, bE, BEq.rfl, his]
 rw [zaa rfl]
 simp +decide (disch := omega) only [bK, bE, BEq.rfl, hT.run, zf, zac, locs_envOf]
 refine hK _ _ ?_
 clear hK K
 obtain ⟨σ1, hσ1⟩ : ∃ σ1, σ1 = upd σ n (.pointer (some ⟨b, oo + off, none⟩)) := ⟨_, rfl⟩
 have ha1 : Ag n σ σ1 := by rw [hσ1]; exact (Ag.refl n σ).upd (Nat.le_refl n)
 have f1 : σ1 n = .pointer (some ⟨b, oo + off, none⟩) := by rw [hσ1]; exact upd_same _ _ _
 rw [← hσ1]
 clear hσ1
 have hpl : Pl N w lo hi r b (oo + off) fs.sz := hpl
 have hini : w.rangeAt b (oo + off) fs.ini := hini
 refine zau fun K hK => zad fun τ => ?_
 simp +decide (disch := omega) only [bK, bE, f1]
 rw [zak hf.1]
 simp +decide (disch := omega) only [bK, bE, BEq.rfl]
 refine (hf.2 w b (oo + off) hpl.there hpl.lt (by rw [hzi]; exact hini)).mono ?_
 rintro _ w1 ⟨hm1, hini1⟩
 simp +decide (disch := omega) only [zac, locs_envOf]
 refine hK _ _ ?_
 clear hK K
 refine zau fun K hK => zeu (hK _ _ ?_)
 clear hK K
 rw [f1]
 obtain ⟨σ2, hσ2⟩ : ∃ σ2, σ2 = upd σ1 (n + 1) (.pointer (some ⟨b, oo + off, none⟩)) := ⟨_, rfl⟩
 have ha2 : Ag n σ σ2 := by rw [hσ2]; exact ha1.upd (by omega)
 have f2 : σ2 (n + 1) = .pointer (some ⟨b, oo + off, none⟩) := by rw [hσ2]; exact upd_same _ _ _
 rw [← hσ2]
 clear hσ2
 have hbr := hpl.br
 have hbs := hpl.bs
 have hblt := hpl.lt
 have hm1' : Mod w w1 (orM (blk r) (rng b (oo + off) fs.sz)) := hm1.mono fun _ _ _ h => .inr h
 have hr1 : RdAt w1 lo hi r s := hinv.rd.mod hm1 (fun o h => hbr h.1.symm) (fun k o h2 h3 h => by have : k = b := h.1; omega)
 refine hfs (s := s) (e := e) (oo := oo + off) (off := 0) (b := b) hlo (hx.ag ha2 hn) (hinv.mod hpl.bg hm1' hr1) (hpl.mod hm1) f2 hhf hini1 (by omega) (by omega) ?_
 show FQs N lo hi r (n + 2) b (oo + off) fs.sz fs.szs e σ2 w1 (fs.rd ver fl s) Q
 rw [Ty.rd] at hQ
 have hQ : FQ N lo hi r n b (oo + off) fs.sz e σ w (match fs.rd ver fl s with | none => none | some (l, s) => some (.row l, s)) Q := hQ
 cases hrd : fs.rd ver fl s with
 | none =>
  rw [hrd] at hQ
  exact fun σ' w' h3 hm => hQ σ' w' h3 (hm1'.trans' hm)
 | some x =>
  obtain ⟨l, s'⟩ := x
  rw [hrd] at hQ
  intro σ3 w3 css ha3 hr3 hm3 hrg3 hl3 _ hrep3
  have hs1 := hm1.size
  refine hQ σ3 w3 css.flatten (ha2.trans ha3 (by omega)) hr3 (hm1'.trans' hm3) hrg3 hl3 ?_
  simp only [Rep]
  exact ⟨css, rfl, RepL.mono (fun k hk => hk.imp id fun h => ⟨by omega, h.2⟩) l hrep3⟩
end
end Go.Kf
