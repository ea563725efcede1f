/- A part of the calculus by which the claim's proof goes: over any program and any numbering of its functions; no condition beyond those that each theorem names. -/
import Derived.Test.YtgmhkfdpdbecmaaGreatDoorKe
set_option linter.unusedSimpArgs false
set_option linter.unusedVariables false
namespace Go.Kf
open Go Go.RowKit
section
variable {P : Program} {N : Nums} {A : zdp}
theorem fixB1 (n : Int) : [u8of n] = fixB n 1 := by
 have e : n.fdiv 1 = n := Int.fdiv_one n
 simp only [fixB, u8of, Nat.mul_zero, Int.pow_zero, e]
theorem fixB4 (n : Int) : [u8of (n.fdiv (2 ^ min 24 IntKind.u32.bits)), u8of (n.fdiv (2 ^ min 16 IntKind.u32.bits)), u8of (n.fdiv (2 ^ min 8 IntKind.u32.bits)), u8of n] = fixB n 4 := by
 have e : n.fdiv 1 = n := Int.fdiv_one n
 simp only [fixB, u8of, Nat.mul_zero, Int.pow_zero, e]
 rfl
theorem wrap_mod2 (K : IntKind) (m : Int) : K.wrap m % 2 ^ K.bits = m % 2 ^ K.bits := by
 unfold IntKind.wrap
 simp only
 split
 ·rw [Int.sub_emod, Int.emod_self, Int.sub_zero, Int.emod_emod_of_dvd _ (Int.dvd_refl _), Int.emod_emod_of_dvd _ (Int.dvd_refl _)]
 ·rw [Int.emod_emod_of_dvd _ (Int.dvd_refl _)]
theorem zkn {K : IntKind} {k : Nat} (hk : K.bits = 8 * k) (n : Int) : fixB (K.wrap n) k = fixB n k := by
 refine zpw ?_
 have hp : ((256 ^ k : Nat) : Int) = (2 : Int) ^ K.bits := by
  rw [hk, show (256 : Nat) = 2 ^ 8 from rfl, ← Nat.pow_mul, Int.natCast_pow]; rfl
 rw [hp]; exact wrap_mod2 K n
theorem ap_Int8 (B : Base P N) (h : FOk P A.zid 2 (zmm N A) [.var 2]) (n : Int) : ApF P A.zid (.int .i8 n) (fixB n 1) := by
 intro w lo v l ho hlo hb
 refine h.call rfl fun loc N' hlo' => ?_
 unfold zmm
 refine zd fun K hK => zj fun τ => ?_
 simp +decide only [bK, Nat.reduceAdd]
 refine hK _ _ (zc fun σ1 hσ => ?_)
 have a0 := hσ 0
 have a1 := hσ 1
 simp +decide only [bE, Nat.reduceBeqDiff, Nat.reduceAdd, Nat.zero_add, zdc, zcm] at a0 a1
 clear hσ hK K
 have e6 : ∀ ρ : Env, (#[(0, T 2)] : Array (Nat × Operand)).map (fun p => (p.1, ev ρ p.2)) = #[(0, ρ 2)] := fun ρ => by simp
 obtain ⟨v', w', h1, h2⟩ := zjc (ty := N.za) (s := [u8of n]) B ho hlo hb
 have h1 : (Builtin.append_ #[N.za, N.za] N.za #[v, .slice (some ⟨w.heap.size, 0, none⟩) 1 1]).run P (w.alloc (.cells ([u8of n].map zy).toArray N.zg)) = .ok v' w' := h1
 refine zd fun K hK => zj fun τ => ?_
 simp +decide only [bK, bE, Nat.reduceBeqDiff, BEq.rfl, Nat.reduceAdd, Nat.zero_add, a0, a1, e6, zaq B.int8 B.uint8 ⟨_, rfl⟩, zrp, zrl B, h1]
 refine hK _ _ (zc fun σ2 hσ => zay ?_)
 have b2 := hσ 2
 simp +decide only [bE, BEq.rfl, Nat.reduceAdd] at b2
 exact ⟨.inr rfl, _, rfl, by rw [b2, ← fixB1]; exact h2⟩
theorem ap_Uint32 (B : Base P N) (h : FOk P A.zep 2 (zfi N A) [.var 2]) (n : Int) : ApF P A.zep (.int .u32 n) (fixB n 4) := by
 intro w lo v l ho hlo hb
 refine h.call rfl fun loc N' hlo' => ?_
 unfold zfi
 refine zd fun K hK => zj fun τ => ?_
 simp +decide only [bK, Nat.reduceAdd]
 refine hK _ _ (zc fun σ1 hσ => ?_)
 have a0 := hσ 0
 have a1 := hσ 1
 simp +decide only [bE, Nat.reduceBeqDiff, Nat.reduceAdd, Nat.zero_add, zdc, zcm] at a0 a1
 clear hσ hK K
 have e6 : ∀ ρ : Env, (#[(0, T 3), (1, T 6), (2, T 9), (3, T 11)] : Array (Nat × Operand)).map (fun p => (p.1, ev ρ p.2)) = #[(0, ρ 3), (1, ρ 6), (2, ρ 9), (3, ρ 11)] := fun ρ => by simp
 obtain ⟨v', w', h1, h2⟩ := zjc (ty := N.za) (s := [u8of (n.fdiv (2 ^ min 24 IntKind.u32.bits)), u8of (n.fdiv (2 ^ min 16 IntKind.u32.bits)), u8of (n.fdiv (2 ^ min 8 IntKind.u32.bits)), u8of n]) B ho hlo hb
 have h1 : (Builtin.append_ #[N.za, N.za] N.za #[v, .slice (some ⟨w.heap.size, 0, none⟩) 4 4]).run P (w.alloc (.cells ([u8of (n.fdiv (2 ^ min 24 IntKind.u32.bits)), u8of (n.fdiv (2 ^ min 16 IntKind.u32.bits)), u8of (n.fdiv (2 ^ min 8 IntKind.u32.bits)), u8of n].map zy).toArray N.zg)) = .ok v' w' := h1
 refine zd fun K hK => zj fun τ => ?_
 simp +decide only [bK, bE, Nat.reduceBeqDiff, BEq.rfl, Nat.reduceAdd, Int.reduceToNat, Nat.zero_add, a0, a1, e6, zdu (show (0 : Int) ≤ 24 by decide), zdu (show (0 : Int) ≤ 16 by decide), zdu (show (0 : Int) ≤ 8 by decide), zaq B.uint32 B.uint8 ⟨_, rfl⟩, zrp, run_bsL4 B, h1]
 refine hK _ _ (zc fun σ2 hσ => zay ?_)
 have b2 := hσ 2
 simp +decide only [bE, BEq.rfl, Nat.reduceAdd] at b2
 exact ⟨.inr rfl, _, rfl, by rw [b2, ← fixB4]; exact h2⟩
theorem zwf (B : Base P N) (hU : FOk P A.zdo 2 (zeq N A) [.var 2]) (h : FOk P A.zdd 2 (zga N A) [.var 2]) (n : Int) : ApF P A.zdd (.int .i16 n) (fixB n 2) := by
 intro w lo v l ho hlo hb
 refine h.call rfl fun loc N' hlo' => ?_
 unfold zga
 refine zd fun K hK => zj fun τ => ?_
 simp +decide only [bK, Nat.reduceAdd]
 refine hK _ _ (zc fun σ1 hσ => ?_)
 have a0 := hσ 0
 have a1 := hσ 1
 simp +decide only [bE, Nat.reduceBeqDiff, Nat.reduceAdd, Nat.zero_add, zdc, zcm] at a0 a1
 clear hσ hK K
 refine zd fun K hK => zj fun τ => ?_
 simp +decide only [bK, bE, Nat.reduceBeqDiff, BEq.rfl, Nat.reduceAdd, Nat.zero_add, a0, a1, zaq B.int16 B.uint16 ⟨_, rfl⟩]
 rw [zan hU.has]
 simp +decide only [bK, bE, Nat.reduceBeqDiff, BEq.rfl]
 refine (zyi B hU (IntKind.u16.wrap n) ho hlo (by rw [zcb] at hb ⊢; exact hb)).mono ?_
 rw [zkn (k := 2) rfl]
 intro v' w' h2
 refine hK _ _ (zc fun σ2 hσ => zay ?_)
 have b2 := hσ 2
 simp +decide only [bE, BEq.rfl, Nat.reduceAdd] at b2
 exact ⟨.inr rfl, _, rfl, by rw [b2]; exact h2⟩
theorem zrq (B : Base P N) (hU : FOk P A.zep 2 (zfi N A) [.var 2]) (h : FOk P A.zcu 2 (zhb N A) [.var 2]) (n : Int) : ApF P A.zcu (.int .i32 n) (fixB n 4) := by
 intro w lo v l ho hlo hb
 refine h.call rfl fun loc N' hlo' => ?_
 unfold zhb
 refine zd fun K hK => zj fun τ => ?_
 simp +decide only [bK, Nat.reduceAdd]
 refine hK _ _ (zc fun σ1 hσ => ?_)
 have a0 := hσ 0
 have a1 := hσ 1
 simp +decide only [bE, Nat.reduceBeqDiff, Nat.reduceAdd, Nat.zero_add, zdc, zcm] at a0 a1
 clear hσ hK K
 refine zd fun K hK => zj fun τ => ?_
 simp +decide only [bK, bE, Nat.reduceBeqDiff, BEq.rfl, Nat.reduceAdd, Nat.zero_add, a0, a1, zaq B.int32 B.uint32 ⟨_, rfl⟩]
 rw [zan hU.has]
 simp +decide only [bK, bE, Nat.reduceBeqDiff, BEq.rfl]
 refine (ap_Uint32 B hU (IntKind.u32.wrap n) ho hlo (by rw [zcb] at hb ⊢; exact hb)).mono ?_
 rw [zkn (k := 4) rfl]
 intro v' w' h2
 refine hK _ _ (zc fun σ2 hσ => zay ?_)
 have b2 := hσ 2
 simp +decide only [bE, BEq.rfl, Nat.reduceAdd] at b2
 exact ⟨.inr rfl, _, rfl, by rw [b2]; exact h2⟩
theorem zzx (B : Base P N) (hU : FOk P A.zep 2 (zfi N A) [.var 2]) (hI : FOk P A.zcu 2 (zhb N A) [.var 2]) (h : FOk P A.zcq 2 (zih N A) [.var 2]) (n : Int) : ApF P A.zcq (.int .i64 n) (fixB n 4) := by
 intro w lo v l ho hlo hb
 refine h.call rfl fun loc N' hlo' => ?_
 unfold zih
 refine zd fun K hK => zj fun τ => ?_
 simp +decide only [bK, Nat.reduceAdd]
 refine hK _ _ (zc fun σ1 hσ => ?_)
 have a0 := hσ 0
 have a1 := hσ 1
 simp +decide only [bE, Nat.reduceBeqDiff, Nat.reduceAdd, Nat.zero_add, zdc, zcm] at a0 a1
 clear hσ hK K
 refine zd fun K hK => zj fun τ => ?_
 simp +decide only [bK, bE, Nat.reduceBeqDiff, BEq.rfl, Nat.reduceAdd, Nat.zero_add, a0, a1, zaq B.int B.int32 ⟨_, rfl⟩]
 rw [zan hI.has]
 simp +decide only [bK, bE, Nat.reduceBeqDiff, BEq.rfl]
 refine (zrq B hU hI (IntKind.i32.wrap n) ho hlo (by rw [zcb] at hb ⊢; exact hb)).mono ?_
 rw [zkn (k := 4) rfl]
 intro v' w' h2
 refine hK _ _ (zc fun σ2 hσ => zay ?_)
 have b2 := hσ 2
 simp +decide only [bE, BEq.rfl, Nat.reduceAdd] at b2
 exact ⟨.inr rfl, _, rfl, by rw [b2]; exact h2⟩
theorem zvb {n : Nat} (hn : n < 4294967295) : IntKind.u32.wrap (1 + IntKind.u32.wrap (n : Int)) = ((n + 1 : Nat) : Int) := by
 have e : ∀ m : Int, IntKind.u32.wrap m = m % 4294967296 := fun m => by simp [IntKind.wrap, IntKind.signed, IntKind.bits]
 rw [e, e]; omega
theorem zyl (B : Base P N) (hU : UvT P N A) (h : FOk P A.zbg 2 (zfd N A) [.var 2]) {n : Nat} (hn : n < 4294967295) : ApF P A.zbg (.int .i64 n) (uvB (n + 1)) := by
 intro w lo v l ho hlo hb
 refine h.call rfl fun loc N' hlo' => ?_
 unfold zfd
 refine zd fun K hK => zj fun τ => ?_
 simp +decide only [bK, Nat.reduceAdd]
 refine hK _ _ (zc fun σ1 hσ => ?_)
 have a0 := hσ 0
 have a1 := hσ 1
 simp +decide only [bE, Nat.reduceBeqDiff, Nat.reduceAdd, Nat.zero_add, zdc, zcm] at a0 a1
 clear hσ hK K
 refine zd fun K hK => zj fun τ => ?_
 simp +decide only [bK, bE, Nat.reduceBeqDiff, BEq.rfl, Nat.reduceAdd, Nat.zero_add, a0, a1, zaq B.int B.uint32 ⟨_, rfl⟩, zvb hn]
 rw [zan hU.uv.has]
 simp +decide only [bK, bE, Nat.reduceBeqDiff, BEq.rfl]
 refine (zyh B hU (n := n + 1) (by omega) ho hlo hb).mono ?_
 intro v' w' h2
 refine hK _ _ (zc fun σ2 hσ => zay ?_)
 have b2 := hσ 2
 simp +decide only [bE, BEq.rfl, Nat.reduceAdd] at b2
 exact ⟨.inr rfl, _, rfl, by rw [b2]; exact h2⟩
theorem ap_Bool (B : Base P N) (h : FOk P A.zie 2 (zmn N A) [.var 2]) (b : Bool) : ApF P A.zie (.bool b) [if b then 1 else 0] := by
 intro w lo v l ho hlo hb
 refine h.call rfl fun loc N' hlo' => ?_
 unfold zmn
 refine zd fun K hK => zj fun τ => ?_
 simp +decide only [bK, Nat.reduceAdd]
 refine hK _ _ (zc fun σ1 hσ => ?_)
 have a0 := hσ 0
 have a1 := hσ 1
 simp +decide only [bE, Nat.reduceBeqDiff, Nat.reduceAdd, Nat.zero_add, zdc, zcm] at a0 a1
 clear hσ hK K
 have e1 : ∀ ρ : Env, (#[(0, .const (.int .u8 1))] : Array (Nat × Operand)).map (fun p => (p.1, ev ρ p.2)) = #[(0, zy 1)] := fun ρ => by simp; rfl
 have e0 : ∀ ρ : Env, (#[(0, .const (.int .u8 0))] : Array (Nat × Operand)).map (fun p => (p.1, ev ρ p.2)) = #[(0, zy 0)] := fun ρ => by simp; rfl
 refine zd fun K hK => zd fun K1 hK1 => zj fun τ => ?_
 simp +decide only [bK, bE, Nat.reduceAdd, a1]
 refine hK1 _ _ (zc fun σ2 hσ => ?_)
 have c0 := hσ 0
 have c3 := hσ 3
 simp +decide only [bE, Nat.reduceBeqDiff, BEq.rfl, Nat.reduceAdd, Nat.zero_add, a0] at c0 c3
 clear hσ hK1 K1
 refine W_if hlo' c3 ?_
 cases b with
 | true =>
  simp only [if_true] at hb ⊢
  obtain ⟨v', w', h1, h2⟩ := zjc (ty := N.za) (s := [1]) B ho hlo hb
  have h1 : (Builtin.append_ #[N.za, N.za] N.za #[v, .slice (some ⟨w.heap.size, 0, none⟩) 1 1]).run P (w.alloc (.cells ([1].map zy).toArray N.zg)) = .ok v' w' := h1
  refine zd fun K2 hK2 => zj fun τ => ?_
  simp +decide only [bK, bE, Nat.reduceBeqDiff, BEq.rfl, Nat.reduceAdd, Nat.zero_add, c0, e1, zrl B, h1]
  refine hK2 _ _ (zc fun σ3 hσ => zay ?_)
  have b2 := hσ 2
  simp +decide only [bE, BEq.rfl, Nat.reduceAdd] at b2
  exact ⟨.inr rfl, _, rfl, by rw [b2]; exact h2⟩
 | false =>
  simp only [Bool.false_eq_true, if_false] at hb ⊢
  refine zbe (hK _ _ ?_)
  obtain ⟨v', w', h1, h2⟩ := zjc (ty := N.za) (s := [0]) B ho hlo hb
  have h1 : (Builtin.append_ #[N.za, N.za] N.za #[v, .slice (some ⟨w.heap.size, 0, none⟩) 1 1]).run P (w.alloc (.cells ([0].map zy).toArray N.zg)) = .ok v' w' := h1
  refine zd fun K2 hK2 => zj fun τ => ?_
  simp +decide only [bK, bE, Nat.reduceBeqDiff, BEq.rfl, Nat.reduceAdd, Nat.zero_add, if_false, c0, e0, zrl B, h1]
  refine hK2 _ _ (zc fun σ3 hσ => zay ?_)
  have b2 := hσ 2
  simp +decide only [bE, BEq.rfl, Nat.reduceAdd] at b2
  exact ⟨.inr rfl, _, rfl, by rw [b2]; exact h2⟩
end
section
variable {P : Program} {N : Nums} {A : zdp}
theorem zzh {st tx et ty : TypeId} {a b sz by' : Nat} {z z' : Value} {d : TypeDesc} (hS : TI P st (.slice et) a b z') (ht : TI P et d sz by' z) {w : World} {lo n m : Nat} {v src : Value} {cs new : List Value} (ho : Own w lo sz v n cs)
  (hsrc : ∀ i : TypeInfo, P.info? et = some i → i.size = sz → Src P i.size tx src m new w) (hnl : new.length = m * sz) (hlo : lo ≤ w.heap.size) (hz : z.cells.size = sz)
  (hbig : n + m < 1099511627776) (hby : by' ≤ 128) (hm : v = .slice none 0 0 → 0 < m) :
  ∃ v' w', (Builtin.append_ #[st, tx] ty #[v, src]).run P w = .ok v' w' ∧ Own w' lo sz v' (n + m) (cs ++ new) ∧ Mod w w' (fun i _ => ¬ zby v i) ∧ v'.oneCell' = true ∧ (∀ k, k < w.heap.size → zby v k → zby v' k) := by
 obtain ⟨i, hi, hsz, hbytes, hzero⟩ := ht.info
 have hsrc' := hsrc i hi hsz
 clear hsrc
 have hsrc := hsrc'
 clear hsrc'
 subst hsz
 have fits : ∀ c, c < n + m → Builtin.nextslicecap (n + m) c * i.bytes ≤ 281474976710656 := by
  intro c hc
  have h1 := nextslicecap_le hc
  have h2 : Builtin.nextslicecap (n + m) c * i.bytes ≤ (2 * (n + m)) * 128 := Nat.mul_le_mul h1 (by omega)
  omega
 have grown : ∀ (base : Option Addr) (c : Nat), v = .slice base n c → c < n + m → (Builtin.firstCells i.size n (.slice base n c)).run P w.drew = .ok cs.toArray w.drew → cs.length = n * i.size →
   ∃ v' w', (Builtin.append_ #[st, tx] ty #[v, src]).run P w = .ok v' w' ∧ Own w' lo i.size v' (n + m) (cs ++ new) ∧ Mod w w' (fun i _ => ¬ zby v i) ∧ v'.oneCell' = true ∧ (∀ k, k < w.heap.size → zby v k → zby v' k) := by
  intro base c hv hc hold' hcl
  have hrun := run_append_grow_src (P := P) w st tx ty et i z hS.und hi hzero base n c cs hold' src m new hsrc hc (by omega) (fits c hc)
  refine ⟨_, _, by rw [hv]; exact hrun, .inr ⟨w.heap.size, _, rfl, hlo, by rw [zau]; exact Nat.lt_succ_self _, grownCap_ge w (n + m) c et, ?_, ?_, by rw [List.length_append, hcl, hnl, Nat.add_mul]⟩, (Mod.drew w _).trans' (Mod.alloc _ _ _), rfl, fun k hk _ b o s n c e => by injection e with e1 _ _; injection e1 with e2; injection e2 with e3; omega⟩
  ·have ht2 := zbz w.drew ((cs ++ new).toArray ++ Builtin.zeroCells z.cells (grownCap w (n + m) c et - (n + m))) et
   intro j hj
   refine ht2 j ?_
   have hzc : (Builtin.zeroCells z.cells (grownCap w (n + m) c et - (n + m))).size = (grownCap w (n + m) c et - (n + m)) * i.size := by simp [Builtin.zeroCells, hz]
   rw [Array.size_append, hzc, List.size_toArray, List.length_append, hcl, hnl, ← Nat.add_mul, ← Nat.add_mul]
   have hge := grownCap_ge w (n + m) c et
   rwa [show n + m + (grownCap w (n + m) c et - (n + m)) = grownCap w (n + m) c et by omega]
  ·have hr := zz w.drew ((cs ++ new).toArray ++ Builtin.zeroCells z.cells (grownCap w (n + m) c et - (n + m))) et (0, 0)
   exact (zae.1 (by simpa using hr)).1
 rcases ho with ⟨hv, hn0, hcs⟩ | ⟨b, c, hv, hb1, hb2, hnc, hth, hrg, hcl⟩
 ·subst hcs
  have := hm hv
  exact grown none 0 (by rw [hv, hn0]) (by omega) (by rw [hn0]; rfl) (by rw [hn0]; simp)
 ·by_cases hroom : n + m ≤ c
  ·have hle : n * i.size + new.length ≤ c * i.size := by
    rw [hnl, ← Nat.add_mul]; exact Nat.mul_le_mul_right _ hroom
   have hrun := run_append_room_src (P := P) w st tx ty et i hS.und hi b 0 n c src m new hsrc hroom (fun j hj => by
    have := (hth (n * i.size + j) (by omega)).1; simpa [Nat.add_assoc] using this) (fun j hj => by
    have := (hth (n * i.size + j) (by omega)).2; simpa [Nat.add_assoc] using this)
   have ms : Mod w (w.setCells b (0 + n * i.size) new) (rng b (0 + n * i.size) new.length) := Mod.setCells _ _ _ fun _ k h1 h2 => ⟨rfl, h1, h2⟩
   refine ⟨_, _, by rw [hv]; exact hrun, .inr ⟨b, c, rfl, hb1, Nat.lt_of_lt_of_le hb2 ms.size, hroom, ms.there hb2 hth, ?_, by rw [List.length_append, hcl, hnl, Nat.add_mul]⟩, ms.mono (fun k o _ h hn => hn b 0 none n c hv h.1), rfl, fun k hk hn b' o' s' n' c' e => by
    injection e with e1 _ _; injection e1 with e2; injection e2 with e3; subst e3; exact hn b 0 none n c hv⟩
   rw [zae]
   refine ⟨ms.rangeAt hb2 (fun k h1 h2 h => by have := h.2.1; omega) hrg, ?_⟩
   rw [hcl]
   have hex : ∃ old : List Value, old.length = new.length ∧ w.rangeAt b (0 + n * i.size) old := by
    refine ⟨(List.range new.length).map fun j => (w.cell? ⟨b, (0 + n * i.size) + j, none⟩).getD undef, by simp, fun j x hj => ?_⟩
    rw [List.getElem?_map] at hj
    cases hr : (List.range new.length)[j]? with
    | none => rw [hr] at hj; simp at hj
    | some k =>
     rw [hr] at hj
     have hk : k = j := by
      obtain ⟨h1, h2⟩ := List.getElem?_eq_some_iff.1 hr
      simpa using h2.symm
     subst hk
     have hlt : k < new.length := by have := (List.getElem?_eq_some_iff.1 hr).1; simpa using this
     have hs : (w.cell? ⟨b, (0 + n * i.size) + k, none⟩).isSome = true := by have := (hth (n * i.size + k) (by omega)).1; simpa [Nat.add_assoc] using this
     simp only [Option.map_some, Option.some.injEq] at hj
     cases hc : w.cell? ⟨b, (0 + n * i.size) + k, none⟩ with
     | none => rw [hc] at hs; cases hs
     | some x => rw [hc] at hj; simp at hj; rw [hj]
   obtain ⟨old, ho1, ho2⟩ := hex
   have := zaw new (0 + n * i.size) w old ho2 (by omega)
   rwa [List.drop_of_length_le (by omega), List.append_nil] at this
  ·have hfc : (Builtin.firstCells i.size n (.slice (some ⟨b, 0, none⟩) n c)).run P w.drew = .ok cs.toArray w.drew :=
    run_firstCells_some w.drew i.size n ⟨b, 0, none⟩ n c cs hcl (fun j u hj => by rw [Addr.add_mid]; exact hrg j u hj)
   exact grown (some ⟨b, 0, none⟩) c hv (by omega) hfc hcl
theorem zui (B : Base P N) {w : World} {lo : Nat} {v : Value} {l s : List UInt8} {ty : TypeId} (ho : OwnB w lo v l) (hlo : lo ≤ w.heap.size) (hb : l.length + s.length < 1099511627776) (hl : l ≠ []) :
  ∃ v' w', (Builtin.append_ #[N.za, N.zai] ty #[v, strV s]).run P w = .ok v' w' ∧ Apd w lo v l s v' w' := by
 have hbc : byteCells ⟨s.toArray⟩ = s.map zy := by
  unfold byteCells
  simp [zy]
 obtain ⟨v', w', h1, h2, h3, _, h5⟩ := zzh (P := P) (ty := ty) (tx := N.zai) B.Lu8 B.uint8 (m := s.length) (src := strV s) (new := s.map zy) ho (fun i hi hsz => by
  rw [hsz, ← hbc]
  exact Src.ofString (w := w) B.string.und ⟨s.toArray⟩) (by simp) hlo rfl hb (by decide) (fun e => by
   rcases ho with ⟨_, e2, _⟩ | ⟨b, c, e2, _⟩
   ·exact absurd (List.length_eq_zero_iff.1 e2) hl
   ·rw [e] at e2; cases e2)
 exact ⟨v', w', h1, by rw [OwnB, List.length_append, List.map_append]; exact h2, h3, h5⟩
theorem zuh (B : Base P N) {w : World} {s : List UInt8} {ty : TypeId} : (Builtin.len_ #[N.zai] ty #[strV s]).run P w = .ok (.int .i64 (s.length : Int)) w := by
 simp [Builtin.len_, Sem.run_bind, B.string.run_und, goInt, strV]
 rfl
theorem ap_Int16w (B : Base P N) (hU : FOk P A.zdo 2 (zeq N A) [.var 2]) (h : FOk P A.zdd 2 (zga N A) [.var 2]) (n : Int) : ApF P A.zdd (.int .i16 (IntKind.i16.wrap n)) (fixB n 2) := by
 intro w lo v l ho hlo hb
 have := zwf B hU h (IntKind.i16.wrap n) ho hlo (by rw [zcb] at hb ⊢; exact hb)
 rwa [zkn (k := 2) rfl] at this
theorem zln (B : Base P N) (hU : UvT P N A) (h : FOk P A.zce 2 (zek N A) [.var 2]) (s : List UInt8) (hs : s.length < 4294967295) : ApF P A.zce (strV s) (uvB (s.length + 1) ++ s) := by
 intro w lo v l ho hlo hb
 refine h.call rfl fun loc N' hlo' => ?_
 unfold zek
 refine zd fun K hK => zj fun τ => ?_
 simp +decide only [bK, Nat.reduceAdd]
 refine hK _ _ (zc fun σ1 hσ => ?_)
 have a0 := hσ 0
 have a1 := hσ 1
 simp +decide only [bE, Nat.reduceBeqDiff, Nat.reduceAdd, Nat.zero_add, zdc, zcm] at a0 a1
 clear hσ hK K
 rw [List.length_append] at hb
 refine zd fun K hK => zj fun τ => ?_
 simp +decide only [bK, bE, Nat.reduceBeqDiff, BEq.rfl, Nat.reduceAdd, Nat.zero_add, a0, a1, zuh B, zaq B.int B.uint32 ⟨_, rfl⟩, zvb hs]
 rw [zan hU.uv.has]
 simp +decide only [bK, bE, Nat.reduceBeqDiff, BEq.rfl]
 refine (zyh B hU (n := s.length + 1) (by omega) ho hlo (by omega)).mono ?_
 intro v1 w1 h1
 refine hK _ _ (zc fun σ2 hσ => ?_)
 have c0 := hσ 0
 have c1 := hσ 1
 simp +decide only [bE, Nat.reduceBeqDiff, BEq.rfl, Nat.reduceAdd, Nat.zero_add, a1] at c0 c1
 clear hσ hK K
 have hl1 : (l ++ uvB (s.length + 1)).length + s.length < 1099511627776 := by rw [List.length_append]; omega
 obtain ⟨v2, w2, h3, h4⟩ := zui (ty := N.za) B h1.own (Nat.le_trans hlo h1.mod.size) hl1 (by intro e; have hp := zuy (s.length + 1); rw [(List.append_eq_nil_iff.1 e).2] at hp; simp at hp)
 refine zd fun K hK => zj fun τ => ?_
 simp +decide only [bK, bE, Nat.reduceBeqDiff, BEq.rfl, Nat.reduceAdd, Nat.zero_add, c0, c1, h3]
 refine hK _ _ (zc fun σ3 hσ => zay ?_)
 have b2 := hσ 2
 simp +decide only [bE, BEq.rfl, Nat.reduceAdd] at b2
 exact ⟨.inr rfl, _, rfl, by rw [b2]; exact h1.trans h4⟩
theorem zyj (B : Base P N) (hU : FOk P A.zdo 2 (zeq N A) [.var 2]) (hI : FOk P A.zdd 2 (zga N A) [.var 2]) (h : FOk P A.zdz 2 (zhr N A) [.var 2]) (s : List UInt8) (hs : s.length < 4294967295) : ApF P A.zdz (strV s) (fixB s.length 2 ++ s) := by
 intro w lo v l ho hlo hb
 refine h.call rfl fun loc N' hlo' => ?_
 unfold zhr
 refine zd fun K hK => zj fun τ => ?_
 simp +decide only [bK, Nat.reduceAdd]
 refine hK _ _ (zc fun σ1 hσ => ?_)
 have a0 := hσ 0
 have a1 := hσ 1
 simp +decide only [bE, Nat.reduceBeqDiff, Nat.reduceAdd, Nat.zero_add, zdc, zcm] at a0 a1
 clear hσ hK K
 rw [List.length_append] at hb
 refine zd fun K hK => zj fun τ => ?_
 simp +decide only [bK, bE, Nat.reduceBeqDiff, BEq.rfl, Nat.reduceAdd, Nat.zero_add, a0, a1, zuh B, zaq B.int B.int16 ⟨_, rfl⟩]
 rw [zan hI.has]
 simp +decide only [bK, bE, Nat.reduceBeqDiff, BEq.rfl]
 refine (ap_Int16w B hU hI s.length ho hlo (by omega)).mono ?_
 intro v1 w1 h1
 refine hK _ _ (zc fun σ2 hσ => ?_)
 have c0 := hσ 0
 have c1 := hσ 1
 simp +decide only [bE, Nat.reduceBeqDiff, BEq.rfl, Nat.reduceAdd, Nat.zero_add, a1] at c0 c1
 clear hσ hK K
 have hl1 : (l ++ fixB s.length 2).length + s.length < 1099511627776 := by rw [List.length_append]; omega
 obtain ⟨v2, w2, h3, h4⟩ := zui (ty := N.za) B h1.own (Nat.le_trans hlo h1.mod.size) hl1 (by intro e; have hp := zcb (s.length : Int) 2; rw [(List.append_eq_nil_iff.1 e).2] at hp; simp at hp)
 refine zd fun K hK => zj fun τ => ?_
 simp +decide only [bK, bE, Nat.reduceBeqDiff, BEq.rfl, Nat.reduceAdd, Nat.zero_add, c0, c1, h3]
 refine hK _ _ (zc fun σ3 hσ => zay ?_)
 have b2 := hσ 2
 simp +decide only [bE, BEq.rfl, Nat.reduceAdd] at b2
 exact ⟨.inr rfl, _, rfl, by rw [b2]; exact h1.trans h4⟩
end
section
variable {P : Program} {N : Nums} {A : zdp}
def ApF2 (P : Program) (f : FuncId) (x y : Value) (s : List UInt8) : Prop := ∀ {w : World} {lo : Nat} {v : Value} {l : List UInt8}, OwnB w lo v l → lo ≤ w.heap.size → l.length + s.length < 1099511627776 → Call P f #[v, x, y] w (Apd w lo v l s)
theorem ap_Uuid (B : Base P N) (hU : N.zu ≠ 0) (h : FOk P A.zib 2 (zml N A) [.var 3]) {s : List UInt8} (hs : s.length = 16) : ApF P A.zib (.agg (s.map zy).toArray) s := by
 intro w lo v l ho hlo hb
 refine h.call rfl fun loc N' hlo' => ?_
 unfold zml
 obtain ⟨w1, hw1⟩ : ∃ w1, w1 = w.alloc (.cells (Value.cells (.agg (s.map zy).toArray)) N.zu) := ⟨_, rfl⟩
 have m1 : Mod w w1 zad := by rw [hw1]; exact Mod.alloc _ _ _
 have s1 : w1.heap.size = w.heap.size + 1 := by rw [hw1]; exact zau _ _
 have r1 : w1.rangeAt w.heap.size 0 (s.map zy) := by rw [hw1]; exact zz w (s.map zy).toArray N.zu (0, 0)
 refine zd fun K hK => zj fun τ => ?_
 simp +decide only [bK, bE, Nat.reduceAdd]
 rw [← hw1]
 refine hK _ _ (zc fun σ1 hσ => ?_)
 have a0 := hσ 0
 have a2 := hσ 2
 simp +decide only [bE, Nat.reduceBeqDiff, BEq.rfl, Nat.reduceAdd, Nat.zero_add, zdc] at a0 a2
 clear hσ hK K
 obtain ⟨v', w', h1, h2, h3, h4⟩ := zfb (ty := N.za) B (Own.stay m1 (fun _ _ _ h => h) ho) (src := .slice (some ⟨w.heap.size, 0, none⟩) 16 16) (s := s) (.inr ⟨w.heap.size, 0, 16, by rw [hs], by omega, r1⟩) (by omega) hb
 have e := fun {w : World} => zqn (w := w) (B.uuid hU) B.uint8 (ad := ⟨w1.heap.size - 1, 0, none⟩)
 have hm : w1.heap.size - 1 = w.heap.size := by omega
 rw [hm] at e
 refine zd fun K hK => zj fun τ => ?_
 simp +decide only [bK, bE, Nat.reduceBeqDiff, BEq.rfl, Nat.reduceAdd, Nat.zero_add, Option.map_none, a0, a2, Option.map_none, e, h1]
 refine hK _ _ (zc fun σ2 hσ => zay ?_)
 have b3 := hσ 3
 simp +decide only [bE, BEq.rfl, Nat.reduceAdd] at b3
 exact ⟨.inr rfl, _, rfl, by rw [b3]; exact Apd.after m1 ⟨h2, h3, h4⟩⟩
theorem zyk (B : Base P N) (hU : FOk P A.zep 2 (zfi N A) [.var 2]) (hI : FOk P A.zcu 2 (zhb N A) [.var 2]) (h : FOk P A.zbb 3 (zev N A) [.var 3]) (n : Nat) (b : Bool) : ApF2 P A.zbb (.int .i64 n) (.bool b) (zr false b n 4) := by
 intro w lo v l ho hlo hb
 refine h.call rfl fun loc N' hlo' => ?_
 unfold zev
 refine zd fun K hK => zj fun τ => ?_
 simp +decide only [bK, Nat.reduceAdd]
 refine hK _ _ (zc fun σ1 hσ => ?_)
 have a0 := hσ 0
 have a1 := hσ 1
 have a2 := hσ 2
 simp +decide only [bE, Nat.reduceBeqDiff, Nat.reduceAdd, Nat.zero_add, zkt, zif, zmp] at a0 a1 a2
 clear hσ hK K
 refine zd fun K hK => zd fun K1 hK1 => zj fun τ => ?_
 simp +decide only [bK, bE, Nat.reduceAdd, a2]
 refine hK1 _ _ (zc fun σ2 hσ => ?_)
 have c0 := hσ 0
 have c1 := hσ 1
 have c4 := hσ 4
 simp +decide only [bE, Nat.reduceBeqDiff, BEq.rfl, Nat.reduceAdd, Nat.zero_add, a0, a1] at c0 c1 c4
 clear hσ hK1 K1
 refine W_if hlo' c4 ?_
 cases b with
 | true =>
  have e : zr false true n 4 = fixB (-1) 4 := by simp [zr]
  rw [e] at hb ⊢
  simp only [if_true]
  refine zd fun K2 hK2 => zj fun τ => ?_
  simp +decide only [bK, bE, Nat.reduceAdd, Nat.zero_add, c0]
  rw [zan hI.has]
  simp +decide only [bK, bE, BEq.rfl]
  refine (zrq B hU hI (-1) ho hlo hb).mono ?_
  intro v' w' h2
  refine hK2 _ _ (zc fun σ3 hσ => zay ?_)
  have b3 := hσ 3
  simp +decide only [bE, BEq.rfl, Nat.reduceAdd] at b3
  exact ⟨.inr rfl, _, rfl, by rw [b3]; exact h2⟩
 | false =>
  have e : zr false false n 4 = fixB n 4 := by simp [zr]
  rw [e] at hb ⊢
  simp only [Bool.false_eq_true, if_false]
  refine zbe (hK _ _ ?_)
  refine zd fun K2 hK2 => zj fun τ => ?_
  simp +decide only [bK, bE, Nat.reduceBeqDiff, BEq.rfl, Nat.reduceAdd, Nat.zero_add, c0, c1, zaq B.int B.int32 ⟨_, rfl⟩]
  rw [zan hI.has]
  simp +decide only [bK, bE, Nat.reduceBeqDiff, BEq.rfl]
  refine (zrq B hU hI (IntKind.i32.wrap n) ho hlo (by rw [zcb] at hb ⊢; exact hb)).mono ?_
  rw [zkn (k := 4) rfl]
  intro v' w' h2
  refine hK2 _ _ (zc fun σ3 hσ => zay ?_)
  have b3 := hσ 3
  simp +decide only [bE, BEq.rfl, Nat.reduceAdd] at b3
  exact ⟨.inr rfl, _, rfl, by rw [b3]; exact h2⟩
theorem zwg (B : Base P N) (hU : UvT P N A) (h : FOk P A.zaj 3 (zdm N A) [.var 3]) {n : Nat} (hn : n < 4294967295) (b : Bool) : ApF2 P A.zaj (.int .i64 n) (.bool b) (zr true b n 4) := by
 intro w lo v l ho hlo hb
 refine h.call rfl fun loc N' hlo' => ?_
 unfold zdm
 refine zd fun K hK => zj fun τ => ?_
 simp +decide only [bK, Nat.reduceAdd]
 refine hK _ _ (zc fun σ1 hσ => ?_)
 have a0 := hσ 0
 have a1 := hσ 1
 have a2 := hσ 2
 simp +decide only [bE, Nat.reduceBeqDiff, Nat.reduceAdd, Nat.zero_add, zkt, zif, zmp] at a0 a1 a2
 clear hσ hK K
 refine zd fun K hK => zd fun K1 hK1 => zj fun τ => ?_
 simp +decide only [bK, bE, Nat.reduceAdd, a2]
 refine hK1 _ _ (zc fun σ2 hσ => ?_)
 have c0 := hσ 0
 have c1 := hσ 1
 have c4 := hσ 4
 simp +decide only [bE, Nat.reduceBeqDiff, BEq.rfl, Nat.reduceAdd, Nat.zero_add, a0, a1] at c0 c1 c4
 clear hσ hK1 K1
 refine W_if hlo' c4 ?_
 cases b with
 | true =>
  have e : zr true true n 4 = uvB 0 := by rw [zdq (by decide)]; simp [zr]
  rw [e] at hb ⊢
  simp only [if_true]
  refine zd fun K2 hK2 => zj fun τ => ?_
  simp +decide only [bK, bE, Nat.reduceAdd, Nat.zero_add, c0]
  rw [zan hU.uv.has]
  simp +decide only [bK, bE, BEq.rfl]
  refine (zyh B hU (n := 0) (by decide) ho hlo hb).mono ?_
  intro v' w' h2
  refine hK2 _ _ (zc fun σ3 hσ => zay ?_)
  have b3 := hσ 3
  simp +decide only [bE, BEq.rfl, Nat.reduceAdd] at b3
  exact ⟨.inr rfl, _, rfl, by rw [b3]; exact h2⟩
 | false =>
  have e : zr true false n 4 = uvB (n + 1) := by simp [zr]
  rw [e] at hb ⊢
  simp only [Bool.false_eq_true, if_false]
  refine zbe (hK _ _ ?_)
  refine zd fun K2 hK2 => zj fun τ => ?_
  simp +decide only [bK, bE, Nat.reduceBeqDiff, BEq.rfl, Nat.reduceAdd, Nat.zero_add, c0, c1, zaq B.int B.uint32 ⟨_, rfl⟩, zvb hn]
  rw [zan hU.uv.has]
  simp +decide only [bK, bE, Nat.reduceBeqDiff, BEq.rfl]
  refine (zyh B hU (n := n + 1) (by omega) ho hlo hb).mono ?_
  intro v' w' h2
  refine hK2 _ _ (zc fun σ3 hσ => zay ?_)
  have b3 := hσ 3
  simp +decide only [bE, BEq.rfl, Nat.reduceAdd] at b3
  exact ⟨.inr rfl, _, rfl, by rw [b3]; exact h2⟩
end
section
variable {P : Program} {N : Nums} {A : zdp}
structure JB (bB lo0 s0 lo : Nat) (v : Value) (l : List UInt8) (w : World) : Prop where
 cell : w.cell? ⟨bB, 0, none⟩ = some v
 th : w.there bB 0 1
 own : OwnB w lo0 v l
 nb : zby v bB
 bk : ∀ k, ¬ zby v k → k < s0 ∨ lo ≤ k
def JM (lo0 s0 lo : Nat) : Nat → Nat → Prop := fun k _ => (lo0 ≤ k ∧ k < s0) ∨ lo ≤ k
theorem Own.one1 {w : World} {lo : Nat} {v : Value} {l : List UInt8} (ho : OwnB w lo v l) : v.oneCell' = true := by
 rcases ho with ⟨e, _⟩ | ⟨b, c, e, _⟩ <;> rw [e] <;> rfl
theorem JB.step {bB lo0 s0 lo : Nat} {v v1 : Value} {l s : List UInt8} {w w1 : World} (h : JB bB lo0 s0 lo v l w) (hb : lo0 ≤ bB ∧ bB < s0) (hlo : s0 ≤ lo ∧ lo ≤ w.heap.size) (ha : Apd w lo0 v l s v1 w1) :
  JB bB lo0 s0 lo v1 (l ++ s) (w1.setCell ⟨bB, 0, none⟩ v1) ∧ Mod w (w1.setCell ⟨bB, 0, none⟩ v1) (JM lo0 s0 lo) := by
 have hbw : bB < w.heap.size := by omega
 have hb1 : bB < w1.heap.size := Nat.lt_of_lt_of_le hbw ha.mod.size
 have nb1 : zby v1 bB := ha.keep _ hbw h.nb
 have th1 : w1.there bB 0 1 := ha.mod.there hbw h.th
 have ms : Mod w1 (w1.setCell ⟨bB, 0, none⟩ v1) (rng bB 0 1) := Mod.setCell fun _ => ⟨rfl, Nat.le_refl _, by omega⟩
 have hc1 : w1.cell? ⟨bB, 0, none⟩ = some v := by rw [ha.mod.cell _ _ hbw (fun hn => hn h.nb)]; exact h.cell
 have bk1 : ∀ k, ¬ zby v1 k → k < s0 ∨ lo ≤ k := fun k hk => by
  by_cases hkw : k < w.heap.size
  ·exact h.bk k fun hn => hk (ha.keep k hkw hn)
  ·right; omega
 refine ⟨⟨World.cell?_setCell_same _ _ _ hc1, ms.there hb1 th1, Own.stay ms (fun k o hk hr => hk (by rw [hr.1]; exact nb1)) ha.own, nb1, bk1⟩, ?_⟩
 refine ha.mod.trans ms fun k o _ hh => ?_
 rcases hh with hh | hh
 ·have h1 := (h.own.blk hh).1
  rcases h.bk k hh with h2 | h2
  ·exact .inl ⟨h1, h2⟩
  ·exact .inr h2
 ·rw [hh.1]; exact .inl hb
def JI (bB lo0 s0 : Nat) (d : List UInt8) (lo : Nat) (done : List (Nat × List UInt8)) (w : World) : Prop := ∃ v, JB bB lo0 s0 lo v (d ++ done.flatMap tagW) w
theorem each_cb (B : Base P N) (hU : UvT P N A) (hF : FOk P A.zcx 3 (zdx N A) []) {bB lo0 s0 lo : Nat} {d : List UInt8} {G : Nat → Prop} {S : List (Nat × List UInt8)} (hb : lo0 ≤ bB ∧ bB < s0) (hlo0 : s0 ≤ lo) (hG : ∀ k, G k → k < lo0)
  (hS : ∀ x ∈ S, x.1 < 4294967296 ∧ x.2.length < 4294967296) (hbig : d.length + (S.flatMap tagW).length < 1099511627776) :
  CbOk P A.zcx (.pointer (some ⟨bB, 0, none⟩)) lo G (fun k _ => lo0 ≤ k ∧ k < s0) (JI bB lo0 s0 d) S := by
 rintro j x w v hx ⟨vd, hJ⟩ hlo htv
 have hxS := hS x (List.mem_of_getElem? hx)
 have hlen : (d ++ (S.take j).flatMap tagW).length + ((uvB x.1).length + ((uvB x.2.length).length + x.2.length)) < 1099511627776 := by
  have h1 : S = S.take j ++ x :: S.drop (j + 1) := by
   have hj := (List.getElem?_eq_some_iff.1 hx)
   obtain ⟨hj1, hj2⟩ := hj
   rw [← hj2, List.getElem_cons_drop, List.take_append_drop]
  have h2 : (S.flatMap tagW).length = ((S.take j).flatMap tagW).length + ((tagW x).length + ((S.drop (j + 1)).flatMap tagW).length) := by
   conv => lhs; rw [h1]
   rw [List.flatMap_append, List.flatMap_cons, List.length_append, List.length_append]
  have h3 : (tagW x).length = (uvB x.1).length + ((uvB x.2.length).length + x.2.length) := by simp [tagW]
  rw [List.length_append]; omega
 have htk : (S.take (j + 1)).flatMap tagW = (S.take j).flatMap tagW ++ tagW x := by
  rw [List.take_add_one, hx]; simp
 refine hF.call rfl fun loc N' hloc => ?_
 unfold zdx
 obtain ⟨σ, hσ⟩ : ∃ σ, σ = zcw #[.int .u32 x.1, v, .pointer (some ⟨bB, 0, none⟩)] := ⟨_, rfl⟩
 have f0 : σ 0 = .int .u32 x.1 := by rw [hσ]; rfl
 have f1 : σ 1 = v := by rw [hσ]; rfl
 have f2 : σ 2 = .pointer (some ⟨bB, 0, none⟩) := by rw [hσ]; rfl
 rw [← hσ]
 clear hσ
 refine zd fun K hK => zj fun τ => ?_
 simp +decide only [bK, bE, Nat.reduceBeqDiff, Nat.reduceAdd, Nat.zero_add, f0, f2, B.Lu8.run_load1 rfl, hJ.cell]
 rw [zan hU.uv.has]
 simp +decide only [bK, bE, Nat.reduceBeqDiff, BEq.rfl, f2]
 refine (zyh B hU hxS.1 hJ.own (by omega) (by omega)).mono ?_
 intro v1 w1 a1
 obtain ⟨J1, M1⟩ := hJ.step hb ⟨hlo0, hlo⟩ a1
 have st1 := B.Lu8.run_store1 (w := w1) (b := bB) (o := 0) (v := v1) (Own.one1 a1.own) (a1.mod.there (by omega) hJ.th)
 simp +decide only [bK, st1]
 refine hK _ _ (zc fun σ1 hσ => ?_)
 have g1 := hσ 1
 have g2 := hσ 2
 simp +decide only [bE, Nat.reduceBeqDiff, Nat.reduceAdd, f1, f2] at g1 g2
 clear hσ hK K
 obtain ⟨w2, hw2⟩ : ∃ w2, w2 = w1.setCell ⟨bB, 0, none⟩ v1 := ⟨_, rfl⟩
 rw [← hw2] at J1 M1 ⊢
 have s2 := M1.size
 have hGM : ∀ k, G k → ∀ o, ¬ JM lo0 s0 lo k o := fun k hk o h => by
  have := hG k hk
  rcases h with h | h
  ·omega
  ·have : lo0 ≤ lo := by omega
   omega
 have hGw : ∀ k, G k → k < w.heap.size := fun k hk => by have := hG k hk; omega
 have htv2 : tagV w2 G v x.2 := htv.imp (fun h => ⟨h.1, h.2.mod M1 fun k hk => ⟨hGw k hk, hGM k hk, hk⟩⟩) fun h => h.mod M1 fun k hk => ⟨hGw k hk, hGM k hk, hk⟩
 have hln : (Builtin.len_ #[N.za] N.ze #[v]).run P w2 = .ok (.int .i64 (x.2.length : Int)) w2 := by
  have := (tagV.octA htv2).argOct.run_len B (ty := N.ze)
  exact this
 have hcv : IntKind.u32.wrap (x.2.length : Int) = x.2.length := by
  have e : ∀ m : Int, IntKind.u32.wrap m = m % 4294967296 := fun m => by simp [IntKind.wrap, IntKind.signed, IntKind.bits]
  rw [e]; omega
 refine zd fun K hK => zj fun τ => ?_
 simp +decide only [bK, bE, Nat.reduceBeqDiff, BEq.rfl, Nat.reduceAdd, g1, g2, B.Lu8.run_load1 rfl, J1.cell, hln, zaq B.int B.uint32 ⟨_, rfl⟩, hcv]
 rw [zan hU.uv.has]
 simp +decide only [bK, bE, Nat.reduceBeqDiff, BEq.rfl, g2]
 refine (zyh B hU hxS.2 J1.own (by omega) (by rw [List.length_append]; omega)).mono ?_
 intro v3 w3 a3
 obtain ⟨J3, M3⟩ := J1.step hb ⟨hlo0, by omega⟩ a3
 have st3 := B.Lu8.run_store1 (w := w3) (b := bB) (o := 0) (v := v3) (Own.one1 a3.own) (a3.mod.there (by omega) J1.th)
 simp +decide only [bK, st3]
 refine hK _ _ (zc fun σ3 hσ => ?_)
 have k1 := hσ 1
 have k2 := hσ 2
 simp +decide only [bE, Nat.reduceBeqDiff, Nat.reduceAdd, g1, g2] at k1 k2
 clear hσ hK K
 obtain ⟨w4, hw4⟩ : ∃ w4, w4 = w3.setCell ⟨bB, 0, none⟩ v3 := ⟨_, rfl⟩
 rw [← hw4] at J3 M3 ⊢
 have s4 := M3.size
 have htv4 : tagV w4 G v x.2 := htv2.imp (fun h => ⟨h.1, h.2.mod M3 fun k hk => ⟨by have := hGw k hk; omega, hGM k hk, hk⟩⟩) fun h => h.mod M3 fun k hk => ⟨by have := hGw k hk; omega, hGM k hk, hk⟩
 obtain ⟨v5, w5, h5, o5, m5, kp5⟩ := zfb (ty := N.za) B J3.own (tagV.octA htv4) (by omega) (by rw [List.length_append, List.length_append]; omega)
 have a5 : Apd w4 lo0 v3 _ x.2 v5 w5 := ⟨o5, m5, kp5⟩
 obtain ⟨J5, M5⟩ := J3.step hb ⟨hlo0, by omega⟩ a5
 have st5 := B.Lu8.run_store1 (w := w5) (b := bB) (o := 0) (v := v5) (Own.one1 a5.own) (a5.mod.there (by omega) J3.th)
 refine zj fun τ => ?_
 simp +decide only [bK, bE, Nat.reduceBeqDiff, BEq.rfl, Nat.reduceAdd, k1, k2, B.Lu8.run_load1 rfl, J3.cell, h5, st5]
 refine zc fun σ5 hσ => ⟨.inl rfl, .tuple #[], rfl, ⟨v5, ?_⟩, ?_⟩
 ·rw [htk]
  have e : d ++ ((S.take j).flatMap tagW ++ tagW x) = d ++ (S.take j).flatMap tagW ++ uvB x.1 ++ uvB x.2.length ++ x.2 := by simp [tagW, List.append_assoc]
  rw [e]; exact J5
 ·exact (M1.trans (M3.trans M5 fun _ _ _ h => h.elim id id) fun _ _ _ h => h.elim id id).mono fun k o _ h => h
structure EachN (P : Program) (N : Nums) : Prop where
 each : N.zgp ≠ 0
 tags : N.zdf ≠ 0
 lu : LU P N
 so : SortOk P N
theorem ap_Each (B : Base P N) (F : Fns P N) (hN : EachN P N) (hU : UvT P N A) (hF1 : FOk P A.zcx 3 (zdx N A) []) (hF : FOk P A.zei 2 (zfn N A) [.var 3])
  {w : World} {b o lo0 : Nat} {v d : Value} {G : Nat → Prop} {u : List (Nat × List UInt8)} {l : List UInt8} (hc : w.cell? ⟨b, o, none⟩ = some v) (hb : b < lo0) (hG : ∀ k, G k → k < lo0) (ht : zpm w G v u) (hul : u.length < 1099511627776) (hx : ∀ x ∈ u, x.2.length < 4294967296)
  (ho : OwnB w lo0 d l) (hlo : lo0 ≤ w.heap.size) (hbig : l.length + ((zdi u).flatMap tagW).length < 1099511627776) :
  Call P A.zei #[.pointer (some ⟨b, o, none⟩), d] w fun v' w' => OwnB w' lo0 v' (l ++ (zdi u).flatMap tagW) ∧ Mod w w' (fun k _ => lo0 ≤ k) := by
 refine hF.call rfl fun loc N' hloc => ?_
 unfold zfn
 have hone : d.oneCell' = true := Own.one1 ho
 obtain ⟨w1, hw1⟩ : ∃ w1, w1 = w.alloc (.cells d.cells N.za) := ⟨_, rfl⟩
 have m1 : Mod w w1 zad := by rw [hw1]; exact Mod.alloc _ _ _
 have s1 : w1.heap.size = w.heap.size + 1 := by rw [hw1]; exact zau _ _
 have r1 : w1.rangeAt w.heap.size 0 [d] := by
  rw [hw1, zet hone]; exact zz w [d].toArray N.za (0, 0)
 have t1 : w1.there w.heap.size 0 1 := by
  rw [hw1, zet hone]; exact zbz w [d].toArray N.za
 refine zd fun K hK => zj fun τ => ?_
 simp +decide only [bK, bE, Nat.reduceAdd]
 rw [← hw1]
 refine hK _ _ (zc fun σ1 hσ => ?_)
 have a0 := hσ 0
 have a2 := hσ 2
 simp +decide only [bE, Nat.reduceBeqDiff, BEq.rfl, Nat.reduceAdd, Nat.zero_add, zdc] at a0 a2
 clear hσ hK K
 obtain ⟨bB, hbB⟩ : ∃ b, b = w.heap.size := ⟨_, rfl⟩
 rw [← hbB] at r1 t1 s1 a2 hlo
 have hcw : b < w.heap.size := zfj (by rw [hc]; rfl)
 have hc1 : w1.cell? ⟨b, o, none⟩ = some v := by rw [m1.cell _ _ hcw (fun h => h)]; exact hc
 have hGw : ∀ k, G k → k < w.heap.size := fun k hk => by have := hG k hk; omega
 have ht1 : zpm w1 G v u := ht.mod m1 fun k hk => ⟨hGw k hk, fun _ h => h, hk⟩
 have hkey : ∀ x ∈ u, x.1 < 4294967296 := by
  rcases ht with ⟨_, h⟩ | ⟨_, _, _, _, _, _, _, _, _, _, h⟩
  ·rw [h]; intro x hx; cases hx
  ·exact h
 have hmem : ∀ x ∈ zdi u, x ∈ u := fun x h => (zir u).mem_iff.1 h
 have hEach := call_Each B F hN.each hN.tags hN.lu hN.so (f := A.zcx) (cap := .pointer (some ⟨bB, 0, none⟩)) hc1 (fun k hk => by have := hGw k hk; omega) ht1 hF1.has hul (JI bB lo0 (bB + 1) l) (fun k _ => lo0 ≤ k ∧ k < bB + 1) (fun k o h => by omega) (fun h => by omega) (fun k hk o h => by have := hG k hk; omega)
  (fun w' m => ⟨d, by rw [m.cell _ _ (by omega) (fun h => h)]; exact r1 0 _ rfl, m.there (by omega) t1, by
   rw [List.flatMap_nil, List.append_nil]
   exact Own.stay (m1.trans' m) (fun _ _ _ h => h) ho, by
   by_cases hn : zby d bB
   ·exact hn
   ·have := (ho.blk hn).2; omega, fun k hk => .inl (by have := (ho.blk hk).2; omega)⟩)
  (fun lo hlo2 => each_cb B hU hF1 (by omega) (by omega) hG (fun x h => ⟨hkey x (hmem x h), hx x (hmem x h)⟩) hbig)
 refine zd fun K hK => zj fun τ => ?_
 have e5 : ∀ ρ : Env, ρ 102 = .pointer (some ⟨bB, 0, none⟩) → (#[V 2] : Array Operand).map (ev ρ) = #[.pointer (some ⟨bB, 0, none⟩)] := fun ρ h => by simp [h]
 have e4 : ∀ ρ : Env, (#[] : Array Operand).map (ev ρ) = #[] := fun ρ => by simp
 simp +decide only [bK, bE, Nat.zero_add, a0, zon, zug]
 rw [zan (F.PTags_Each hN.each).1.has]
 simp +decide only [bK, bE, Nat.reduceBeqDiff, BEq.rfl, e4]
 rw [e5 _ (by simp +decide only [bE, Nat.reduceBeqDiff, a2])]
 refine Call.mono (Rt' := _) hEach ?_
 rintro _ w5 ⟨lo, hlo1, hlo2, ⟨v5, J5⟩, m5⟩
 refine zc (K := fun σ' w' => zfr K _ .normal σ' w') fun σ5 hσ => hK _ _ ?_
 have u2 := hσ 2
 simp +decide only [bE, Nat.reduceBeqDiff, Nat.reduceAdd, a2] at u2
 clear hσ hK K hEach
 refine zd fun K hK => zj fun τ => ?_
 simp +decide only [bK, bE, BEq.rfl, Nat.reduceAdd, u2, B.Lu8.run_load1 rfl, J5.cell]
 refine hK _ _ (zc fun σ6 hσ => zay ?_)
 have b3 := hσ 3
 simp +decide only [bE, BEq.rfl, Nat.reduceAdd] at b3
 exact ⟨.inr rfl, _, rfl, by rw [b3]; exact J5.own, m1.trans m5 fun k _ hk h => h.elim False.elim fun h => h.1⟩
end
theorem zbt.size {w : World} {G : Nat → Prop} : ∀ {l : List (Nat × List UInt8)} {es : List MapEntry}, zbt w G l es → es.length = l.length
 | [], es, h => by simp only [zbt] at h; subst h; rfl
 | (k, x) :: l, es, ⟨v, b, rest, h1, h2, h3⟩ => by subst h1; simp [zbt.size h3]
section
variable {P : Program} {N : Nums} {A : zdp}
theorem zxy (B : Base P N) (hT : N.zdf ≠ 0) (hF : FOk P A.zjl 1 (zlg N A) [.var 1]) {w : World} {b o : Nat} {v : Value} {G : Nat → Prop} {u : List (Nat × List UInt8)} (hc : w.cell? ⟨b, o, none⟩ = some v) (ht : zpm w G v u) :
  Call P A.zjl #[.pointer (some ⟨b, o, none⟩)] w fun r w' => r = .int .i64 u.length ∧ w = w' := by
 obtain ⟨_, hHF, hmt⟩ := B.tags hT
 refine hF.call rfl fun loc N' hloc => ?_
 unfold zlg
 refine zd fun K hK => zj fun τ => ?_
 simp +decide only [bK, Nat.reduceAdd]
 refine hK _ _ (zc fun σ1 hσ => ?_)
 have a0 := hσ 0
 simp +decide only [bE, Nat.reduceBeqDiff, Nat.zero_add, zat] at a0
 clear hσ hK K
 have hln : (Builtin.len_ #[N.zp] N.ze #[v]).run P w = .ok (.int .i64 (u.length : Int)) w := by
  rcases ht with ⟨rfl, hl⟩ | ⟨mr, es, ck, rfl, hGm, hmap, hborn, hbnd, hent, hknd, hkb⟩
  ·rw [hl]; exact zse hmt.und
  ·have := zpp (P := P) hmt.und (ty := N.ze) hmap
   rw [this]
   have e := hent.size
   rw [Array.length_toList] at e
   rw [e]
 refine zd fun K hK => zj fun τ => ?_
 simp +decide only [bK, bE, BEq.rfl, Nat.reduceAdd, Nat.zero_add, a0]
 rw [zw rfl]
 simp +decide only [bK, bE, BEq.rfl, Nat.add_zero, hHF.run, Nat.add_zero, hmt.run_load1 rfl, hc, hln]
 refine hK _ _ (zc fun σ2 hσ => zay ?_)
 have b1 := hσ 1
 simp +decide only [bE, BEq.rfl, Nat.reduceAdd] at b1
 exact ⟨.inr rfl, _, rfl, by rw [b1], rfl⟩
end
section
variable (N : Nums) (A : zdp)
def PK.af : PK → FuncId
 | .bool => A.zie | .i8 => A.zid | .i16 => A.zdd | .u16 => A.zdo | .i32 => A.zcu | .i64 => A.zfy | .uuid => A.zib
def Txt.af (fl : Bool) : Txt → FuncId
 | .str => if fl then A.zce else A.zdz
 | .nstr => if fl then A.zcj else A.zdk
 | .byt => if fl then A.zil else A.zpc
 | .nbyt => if fl then A.zfm else A.zic
def PK.ldq (k : PK) (i q : Nat) : List ROp := match k with
 | .uuid => [⟨some (q + 100), .alloc N.zu, 0, none, []⟩, ⟨none, .store N.zu (V q) (T i), 0, none, []⟩]
 | _ => [⟨some (q + 100), .assign (T i), 0, none, []⟩]
def zxk (vv : Nat) (Tt : TypeId) (idx : Nat) (t : TypeId) : List ROp := [⟨some 0, .move (V vv), 0, none, []⟩, ⟨some 1, .nilCheck (T 0), 0, none, []⟩, ⟨some 2, .fieldAddr Tt (T 1) idx, 0, none, []⟩, ⟨some 3, .load t (T 2), 0, none, []⟩]
def zzl (st : TypeId) (t : TypeId) (q : Nat) : List ROp := [⟨some 0, .move (V q), 0, none, []⟩, ⟨some 1, .move (V (q + 5)), 0, none, []⟩, ⟨some 2, .indexAddr st (T 0) (T 1), 0, none, []⟩, ⟨some 3, .load t (T 2), 0, none, []⟩]
def cAp (f t q : Nat) (src : Op) : C := .ops [⟨some 0, .move (V 1), 0, none, []⟩, ⟨some 1, src, 0, none, []⟩, ⟨some 2, .call ⟨.value (.func f), #[T 0, T 1], #[N.za, t]⟩, N.za, none, []⟩, ⟨some 101, .assign (T 2), 0, none, []⟩]
def PK.ap (k : PK) (q : Nat) : C := cAp N (k.af A) (k.t N) q (k.src N q)
def Txt.ap (t : Txt) (q : Nat) : C := .seq (.ops [⟨some (q + 1 + 100), .move (V 4), 0, none, []⟩]) (.cond (q + 1) (cAp N (t.af A true) (t.t N) q (.move (V q))) (cAp N (t.af A false) (t.t N) q (.move (V q))))
def cAl (nul : Option Int) (fl : Bool) (st q : Nat) : C := match nul with
 | none => .ops [⟨some 0, .move (V 1), 0, none, []⟩, ⟨some 1, .move (V q), 0, none, []⟩, ⟨some 2, .call ⟨.builtin .len, #[T 1], #[st]⟩, N.ze, none, []⟩, ⟨some 3, .call ⟨.value (.func (if fl then A.zbg else A.zcq)), #[T 0, T 2], #[N.za, N.ze]⟩, N.za, none, []⟩, ⟨some 101, .assign (T 3), 0, none, []⟩]
 | some _ => .ops [⟨some 0, .move (V 1), 0, none, []⟩, ⟨some 1, .move (V q), 0, none, []⟩, ⟨some 2, .call ⟨.builtin .len, #[T 1], #[st]⟩, N.ze, none, []⟩, ⟨some 3, .move (V q), 0, none, []⟩, ⟨some 4, .binOp .eql st (T 3) (.const (.slice none 0 0)) st, 0, none, []⟩,
   ⟨some 5, .call ⟨.value (.func (if fl then A.zaj else A.zbb)), #[T 0, T 2, T 4], #[N.za, N.ze, N.zav]⟩, N.za, none, []⟩, ⟨some 101, .assign (T 5), 0, none, []⟩]
def cGdA (g : Gd) (n : Nat) (c : Nat → C) : C :=
 match g with
 | .all => c n
 | .ge m => .seq (.ops [⟨some 0, .move (V 3), 0, none, []⟩, ⟨some (n + 100), .binOp .geq N.zbp (T 0) (.const (.int .i16 m)) N.zbp, 0, none, []⟩]) (.cond n (c (n + 1)) .skip)
 | .btw a b => .seq (.ops [⟨some 0, .move (V 3), 0, none, []⟩, ⟨some 1, .binOp .geq N.zbp (T 0) (.const (.int .i16 a)) N.zbp, 0, none, []⟩, ⟨some 2, .move (T 1), 0, none, []⟩, ⟨some 3, .move (V 3), 0, some (some 2, true), []⟩,
   ⟨some 4, .binOp .leq N.zbp (T 3) (.const (.int .i16 b)) N.zbp, 0, some (some 2, true), []⟩, ⟨some (n + 100), .pick (T 2) (T 4) (.const (.bool false)), 0, none, []⟩]) (.cond n (c (n + 1)) .skip)
def cAtags (vv : Nat) (Tt : TypeId) (idx q : Nat) : C :=
 .seq (.ops [⟨some (q + 100), .move (V 4), 0, none, []⟩]) (.cond q (.seq
  (.ops [⟨some 0, .move (V 1), 0, none, []⟩, ⟨some 1, .move (V vv), 0, none, []⟩, ⟨some 2, .nilCheck (T 1), 0, none, []⟩, ⟨some 3, .fieldAddr Tt (T 2) idx, 0, none, []⟩, ⟨some 4, .call ⟨.value (.func A.zjl), #[T 3], #[N.zdf]⟩, N.ze, none, []⟩,
   ⟨some 5, .convert N.ze N.zb (T 4), 0, none, []⟩, ⟨some 6, .binOp .add N.zb (.const (.int .u32 0)) (T 5) N.zb, 0, none, []⟩, ⟨some 7, .call ⟨.value (.func A.zdb), #[T 0, T 6], #[N.za, N.zb]⟩, N.za, none, []⟩, ⟨some 101, .assign (T 7), 0, none, []⟩])
  (.ops [⟨some 0, .move (V vv), 0, none, []⟩, ⟨some 1, .nilCheck (T 0), 0, none, []⟩, ⟨some 2, .fieldAddr Tt (T 1) idx, 0, none, []⟩, ⟨some 3, .move (V 1), 0, none, []⟩, ⟨some 4, .call ⟨.value (.func A.zei), #[T 2, T 3], #[N.zdf, N.za]⟩, N.za, none, []⟩, ⟨some 101, .assign (T 4), 0, none, []⟩])) .skip)
mutual
def Ty.avn : Ty → Nat
 | .pr .. => 1
 | .txt _ => 2
 | .arr _ _ e => 6 + e.avn
 | .row _ _ _ fs => 1 + fs.avn
def El.avn : El → Nat
 | .pr _ => 1
 | .txt _ => 2
 | .row _ _ _ fs => 1 + fs.avn
def Fds.avn : Fds → Nat
 | .nil => 0
 | .tags => 1
 | .cons g ty r => g.vn + ty.avn + r.avn
end
mutual
def Ty.agen (vv : Nat) (Tt : TypeId) (idx : Nat) : Ty → Nat → Nat → C
 | .pr p _, q, _ => .seq (.ops (zxk vv Tt idx (p.t N) ++ p.ldq N 3 q)) (p.ap N A q)
 | .txt t, q, _ => .seq (.ops (zxk vv Tt idx (t.t N) ++ [⟨some (q + 100), .assign (T 3), 0, none, []⟩])) (t.ap N A q)
 | .arr st nul e, q, k => .seq (.ops (zxk vv Tt idx st ++ [⟨some (q + 100), .assign (T 3), 0, none, []⟩])) (
  .seq (.seq (.ops [⟨some (q + 1 + 100), .move (V 4), 0, none, []⟩]) (.cond (q + 1) (cAl N A nul true st q) (cAl N A nul false st q))) (
  .seq (.ops [⟨some 0, .move (V q), 0, none, []⟩, ⟨some (q + 2 + 100), .call ⟨.builtin .len, #[T 0], #[st]⟩, N.ze, none, []⟩, ⟨some (q + 3 + 100), .move (.const (.int .i64 0)), 0, none, []⟩])
   (zqx N (q + 3) (q + 2) (q + 4) k (.seq (.ops [⟨some 0, .move (V (q + 3)), 0, none, []⟩, ⟨some (q + 5 + 100), .assign (T 0), 0, none, []⟩]) (e.agen st q k)))))
 | .row .., _, _ => .skip
def El.agen (st : TypeId) : El → Nat → Nat → C
 | .pr p, q, _ => .seq (.ops (zzl st (p.t N) q ++ p.ldq N 3 (q + 6))) (p.ap N A (q + 6))
 | .txt t, q, _ => .seq (.ops (zzl st (t.t N) q ++ [⟨some (q + 6 + 100), .assign (T 3), 0, none, []⟩])) (t.ap N A (q + 6))
 | .row T' _ _ fs, q, k => .seq (.ops [⟨some 0, .move (V q), 0, none, []⟩, ⟨some 1, .move (V (q + 5)), 0, none, []⟩, ⟨some 2, .indexAddr st (T 0) (T 1), 0, none, []⟩, ⟨some (q + 6 + 100), .assign (T 2), 0, none, []⟩]) (seqs (fs.agen (q + 6) T' 0 (q + 7) (k + 2)))
def Fds.agen (vv : Nat) (Tt : TypeId) : Fds → Nat → Nat → Nat → List C
 | .nil, _, _, _ => []
 | .tags, idx, q, _ => [cAtags N A vv Tt idx q]
 | .cons g ty r, idx, q, k => cGdA N g q (fun q => ty.agen vv Tt idx q k) :: r.agen vv Tt (idx + 1) (q + g.vn + ty.avn) (k + ty.bn)
end
def Msg.appC (m : Msg) : C := seqs ([.ops [⟨some 102, .assign (.const (.slice none 0 0)), 0, none, []⟩],
 .ops [⟨some 0, .move (V 0), 0, none, []⟩, ⟨some 1, .nilCheck (T 0), 0, none, []⟩, ⟨some 2, .fieldAddr m.tT (T 1) 0, 0, none, []⟩, ⟨some 3, .load N.zbp (T 2), 0, none, []⟩, ⟨some 103, .assign (T 3), 0, none, []⟩],
 .ops [⟨some 0, .move (V 3), 0, none, []⟩],
 .ops [⟨some 0, .move (V 3), 0, none, []⟩, ⟨some 1, .binOp .geq N.zbp (T 0) (.const (.int .i16 m.fl)) N.zbp, 0, none, []⟩, ⟨some 104, .assign (T 1), 0, none, []⟩],
 .ops [⟨some 0, .move (V 4), 0, none, []⟩]] ++ m.fs.agen N A 0 m.tT 1 5 0 ++ [.ops [⟨some 0, .move (V 1), 0, none, []⟩, ⟨some 102, .assign (T 0), 0, none, []⟩], .ret])
end
section
variable {P : Program} {N : Nums} {A : zdp}
structure AS (w0 : World) (lo : Nat) (ver : Int) (fl : Bool) (d : Value) (l : List UInt8) (σ : Env) (w : World) : Prop where
 f1 : σ 1 = d
 f3 : σ 3 = .int .i16 ver
 f4 : σ 4 = .bool fl
 own : OwnB w lo d l
 mod : Mod w0 w (fun k _ => lo ≤ k)
theorem AS.step {w0 w w' : World} {lo : Nat} {ver : Int} {fl : Bool} {d d' : Value} {l s : List UInt8} {σ σ' : Env} (h : AS w0 lo ver fl d l σ w) (ha : Apd w lo d l s d' w') (h1 : σ' 1 = d') (h3 : σ' 3 = σ 3) (h4 : σ' 4 = σ 4) : AS w0 lo ver fl d' (l ++ s) σ' w' :=
 ⟨h1, h3.trans h.f3, h4.trans h.f4, ha.own, h.mod.trans (Apd.low h.own ha) fun _ _ _ h => h.elim id id⟩
theorem AS.env {w0 w : World} {lo : Nat} {ver : Int} {fl : Bool} {d : Value} {l : List UInt8} {σ σ' : Env} (h : AS w0 lo ver fl d l σ w) (h1 : σ' 1 = σ 1) (h3 : σ' 3 = σ 3) (h4 : σ' 4 = σ 4) : AS w0 lo ver fl d l σ' w :=
 ⟨h1.trans h.f1, h3.trans h.f3, h4.trans h.f4, h.own, h.mod⟩
theorem AS.fresh {w0 w w' : World} {lo : Nat} {ver : Int} {fl : Bool} {d : Value} {l : List UInt8} {σ : Env} (h : AS w0 lo ver fl d l σ w) (m : Mod w w' zad) : AS w0 lo ver fl d l σ w' :=
 ⟨h.f1, h.f3, h.f4, Own.stay m (fun _ _ _ h => h) h.own, h.mod.trans m fun _ _ _ h => h.elim id False.elim⟩
theorem W_cAp {f t q : Nat} {x : Value} {s : List UInt8} {loc : List Nat} {N' : Nat} {Q : Exit → Env → World → Prop} {w0 w : World} {lo : Nat} {ver : Int} {fl : Bool} {d : Value} {l : List UInt8} {σ : Env} (hf : zcs P f) (h : AS w0 lo ver fl d l σ w) (hq : σ q = x)
  (hc : Call P f #[d, x] w (Apd w lo d l s)) (hQ : ∀ σ' w' d', AS w0 lo ver fl d' (l ++ s) σ' w' → (∀ i, i ≠ 1 → σ' i = σ i) → Q .normal σ' w') : W P loc N' (cAp N f t q (.move (V q))) Q σ w := by
 unfold cAp
 subst hq
 refine zj fun τ => ?_
 simp +decide (disch := omega) only [bK, bE, Nat.reduceBeqDiff, Nat.reduceAdd, h.f1]
 rw [zan hf]
 simp +decide (disch := omega) only [bK, bE, Nat.reduceBeqDiff, BEq.rfl]
 refine hc.mono ?_
 intro d' w' ha
 have fr : ∀ (σ' : Env), (∀ i, σ' i = if i = 1 then d' else σ i) → Q .normal σ' w' := fun σ' hσ =>
  hQ σ' w' d' (h.step ha (by rw [hσ]; rfl) (by rw [hσ]; rfl) (by rw [hσ]; rfl)) fun i hi => by rw [hσ, if_neg hi]
 refine zc (K := fun σ' w' => Q .normal σ' w') fun σ' hσ => fr σ' fun i => ?_
 rw [hσ i]
 by_cases hi : i = 1
 ·subst hi; rfl
 ·have e1 : (i + 100 == 101) = false := beq_eq_false_iff_ne.2 (by omega)
  rw [if_neg hi]
  simp +decide only [bE, Nat.reduceBeqDiff, e1]
theorem zyo {vv idx off q b oo sz by' : Nat} {Tt t : TypeId} {dt : TypeDesc} {z : Value} {cs : List Value} {loc : List Nat} {N' : Nat} {Q : Exit → Env → World → Prop} {σ : Env} {w : World} (hT : HF P Tt idx off) (ht : TI P t dt sz by' z)
  (hv : σ vv = .pointer (some ⟨b, oo, none⟩)) (hr : w.rangeAt b (oo + off) cs) (hl : cs.length = sz) (h1 : zoy dt = false → sz = 1) (hQ : ∀ σ', (∀ i, i ≠ q → σ' i = σ i) → σ' q = ldv dt cs → Q .normal σ' w) :
  W P loc N' (.ops (zxk vv Tt idx t ++ [⟨some (q + 100), .assign (T 3), 0, none, []⟩])) Q σ w := by
 have hld := ht.run_load (w := w) hr hl h1
 unfold zxk
 simp only [List.cons_append, List.nil_append]
 refine zj fun τ => ?_
 simp +decide (disch := omega) only [bK, bE, BEq.rfl, hv]
 rw [zw rfl]
 simp +decide (disch := omega) only [bK, bE, BEq.rfl, hT.run, hld]
 refine zc (K := fun σ' w' => Q .normal σ' w') fun σ' hσ => hQ σ' (fun i hi => ?_) ?_
 ·rw [hσ i]
  have e1 : (i + 100 == q + 100) = false := beq_eq_false_iff_ne.2 (by omega)
  simp +decide (disch := omega) only [bE, Nat.reduceBeqDiff, e1]
 ·rw [hσ q]
  simp +decide (disch := omega) only [bE, BEq.rfl]
theorem zzz {q b n c j sz by' a1 a2 : Nat} {st t : TypeId} {dt : TypeDesc} {z z2 : Value} {cs : List Value} {loc : List Nat} {N' : Nat} {Q : Exit → Env → World → Prop} {σ : Env} {w : World} (hS : TI P st (.slice t) a1 a2 z2) (ht : TI P t dt sz by' z)
  (hv : σ q = .slice (some ⟨b, 0, none⟩) n c) (hi : σ (q + 5) = .int .i64 j) (hj : j < n) (hr : w.rangeAt b (j * sz) cs) (hl : cs.length = sz) (h1 : zoy dt = false → sz = 1) (hQ : ∀ σ', (∀ i, i ≠ q + 6 → σ' i = σ i) → σ' (q + 6) = ldv dt cs → Q .normal σ' w) :
  W P loc N' (.ops (zzl st t q ++ [⟨some (q + 6 + 100), .assign (T 3), 0, none, []⟩])) Q σ w := by
 have hld := ht.run_load (w := w) hr hl h1
 have hix := zbv (w := w) hS ht (bl := b) (o := 0) (n := n) (c := c) (i := j) (k := .i64) hj
 rw [Nat.zero_add] at hix
 unfold zzl
 simp only [List.cons_append, List.nil_append]
 refine zj fun τ => ?_
 simp +decide (disch := omega) only [bK, bE, Nat.reduceBeqDiff, BEq.rfl, hv, hi, hix, hld]
 refine zc (K := fun σ' w' => Q .normal σ' w') fun σ' hσ => hQ σ' (fun i hi => ?_) ?_
 ·rw [hσ i]
  have e1 : (i + 100 == q + 6 + 100) = false := beq_eq_false_iff_ne.2 (by omega)
  simp +decide (disch := omega) only [bE, Nat.reduceBeqDiff, e1]
 ·rw [hσ (q + 6)]
  simp +decide (disch := omega) only [bE, BEq.rfl]
end
section
variable {P : Program} {N : Nums} {A : zdp}
theorem box_newG {t : TypeId} {dt : TypeDesc} {sz by' : Nat} {z cs : List Value} (h : TI P t dt sz by' (.agg z.toArray)) (hz : ∀ c ∈ z, c.oneCell' = true) (hzl : z.length = sz) (hl : cs.length = sz) (h1 : ∀ c ∈ cs, c.oneCell' = true) (w : World) :
  ∃ w1 w2, (∀ old : Value, (Instr.alloc t true old).run P w = .ok (.pointer (some ⟨w.heap.size, 0, none⟩)) w1) ∧ (Instr.storeAt t (.pointer (some ⟨w.heap.size, 0, none⟩)) (.agg cs.toArray)).run P w1 = .ok () w2 ∧
   Mod w w1 zad ∧ Mod w w2 zad ∧ w2.heap.size = w.heap.size + 1 ∧ w2.rangeAt w.heap.size 0 cs ∧ w2.there w.heap.size 0 sz := by
 have hc : Value.cells (.agg z.toArray) = z.toArray := by
  simp [Value.cells]
 obtain ⟨w1, hw1⟩ : ∃ w1, w1 = w.alloc (.cells (Value.cells (.agg z.toArray)) t) := ⟨_, rfl⟩
 have m1 : Mod w w1 zad := by rw [hw1]; exact Mod.alloc _ _ _
 have r1 : w1.rangeAt w.heap.size 0 z := by rw [hw1]; exact zz w z.toArray _ _
 have t1 : w1.there w.heap.size 0 sz := by rw [hw1, ← hzl]; exact zbz w z.toArray t
 have s1 : w1.heap.size = w.heap.size + 1 := by rw [hw1]; exact zau _ _
 have hst := h.run_store (w := w1) (b := w.heap.size) (o := 0) (v := .agg cs.toArray) (cs := cs) rfl hl t1 h1
 have ms : Mod w1 (w1.setCells w.heap.size 0 cs) (blk w.heap.size) := Mod.setCells _ _ _ fun _ _ _ _ => rfl
 refine ⟨w1, _, fun old => by rw [hw1]; exact h.run_alloc old, hst, m1, m1.fresh ms fun k o h => by have : k = w.heap.size := h; omega, by rw [zfa]; exact s1, ?_, ms.there (by omega) t1⟩
 have := zaw cs 0 w1 _ r1 (by omega)
 rwa [List.drop_of_length_le (by omega), List.append_nil] at this
theorem boxU (B : Base P N) (hU : N.zu ≠ 0) {s : List UInt8} (hs : s.length = 16) (w : World) :
  ∃ w1 w2, (∀ old : Value, (Instr.alloc N.zu true old).run P w = .ok (.pointer (some ⟨w.heap.size, 0, none⟩)) w1) ∧ (Instr.storeAt N.zu (.pointer (some ⟨w.heap.size, 0, none⟩)) (.agg (s.map zy).toArray)).run P w1 = .ok () w2 ∧ Mod w w2 zad ∧ w2.rangeAt w.heap.size 0 (s.map zy) := by
 have hT : TI P N.zu (.array 16 N.zg) 16 16 (.agg (List.replicate 16 (.int .u8 0)).toArray) := by
  have := B.uuid hU
  rwa [show (Array.replicate 16 (Value.int .u8 0)) = (List.replicate 16 (Value.int .u8 0)).toArray from rfl] at this
 obtain ⟨w1, w2, h1, h2, _, h4, _, h6, _⟩ := box_newG (cs := s.map zy) hT (fun c hc => by rw [List.eq_of_mem_replicate hc]; rfl) (by simp) (by simp [hs]) (zkr s) w
 exact ⟨w1, w2, h1, h2, h4, h6⟩
theorem W_ldFU (B : Base P N) (hU : N.zu ≠ 0) {vv idx off q b oo : Nat} {Tt : TypeId} {s : List UInt8} {loc : List Nat} {N' : Nat} {Q : Exit → Env → World → Prop} {σ : Env} {w : World} (hT : HF P Tt idx off) (hs : s.length = 16)
  (hv : σ vv = .pointer (some ⟨b, oo, none⟩)) (hr : w.rangeAt b (oo + off) (s.map zy)) (hQ : ∀ σ' w' bq, Mod w w' zad → (∀ i, i ≠ q → σ' i = σ i) → σ' q = .pointer (some ⟨bq, 0, none⟩) → w'.rangeAt bq 0 (s.map zy) → Q .normal σ' w') :
  W P loc N' (.ops (zxk vv Tt idx N.zu ++ [⟨some (q + 100), .alloc N.zu, 0, none, []⟩, ⟨none, .store N.zu (V q) (T 3), 0, none, []⟩])) Q σ w := by
 have hld := (B.uuid hU).run_load (w := w) hr (by simp [hs]) (fun h => by cases h)
 have hlv : ldv (.array 16 N.zg) (s.map zy) = .agg (s.map zy).toArray := rfl
 rw [hlv] at hld
 obtain ⟨w1, w2, hal, hst, m2, r2⟩ := boxU B hU hs w
 unfold zxk
 simp only [List.cons_append, List.nil_append]
 refine zj fun τ => ?_
 simp +decide (disch := omega) only [bK, bE, Nat.reduceBeqDiff, BEq.rfl, hv]
 rw [zw rfl]
 simp +decide (disch := omega) only [bK, bE, BEq.rfl, hT.run, hld, hal, hst]
 refine zc (K := fun σ' w' => Q .normal σ' w') fun σ' hσ => hQ σ' w2 w.heap.size m2 (fun i hi => ?_) ?_ r2
 ·rw [hσ i]
  have e1 : (i + 100 == q + 100) = false := beq_eq_false_iff_ne.2 (by omega)
  simp +decide (disch := omega) only [bE, Nat.reduceBeqDiff, e1]
 ·rw [hσ q]
  simp +decide (disch := omega) only [bE, BEq.rfl]
theorem W_ldEU (B : Base P N) (hU : N.zu ≠ 0) {q b n c j a1 a2 : Nat} {st : TypeId} {z2 : Value} {s : List UInt8} {loc : List Nat} {N' : Nat} {Q : Exit → Env → World → Prop} {σ : Env} {w : World} (hS : TI P st (.slice N.zu) a1 a2 z2) (hs : s.length = 16)
  (hv : σ q = .slice (some ⟨b, 0, none⟩) n c) (hi : σ (q + 5) = .int .i64 j) (hj : j < n) (hr : w.rangeAt b (j * 16) (s.map zy)) (hQ : ∀ σ' w' bq, Mod w w' zad → (∀ i, i ≠ q + 6 → σ' i = σ i) → σ' (q + 6) = .pointer (some ⟨bq, 0, none⟩) → w'.rangeAt bq 0 (s.map zy) → Q .normal σ' w') :
  W P loc N' (.ops (zzl st N.zu q ++ [⟨some (q + 6 + 100), .alloc N.zu, 0, none, []⟩, ⟨none, .store N.zu (V (q + 6)) (T 3), 0, none, []⟩])) Q σ w := by
 have hld := (B.uuid hU).run_load (w := w) hr (by simp [hs]) (fun h => by cases h)
 have hlv : ldv (.array 16 N.zg) (s.map zy) = .agg (s.map zy).toArray := rfl
 rw [hlv] at hld
 have hix := zbv (w := w) hS (B.uuid hU) (bl := b) (o := 0) (n := n) (c := c) (i := j) (k := .i64) hj
 rw [Nat.zero_add] at hix
 obtain ⟨w1, w2, hal, hst, m2, r2⟩ := boxU B hU hs w
 unfold zzl
 simp only [List.cons_append, List.nil_append]
 refine zj fun τ => ?_
 simp +decide (disch := omega) only [bK, bE, Nat.reduceBeqDiff, BEq.rfl, hv, hi, hix, hld, hal, hst]
 refine zc (K := fun σ' w' => Q .normal σ' w') fun σ' hσ => hQ σ' w2 w.heap.size m2 (fun i hi => ?_) ?_ r2
 ·rw [hσ i]
  have e1 : (i + 100 == q + 6 + 100) = false := beq_eq_false_iff_ne.2 (by omega)
  simp +decide (disch := omega) only [bE, Nat.reduceBeqDiff, e1]
 ·rw [hσ (q + 6)]
  simp +decide (disch := omega) only [bE, BEq.rfl]
theorem W_cApU (B : Base P N) (hU : N.zu ≠ 0) {f q bq : Nat} {s : List UInt8} {loc : List Nat} {N' : Nat} {Q : Exit → Env → World → Prop} {w0 w : World} {lo : Nat} {ver : Int} {fl : Bool} {d : Value} {l : List UInt8} {σ : Env} (hf : zcs P f) (h : AS w0 lo ver fl d l σ w) (hs : s.length = 16) (hq : σ q = .pointer (some ⟨bq, 0, none⟩)) (hr : w.rangeAt bq 0 (s.map zy))
  (hc : Call P f #[d, .agg (s.map zy).toArray] w (Apd w lo d l s)) (hQ : ∀ σ' w' d', AS w0 lo ver fl d' (l ++ s) σ' w' → (∀ i, i ≠ 1 → σ' i = σ i) → Q .normal σ' w') : W P loc N' (cAp N f N.zu q (.load N.zu (V q))) Q σ w := by
 have hld := (B.uuid hU).run_load (w := w) hr (by simp [hs]) (fun h => by cases h)
 have hlv : ldv (.array 16 N.zg) (s.map zy) = .agg (s.map zy).toArray := rfl
 rw [hlv] at hld
 unfold cAp
 refine zj fun τ => ?_
 simp +decide (disch := omega) only [bK, bE, Nat.reduceBeqDiff, Nat.reduceAdd, h.f1, hq, hld]
 rw [zan hf]
 simp +decide (disch := omega) only [bK, bE, Nat.reduceBeqDiff, BEq.rfl]
 refine hc.mono ?_
 intro d' w' ha
 have fr : ∀ (σ' : Env), (∀ i, σ' i = if i = 1 then d' else σ i) → Q .normal σ' w' := fun σ' hσ =>
  hQ σ' w' d' (h.step ha (by rw [hσ]; rfl) (by rw [hσ]; rfl) (by rw [hσ]; rfl)) fun i hi => by rw [hσ, if_neg hi]
 refine zc (K := fun σ' w' => Q .normal σ' w') fun σ' hσ => fr σ' fun i => ?_
 rw [hσ i]
 by_cases hi : i = 1
 ·subst hi; rfl
 ·have e1 : (i + 100 == 101) = false := beq_eq_false_iff_ne.2 (by omega)
  rw [if_neg hi]
  simp +decide only [bE, Nat.reduceBeqDiff, e1]
end
mutual
def Val.sm : Val → Prop
 | .num v => (zgm v).length < 4294967295
 | .nstr (some l) => l.length < 4294967295
 | .oct (some l) => l.length < 4294967295
 | .arr _ l => l.length < 4294967295 ∧ smL l
 | .row l => smL l
 | .tags l => l.length < 4294967295 ∧ ∀ x ∈ l, x.2.length < 4294967295
 | _ => True
def smL : List Val → Prop
 | [] => True
 | v :: l => v.sm ∧ smL l
end
theorem smL.mem : ∀ {l : List Val}, smL l → ∀ v ∈ l, v.sm
 | [], _, v, h => by cases h
 | x :: l, h, v, hv => by
  simp only [smL] at h
  rcases List.mem_cons.1 hv with rfl | hv
  ·exact h.1
  ·exact smL.mem h.2 v hv
structure ApC (P : Program) (N : Nums) (A : zdp) : Prop where
 pr : ∀ k : PK, k.af A ≠ 0 → zcs P (k.af A) ∧ ∀ v, k.okV v → ApF P (k.af A) v (k.wr v)
 txt : ∀ (t : Txt) (fl : Bool), t.af A fl ≠ 0 → zcs P (t.af A fl) ∧ ∀ {w : World} {lo : Nat} {d c : Value} {l : List UInt8} {G : Nat → Prop} (v : Val), t.okV v → v.sm → Rep w G v [c] → (∀ k, G k → k < lo) → OwnB w lo d l → lo ≤ w.heap.size →
  l.length + (t.wr fl v).length < 1099511627776 → Call P (t.af A fl) #[d, c] w (Apd w lo d l (t.wr fl v))
 al : ∀ fl : Bool, (if fl then A.zbg else A.zcq) ≠ 0 → zcs P (if fl then A.zbg else A.zcq) ∧ ∀ n : Nat, n < 4294967295 → ApF P (if fl then A.zbg else A.zcq) (.int .i64 n) (zr fl false n 4)
 nl : ∀ fl : Bool, (if fl then A.zaj else A.zbb) ≠ 0 → zcs P (if fl then A.zaj else A.zbb) ∧ ∀ (n : Nat) (b : Bool), n < 4294967295 → ApF2 P (if fl then A.zaj else A.zbb) (.int .i64 n) (.bool b) (zr fl b n 4)
 uv : UvT P N A
 tl : FOk P A.zjl 1 (zlg N A) [.var 1]
 ea : FOk P A.zei 2 (zfn N A) [.var 3]
 e1 : FOk P A.zcx 3 (zdx N A) []
 tn : EachN P N
def HeldV (k : PK) (σ : Env) (w : World) (q : Nat) (v : Value) : Prop := match k with
 | .uuid => ∃ bq, ∃ s : List UInt8, v = .agg (s.map zy).toArray ∧ s.length = 16 ∧ σ q = .pointer (some ⟨bq, 0, none⟩) ∧ w.rangeAt bq 0 (s.map zy)
 | _ => σ q = v
section
variable {P : Program} {N : Nums} {A : zdp}
theorem W_prAp (B : Base P N) (C : ApC P N A) {k : PK} (hk : k.af A ≠ 0) (hu : k = .uuid → N.zu ≠ 0) {v : Value} (hv : k.okV v) {q : Nat} {loc : List Nat} {N' : Nat} {Q : Exit → Env → World → Prop} {w0 w : World} {lo : Nat} {ver : Int} {fl : Bool} {d : Value} {l : List UInt8} {σ : Env}
  (hh : HeldV k σ w q v) (h : AS w0 lo ver fl d l σ w) (hlo : lo ≤ w0.heap.size) (hlen : l.length + (k.wr v).length < 1099511627776) (hQ : ∀ σ' w' d', AS w0 lo ver fl d' (l ++ k.wr v) σ' w' → (∀ i, i ≠ 1 → σ' i = σ i) → Q .normal σ' w') : W P loc N' (k.ap N A q) Q σ w := by
 obtain ⟨hb, hc⟩ := C.pr k hk
 have hcall : Call P (k.af A) #[d, v] w (Apd w lo d l (k.wr v)) := hc v hv h.own (Nat.le_trans hlo h.mod.size) hlen
 cases k with
 | uuid =>
  obtain ⟨bq, s, rfl, hs, hq, hr⟩ := hh
  have e : PK.wr .uuid (.agg (s.map zy).toArray) = s := zrm s
  rw [e] at hcall hlen hQ
  exact W_cApU B (hu rfl) hb h hs hq hr hcall hQ
 | _ => exact W_cAp hb h hh hcall hQ
theorem W_prF (B : Base P N) {k : PK} (hu : k = .uuid → N.zu ≠ 0) {v : Value} (hv : k.okV v) {vv idx off q b oo : Nat} {Tt : TypeId} {loc : List Nat} {N' : Nat} {Q : Exit → Env → World → Prop} {σ : Env} {w : World} (hT : HF P Tt idx off)
  (hvv : σ vv = .pointer (some ⟨b, oo, none⟩)) (hr : w.rangeAt b (oo + off) v.cells.toList) (hQ : ∀ σ' w', Mod w w' zad → (∀ i, i ≠ q → σ' i = σ i) → HeldV k σ' w' q v → Q .normal σ' w') :
  W P loc N' (.ops (zxk vv Tt idx (k.t N) ++ k.ldq N 3 q)) Q σ w := by
 cases k with
 | uuid =>
  obtain ⟨s, rfl, hs⟩ := hv
  exact W_ldFU B (hu rfl) hT hs hvv (by simpa [Value.cells] using hr) fun σ' w' bq m f1 f2 f3 => hQ σ' w' m f1 ⟨bq, s, rfl, hs, f2, f3⟩
 | bool => obtain ⟨x, rfl⟩ := hv; exact zyo hT B.bool hvv hr rfl (fun _ => rfl) fun σ' f1 f2 => hQ σ' w (.refl _ _) f1 f2
 | i8 => obtain ⟨x, rfl, _⟩ := hv; exact zyo hT B.int8 hvv hr rfl (fun _ => rfl) fun σ' f1 f2 => hQ σ' w (.refl _ _) f1 f2
 | i16 => obtain ⟨x, rfl, _⟩ := hv; exact zyo hT B.int16 hvv hr rfl (fun _ => rfl) fun σ' f1 f2 => hQ σ' w (.refl _ _) f1 f2
 | u16 => obtain ⟨x, rfl, _⟩ := hv; exact zyo hT B.uint16 hvv hr rfl (fun _ => rfl) fun σ' f1 f2 => hQ σ' w (.refl _ _) f1 f2
 | i32 => obtain ⟨x, rfl, _⟩ := hv; exact zyo hT B.int32 hvv hr rfl (fun _ => rfl) fun σ' f1 f2 => hQ σ' w (.refl _ _) f1 f2
 | i64 => obtain ⟨x, rfl, _⟩ := hv; exact zyo hT B.int64 hvv hr rfl (fun _ => rfl) fun σ' f1 f2 => hQ σ' w (.refl _ _) f1 f2
theorem W_prE (B : Base P N) {k : PK} (hu : k = .uuid → N.zu ≠ 0) {v : Value} (hv : k.okV v) {q b n c j a1 a2 : Nat} {st : TypeId} {z2 : Value} {loc : List Nat} {N' : Nat} {Q : Exit → Env → World → Prop} {σ : Env} {w : World} (hS : TI P st (.slice (k.t N)) a1 a2 z2)
  (hvq : σ q = .slice (some ⟨b, 0, none⟩) n c) (hi : σ (q + 5) = .int .i64 j) (hj : j < n) (hr : w.rangeAt b (j * k.sz) v.cells.toList) (hQ : ∀ σ' w', Mod w w' zad → (∀ i, i ≠ q + 6 → σ' i = σ i) → HeldV k σ' w' (q + 6) v → Q .normal σ' w') :
  W P loc N' (.ops (zzl st (k.t N) q ++ k.ldq N 3 (q + 6))) Q σ w := by
 cases k with
 | uuid =>
  obtain ⟨s, rfl, hs⟩ := hv
  exact W_ldEU B (hu rfl) hS hs hvq hi hj (by have : w.rangeAt b (j * 16) (Value.agg (s.map zy).toArray).cells.toList := hr; simpa [Value.cells] using this) fun σ' w' bq m f1 f2 f3 => hQ σ' w' m f1 ⟨bq, s, rfl, hs, f2, f3⟩
 | bool => obtain ⟨x, rfl⟩ := hv; exact zzz hS B.bool hvq hi hj hr rfl (fun _ => rfl) fun σ' f1 f2 => hQ σ' w (.refl _ _) f1 f2
 | i8 => obtain ⟨x, rfl, _⟩ := hv; exact zzz hS B.int8 hvq hi hj hr rfl (fun _ => rfl) fun σ' f1 f2 => hQ σ' w (.refl _ _) f1 f2
 | i16 => obtain ⟨x, rfl, _⟩ := hv; exact zzz hS B.int16 hvq hi hj hr rfl (fun _ => rfl) fun σ' f1 f2 => hQ σ' w (.refl _ _) f1 f2
 | u16 => obtain ⟨x, rfl, _⟩ := hv; exact zzz hS B.uint16 hvq hi hj hr rfl (fun _ => rfl) fun σ' f1 f2 => hQ σ' w (.refl _ _) f1 f2
 | i32 => obtain ⟨x, rfl, _⟩ := hv; exact zzz hS B.int32 hvq hi hj hr rfl (fun _ => rfl) fun σ' f1 f2 => hQ σ' w (.refl _ _) f1 f2
 | i64 => obtain ⟨x, rfl, _⟩ := hv; exact zzz hS B.int64 hvq hi hj hr rfl (fun _ => rfl) fun σ' f1 f2 => hQ σ' w (.refl _ _) f1 f2
theorem W_txtAp (C : ApC P N A) {t : Txt} (ht1 : t.af A true ≠ 0) (ht0 : t.af A false ≠ 0) {v : Val} (hv : t.okV v) (hsm : v.sm) {c : Value} {G : Nat → Prop} {q : Nat} {loc : List Nat} {N' : Nat} (hloc : zfv loc N') {Q : Exit → Env → World → Prop} {w0 w : World} {lo : Nat} {ver : Int} {fl : Bool} {d : Value} {l : List UInt8} {σ : Env}
  (hq5 : 5 ≤ q) (hq : σ q = c) (hrep : Rep w G v [c]) (hG : ∀ k, G k → k < lo) (h : AS w0 lo ver fl d l σ w) (hlo : lo ≤ w0.heap.size) (hlen : l.length + (t.wr fl v).length < 1099511627776)
  (hQ : ∀ σ' w' d', AS w0 lo ver fl d' (l ++ t.wr fl v) σ' w' → (∀ i, i ≠ 1 → i ≠ q + 1 → σ' i = σ i) → Q .normal σ' w') : W P loc N' (t.ap N A q) Q σ w := by
 unfold Txt.ap
 refine zd fun K hK => zj fun τ => ?_
 simp +decide (disch := omega) only [runR, zol, ev_tmp, envOf_var, Nat.reduceAdd, h.f4]
 refine hK _ _ (zc fun σ1 hσ => ?_)
 have g : ∀ i, i ≠ q + 1 → σ1 i = σ i := fun i hi => by
  rw [hσ i]
  have e1 : (i + 100 == q + 1 + 100) = false := beq_eq_false_iff_ne.2 (by omega)
  simp +decide (disch := omega) only [zhw, envOf_var, sel_false, e1]
 have gq : σ1 (q + 1) = .bool fl := by
  rw [hσ (q + 1)]
  simp +decide (disch := omega) only [zhw, sel_true, BEq.rfl]
 clear hσ hK K
 have h1 : AS w0 lo ver fl d l σ1 w := h.env (g 1 (by omega)) (g 3 (by omega)) (g 4 (by omega))
 refine W_if hloc gq ?_
 cases fl with
 | true =>
  simp only [if_true]
  obtain ⟨hb, hc⟩ := C.txt t true ht1
  exact W_cAp hb h1 (by rw [g q (by omega)]; exact hq) (hc v hv hsm hrep hG h.own (Nat.le_trans hlo h.mod.size) hlen) fun σ' w' d' ha f => hQ σ' w' d' ha fun i h1 h2 => (f i h1).trans (g i h2)
 | false =>
  simp only [Bool.false_eq_true, if_false]
  obtain ⟨hb, hc⟩ := C.txt t false ht0
  exact W_cAp hb h1 (by rw [g q (by omega)]; exact hq) (hc v hv hsm hrep hG h.own (Nat.le_trans hlo h.mod.size) hlen) fun σ' w' d' ha f => hQ σ' w' d' ha fun i h1 h2 => (f i h1).trans (g i h2)
end
section
variable {P : Program} {N : Nums} {A : zdp}
theorem W_al1 {nul : Option Int} {st et q n c a1 a2 f : Nat} {z : Value} {a : Option Addr} {loc : List Nat} {N' : Nat} {Q : Exit → Env → World → Prop} {w0 w : World} {lo : Nat} {ver : Int} {fl : Bool} {d : Value} {l s : List UInt8} {σ : Env} (hst : TI P st (.slice et) a1 a2 z)
  (fl' : Bool) (hnul : nul = none) (hf : f = if fl' then A.zbg else A.zcq) (hb : zcs P f) (hq : σ q = .slice a n c) (h : AS w0 lo ver fl d l σ w) (hc : Call P f #[d, .int .i64 n] w (Apd w lo d l s))
  (hQ : ∀ σ' w' d', AS w0 lo ver fl d' (l ++ s) σ' w' → (∀ i, i ≠ 1 → σ' i = σ i) → Q .normal σ' w') : W P loc N' (cAl N A nul fl' st q) Q σ w := by
 subst hnul
 unfold cAl
 simp only
 rw [← hf]
 refine zj fun τ => ?_
 simp +decide (disch := omega) only [bK, bE, Nat.reduceBeqDiff, BEq.rfl, Nat.reduceAdd, h.f1, hq, hst.run_len]
 rw [zan hb]
 simp +decide (disch := omega) only [bK, bE, Nat.reduceBeqDiff, BEq.rfl]
 refine hc.mono ?_
 intro d' w' ha
 have fr : ∀ (σ' : Env), (∀ i, σ' i = if i = 1 then d' else σ i) → Q .normal σ' w' := fun σ' hσ =>
  hQ σ' w' d' (h.step ha (by rw [hσ]; rfl) (by rw [hσ]; rfl) (by rw [hσ]; rfl)) fun i hi => by rw [hσ, if_neg hi]
 refine zc (K := fun σ' w' => Q .normal σ' w') fun σ' hσ => fr σ' fun i => ?_
 rw [hσ i]
 by_cases hi : i = 1
 ·subst hi; rfl
 ·have e1 : (i + 100 == 101) = false := beq_eq_false_iff_ne.2 (by omega)
  rw [if_neg hi]
  simp +decide only [bE, Nat.reduceBeqDiff, e1]
theorem W_al2 {nul : Option Int} {k : Int} {st et q n c a1 a2 f : Nat} {z : Value} {a : Option Addr} {loc : List Nat} {N' : Nat} {Q : Exit → Env → World → Prop} {w0 w : World} {lo : Nat} {ver : Int} {fl : Bool} {d : Value} {l s : List UInt8} {σ : Env} (hst : TI P st (.slice et) a1 a2 z)
  (fl' : Bool) (hnul : nul = some k) (hf : f = if fl' then A.zaj else A.zbb) (hb : zcs P f) (hq : σ q = .slice a n c) (h : AS w0 lo ver fl d l σ w) (hc : Call P f #[d, .int .i64 n, .bool a.isNone] w (Apd w lo d l s))
  (hQ : ∀ σ' w' d', AS w0 lo ver fl d' (l ++ s) σ' w' → (∀ i, i ≠ 1 → σ' i = σ i) → Q .normal σ' w') : W P loc N' (cAl N A nul fl' st q) Q σ w := by
 subst hnul
 unfold cAl
 simp only
 rw [← hf]
 refine zj fun τ => ?_
 simp +decide (disch := omega) only [bK, bE, Nat.reduceBeqDiff, BEq.rfl, Nat.reduceAdd, h.f1, hq, hst.run_len, run_eqlS hst.und]
 rw [zix hb]
 simp +decide (disch := omega) only [bK, bE, Nat.reduceBeqDiff, BEq.rfl]
 refine hc.mono ?_
 intro d' w' ha
 have fr : ∀ (σ' : Env), (∀ i, σ' i = if i = 1 then d' else σ i) → Q .normal σ' w' := fun σ' hσ =>
  hQ σ' w' d' (h.step ha (by rw [hσ]; rfl) (by rw [hσ]; rfl) (by rw [hσ]; rfl)) fun i hi => by rw [hσ, if_neg hi]
 refine zc (K := fun σ' w' => Q .normal σ' w') fun σ' hσ => fr σ' fun i => ?_
 rw [hσ i]
 by_cases hi : i = 1
 ·subst hi; rfl
 ·have e1 : (i + 100 == 101) = false := beq_eq_false_iff_ne.2 (by omega)
  rw [if_neg hi]
  simp +decide only [bE, Nat.reduceBeqDiff, e1]
def alOk (A : zdp) : Option Int → Prop
 | none => A.zbg ≠ 0 ∧ A.zcq ≠ 0
 | some k => k ≤ 0 ∧ A.zaj ≠ 0 ∧ A.zbb ≠ 0
theorem W_al (C : ApC P N A) {nul : Option Int} {st et q n c a1 a2 : Nat} {z : Value} {a : Option Addr} {loc : List Nat} {N' : Nat} (hloc : zfv loc N') {Q : Exit → Env → World → Prop} {w0 w : World} {lo : Nat} {ver : Int} {fl : Bool} {d : Value} {l : List UInt8} {σ : Env} (hst : TI P st (.slice et) a1 a2 z)
  (ho : alOk A nul) (hq5 : 5 ≤ q) (hq : σ q = .slice a n c) (hn : n < 4294967295) (h : AS w0 lo ver fl d l σ w) (hlo : lo ≤ w0.heap.size) (hlen : l.length + (zr fl (nul.isSome && a.isNone) n 4).length < 1099511627776)
  (hQ : ∀ σ' w' d', AS w0 lo ver fl d' (l ++ zr fl (nul.isSome && a.isNone) n 4) σ' w' → (∀ i, i ≠ 1 → i ≠ q + 1 → σ' i = σ i) → Q .normal σ' w') :
  W P loc N' (.seq (.ops [⟨some (q + 1 + 100), .move (V 4), 0, none, []⟩]) (.cond (q + 1) (cAl N A nul true st q) (cAl N A nul false st q))) Q σ w := by
 refine zd fun K hK => zj fun τ => ?_
 simp +decide (disch := omega) only [bK, bE, Nat.reduceAdd, h.f4]
 refine hK _ _ (zc fun σ1 hσ => ?_)
 have g : ∀ i, i ≠ q + 1 → σ1 i = σ i := fun i hi => by
  rw [hσ i]
  have e1 : (i + 100 == q + 1 + 100) = false := beq_eq_false_iff_ne.2 (by omega)
  simp +decide (disch := omega) only [bE, e1]
 have gq : σ1 (q + 1) = .bool fl := by
  rw [hσ (q + 1)]
  simp +decide (disch := omega) only [bE, BEq.rfl]
 clear hσ hK K
 have h1 : AS w0 lo ver fl d l σ1 w := h.env (g 1 (by omega)) (g 3 (by omega)) (g 4 (by omega))
 have hq1 : σ1 q = .slice a n c := by rw [g q (by omega)]; exact hq
 have hlow := Nat.le_trans hlo h.mod.size
 refine W_if hloc gq ?_
 cases nul with
 | none =>
  have e : ((none : Option Int).isSome && a.isNone) = false := rfl
  rw [e] at hlen hQ
  cases fl with
  | true =>
   simp only [if_true]
   obtain ⟨hb, hc⟩ := C.al true ho.1
   exact W_al1 hst true rfl rfl hb hq1 h1 (hc n hn h.own hlow hlen) fun σ' w' d' ha f => hQ σ' w' d' ha fun i h1 h2 => (f i h1).trans (g i h2)
  | false =>
   simp only [Bool.false_eq_true, if_false]
   obtain ⟨hb, hc⟩ := C.al false ho.2
   exact W_al1 hst false rfl rfl hb hq1 h1 (hc n hn h.own hlow hlen) fun σ' w' d' ha f => hQ σ' w' d' ha fun i h1 h2 => (f i h1).trans (g i h2)
 | some k =>
  have e : ((some k : Option Int).isSome && a.isNone) = a.isNone := by simp
  rw [e] at hlen hQ
  cases fl with
  | true =>
   simp only [if_true]
   obtain ⟨hb, hc⟩ := C.nl true ho.2.1
   exact W_al2 hst true rfl rfl hb hq1 h1 (hc n a.isNone hn h.own hlow hlen) fun σ' w' d' ha f => hQ σ' w' d' ha fun i h1 h2 => (f i h1).trans (g i h2)
  | false =>
   simp only [Bool.false_eq_true, if_false]
   obtain ⟨hb, hc⟩ := C.nl false ho.2.2
   exact W_al2 hst false rfl rfl hb hq1 h1 (hc n a.isNone hn h.own hlow hlen) fun σ' w' d' ha f => hQ σ' w' d' ha fun i h1 h2 => (f i h1).trans (g i h2)
end
section
variable (P : Program) (N : Nums) (A : zdp)
mutual
def El.aok : El → Prop
 | .pr k => k.af A ≠ 0 ∧ (k = .uuid → N.zu ≠ 0)
 | .txt t => t.af A true ≠ 0 ∧ t.af A false ≠ 0 ∧ (t = .nstr → N.zbm ≠ 0)
 | .row T' _ _ fs => fs.hf P T' 0 0 ∧ fs.aok
def Ty.aok : Ty → Prop
 | .pr k _ => k.af A ≠ 0 ∧ (k = .uuid → N.zu ≠ 0)
 | .txt t => t.af A true ≠ 0 ∧ t.af A false ≠ 0 ∧ (t = .nstr → N.zbm ≠ 0)
 | .arr st nul e => TI P st (.slice (e.ty N)) 1 24 (.slice none 0 0) ∧ (∃ d by' z, TI P (e.ty N) d e.sz by' z) ∧ alOk A nul ∧ e.aok
 | .row .. => False
def Fds.aok : Fds → Prop
 | .cons _ ty r => ty.aok ∧ r.aok
 | _ => True
end
variable (ver : Int) (fl : Bool)
def TyW (ty : Ty) : Prop := ∀ {w0 w : World} {G : Nat → Prop} {lo b oo vv idx off q kk : Nat} {Tt : TypeId} {d : Value} {l : List UInt8} {σ : Env} {loc : List Nat} {N' : Nat} {Q : Exit → Env → World → Prop} (v : Val) (cs : List Value),
 zfv loc N' → ty.okV v → v.sm → Rep w0 G v cs → w0.rangeAt b (oo + off) cs → (∀ k, G k → k < lo) → b < lo → lo ≤ w0.heap.size → HF P Tt idx off → σ vv = .pointer (some ⟨b, oo, none⟩) → 5 ≤ q → AS w0 lo ver fl d l σ w → l.length + (ty.wr ver fl v).length < 1099511627776 →
 (∀ σ' w' d', AS w0 lo ver fl d' (l ++ ty.wr ver fl v) σ' w' → (∀ i, i < q → i ≠ 1 → σ' i = σ i) → Q .normal σ' w') → W P loc N' (ty.agen N A vv Tt idx q kk) Q σ w
def ElW (e : El) : Prop := ∀ {w0 w : World} {G : Nat → Prop} {lo be n c j q kk : Nat} {st : TypeId} {d : Value} {l : List UInt8} {σ : Env} {loc : List Nat} {N' : Nat} {Q : Exit → Env → World → Prop} (v : Val) (cs : List Value),
 zfv loc N' → e.okV v → v.sm → Rep w0 G v cs → w0.rangeAt be (j * e.sz) cs → (∀ k, G k → k < lo) → be < lo → lo ≤ w0.heap.size → TI P st (.slice (e.ty N)) 1 24 (.slice none 0 0) → (∃ d by' z, TI P (e.ty N) d e.sz by' z) → σ q = .slice (some ⟨be, 0, none⟩) n c → σ (q + 5) = .int .i64 j → j < n → 5 ≤ q →
 AS w0 lo ver fl d l σ w → l.length + (e.wr ver fl v).length < 1099511627776 →
 (∀ σ' w' d', AS w0 lo ver fl d' (l ++ e.wr ver fl v) σ' w' → (∀ i, i < q + 6 → i ≠ 1 → σ' i = σ i) → Q .normal σ' w') → W P loc N' (e.agen N A st q kk) Q σ w
def FdsW (fs : Fds) : Prop := ∀ {w0 w : World} {G : Nat → Prop} {lo b oo vv idx off q kk : Nat} {Tt : TypeId} {d : Value} {l : List UInt8} {σ : Env} {loc : List Nat} {N' : Nat} {Q : Exit → Env → World → Prop} {tl : List C} (vs : List Val) (css : List (List Value)),
 zfv loc N' → fs.okV vs → smL vs → RepL w0 G vs css → w0.rangeAt b (oo + off) css.flatten → (∀ k, G k → k < lo) → b < lo → lo ≤ w0.heap.size → fs.hf P Tt idx off → σ vv = .pointer (some ⟨b, oo, none⟩) → vv < q → vv ≠ 1 → 5 ≤ q → AS w0 lo ver fl d l σ w → l.length + (fs.wr ver fl vs).length < 1099511627776 →
 (∀ σ' w' d', AS w0 lo ver fl d' (l ++ fs.wr ver fl vs) σ' w' → (∀ i, i < q → i ≠ 1 → σ' i = σ i) → WL P loc N' tl Q σ' w') → WL P loc N' (fs.agen N A vv Tt idx q kk ++ tl) Q σ w
end
section
variable {P : Program} {N : Nums} {A : zdp}
theorem txt_tiA (B : Base P N) {t : Txt} (h : t = .nstr → N.zbm ≠ 0) : ∃ d by', TI P (t.t N) d 1 by' t.zero ∧ zoy d = false := by
 cases t with
 | str => exact ⟨_, _, B.string, rfl⟩
 | nstr => exact ⟨_, _, B.pstring (h rfl), rfl⟩
 | byt => exact ⟨_, _, B.Lu8, rfl⟩
 | nbyt => exact ⟨_, _, B.Lu8, rfl⟩
theorem txt_cell {t : Txt} {w : World} {G : Nat → Prop} {v : Val} {cs : List Value} (hv : t.okV v) (hr : Rep w G v cs) : ∃ c, cs = [c] := by
 cases t <;> cases v <;> simp only [Txt.okV] at hv
 ·obtain ⟨x, rfl, _⟩ := hv; simp only [Rep] at hr; exact ⟨_, hr⟩
 ·rename_i o
  cases o with
  | none => simp only [Rep] at hr; exact ⟨_, hr⟩
  | some s => simp only [Rep] at hr; obtain ⟨b, e, _⟩ := hr; exact ⟨_, e⟩
 ·simp only [Rep] at hr; obtain ⟨u, e, _⟩ := hr; exact ⟨_, e⟩
 ·simp only [Rep] at hr; obtain ⟨u, e, _⟩ := hr; exact ⟨_, e⟩
theorem tyW_pr (B : Base P N) (C : ApC P N A) {ver : Int} {fl : Bool} {k : PK} {dd : Option Value} (ha : (Ty.pr k dd).aok P N A) : TyW P N A ver fl (.pr k dd) := by
 intro w0 w G lo b oo vv idx off q kk Tt d l σ loc N' Q v cs hloc hv hsm hrep hr hG hb hlo hT hvv hq h hlen hQ
 obtain ⟨ha1, ha2⟩ := ha
 cases v with
 | num v =>
  simp only [Rep] at hrep
  subst hrep
  have hr' : w.rangeAt b (oo + off) v.cells.toList := h.mod.rangeAt (by omega) (fun _ _ _ h => by omega) hr
  unfold Ty.agen
  refine zd fun K hK => W_prF B ha2 hv hT hvv hr' fun σ1 w1 m1 f1 hh => hK _ _ ?_
  exact W_prAp B C ha1 ha2 hv hh ((h.env (σ' := σ1) (f1 1 (by omega)) (f1 3 (by omega)) (f1 4 (by omega))).fresh m1) hlo hlen fun σ' w' d' ha f => hQ σ' w' d' ha fun i hi h1 => (f i h1).trans (f1 i (by omega))
 | _ => simp only [Ty.okV] at hv
theorem tyW_txt (B : Base P N) (C : ApC P N A) {ver : Int} {fl : Bool} {t : Txt} (ha : (Ty.txt t).aok P N A) : TyW P N A ver fl (.txt t) := by
 intro w0 w G lo b oo vv idx off q kk Tt d l σ loc N' Q v cs hloc hv hsm hrep hr hG hb hlo hT hvv hq h hlen hQ
 obtain ⟨ha1, ha2, ha3⟩ := ha
 have hv' : t.okV v := by cases v <;> exact hv
 obtain ⟨c, rfl⟩ := txt_cell hv' hrep
 obtain ⟨dt, by', hti, hag⟩ := txt_tiA B ha3
 have hr' : w.rangeAt b (oo + off) [c] := h.mod.rangeAt (by omega) (fun _ _ _ h => by omega) hr
 have hrep' : Rep w G v [c] := Rep.mod h.mod (fun k hk => ⟨by have := hG k hk; omega, fun _ h => by have := hG k hk; omega, hk⟩) v hrep
 have hld : ldv dt [c] = c := by unfold ldv; rw [hag]; rfl
 unfold Ty.agen
 refine zd fun K hK => zyo hT hti hvv hr' rfl (fun _ => rfl) fun σ1 f1 g1 => hK _ _ ?_
 rw [hld] at g1
 have e : (Ty.txt t).wr ver fl v = t.wr fl v := by cases v <;> simp only [Ty.wr]
 rw [e] at hlen hQ
 exact W_txtAp C ha1 ha2 hv' hsm hloc hq g1 hrep' hG (h.env (f1 1 (by omega)) (f1 3 (by omega)) (f1 4 (by omega))) hlo hlen fun σ' w' d' ha f => hQ σ' w' d' ha fun i hi h1 => (f i h1 (by omega)).trans (f1 i (by omega))
theorem elW_pr (B : Base P N) (C : ApC P N A) {ver : Int} {fl : Bool} {k : PK} (ha : (El.pr k).aok P N A) : ElW P N A ver fl (.pr k) := by
 intro w0 w G lo be n c j q kk st d l σ loc N' Q v cs hloc hv hsm hrep hr hG hb hlo hst het hvq hi hj hq h hlen hQ
 obtain ⟨ha1, ha2⟩ := ha
 cases v with
 | num v =>
  simp only [Rep] at hrep
  subst hrep
  have hr' : w.rangeAt be (j * k.sz) v.cells.toList := h.mod.rangeAt (by omega) (fun _ _ _ h => by omega) hr
  unfold El.agen
  refine zd fun K hK => W_prE B ha2 hv hst hvq hi hj hr' fun σ1 w1 m1 f1 hh => hK _ _ ?_
  exact W_prAp B C ha1 ha2 hv hh ((h.env (σ' := σ1) (f1 1 (by omega)) (f1 3 (by omega)) (f1 4 (by omega))).fresh m1) hlo hlen fun σ' w' d' ha f => hQ σ' w' d' ha fun i hi h1 => (f i h1).trans (f1 i (by omega))
 | _ => simp only [El.okV] at hv
theorem elW_txt (B : Base P N) (C : ApC P N A) {ver : Int} {fl : Bool} {t : Txt} (ha : (El.txt t).aok P N A) : ElW P N A ver fl (.txt t) := by
 intro w0 w G lo be n c j q kk st d l σ loc N' Q v cs hloc hv hsm hrep hr hG hb hlo hst het hvq hi hj hq h hlen hQ
 obtain ⟨ha1, ha2, ha3⟩ := ha
 have hv' : t.okV v := by cases v <;> exact hv
 obtain ⟨x, rfl⟩ := txt_cell hv' hrep
 obtain ⟨dt, by', hti, hag⟩ := txt_tiA B ha3
 have hr' : w.rangeAt be (j * 1) [x] := h.mod.rangeAt (by omega) (fun _ _ _ h => by omega) hr
 have hrep' : Rep w G v [x] := Rep.mod h.mod (fun k hk => ⟨by have := hG k hk; omega, fun _ h => by have := hG k hk; omega, hk⟩) v hrep
 have hld : ldv dt [x] = x := by unfold ldv; rw [hag]; rfl
 unfold El.agen
 refine zd fun K hK => zzz hst hti hvq hi hj hr' rfl (fun _ => rfl) fun σ1 f1 g1 => hK _ _ ?_
 rw [hld] at g1
 have e : (El.txt t).wr ver fl v = t.wr fl v := by cases v <;> simp only [El.wr]
 rw [e] at hlen hQ
 exact W_txtAp C ha1 ha2 hv' hsm hloc (by omega) g1 hrep' hG (h.env (f1 1 (by omega)) (f1 3 (by omega)) (f1 4 (by omega))) hlo hlen fun σ' w' d' ha f => hQ σ' w' d' ha fun i hi h1 => (f i h1 (by omega)).trans (f1 i (by omega))
end
section
variable {P : Program} {N : Nums} {A : zdp}
section
variable {loc : List Nat} {N' : Nat} {Q : Exit → Env → World → Prop} {σ : Env} {w : World}
theorem W_gdA (hlo : zfv loc N') {g : Gd} {n : Nat} {c : Nat → C} {ver : Int} (h5 : σ 3 = .int .i16 ver) (hon : g.on ver = true → ∀ σ', Ag n σ σ' → W P loc N' (c (n + g.vn)) Q σ' w) (hoff : g.on ver = false → ∀ σ', Ag n σ σ' → Q .normal σ' w) : W P loc N' (cGdA N g n c) Q σ w := by
 cases g with
 | all => exact hon rfl σ (Ag.refl _ _)
 | ge m =>
  unfold cGdA
  refine zd fun K hK => zj fun τ => ?_
  simp +decide (disch := omega) only [bK, bE, BEq.rfl, Nat.reduceAdd, h5, zk, zao, locs_envOf]
  refine hK _ _ (W_if hlo (upd_same _ _ _) ?_)
  have a := (Ag.refl n σ).upd (v := .bool (decide (ver ≥ m))) (Nat.le_refl n)
  by_cases hg : ver ≥ m
  ·rw [decide_eq_true hg] at a ⊢
   exact hon (by simp [Gd.on, hg]) _ a
  ·rw [decide_eq_false hg] at a ⊢
   exact zbe (hoff (by simp [Gd.on]; omega) _ a)
 | btw x y =>
  unfold cGdA
  refine zd fun K hK => zj fun τ => ?_
  simp +decide (disch := omega) only [bK, bE, BEq.rfl, Nat.reduceAdd, h5]
  have fin : ∀ (ρ : Env) (bb : Bool), (∀ i, ρ (i + 100) = σ i) → bb = (Gd.btw x y).on ver → K (upd (locs ρ) n (.bool bb)) w := by
   intro ρ bb hρ hb
   have e : locs ρ = σ := by funext i; exact hρ i
   rw [e]
   refine hK _ _ (W_if hlo (upd_same _ _ _) ?_)
   have a := (Ag.refl n σ).upd (v := .bool bb) (Nat.le_refl n)
   cases bb with
   | true => exact hon hb.symm _ a
   | false => exact zbe (hoff hb.symm _ a)
  by_cases hg : ver ≥ x
  ·rw [decide_eq_true hg]
   refine Eq.mpr (zah (by simp +decide only [bE, BEq.rfl])) ?_
   simp +decide (disch := omega) only [bK, bE, Nat.reduceBeqDiff, Nat.reduceAdd, h5]
   refine Eq.mpr (zah (by simp +decide only [bE, Nat.reduceBeqDiff, BEq.rfl])) ?_
   simp +decide (disch := omega) only [bK, bE, Nat.reduceBeqDiff, BEq.rfl, if_true, zch]
   rw [show ∀ ρ : Env, ∀ v, locs (put ρ (some (n + 100)) v) = upd (locs ρ) n v from fun ρ v => zk ρ n v]
   refine fin _ _ (fun i => by simp +decide only [bE, Nat.reduceBeqDiff]) ?_
   simp [Gd.on, hg]
  ·rw [decide_eq_false hg]
   refine Eq.mpr (zbl (by simp +decide only [bE, BEq.rfl]; rfl)) ?_
   refine Eq.mpr (zbl (by simp +decide only [bE, Nat.reduceBeqDiff, BEq.rfl]; rfl)) ?_
   simp +decide (disch := omega) only [bK, bE, Nat.reduceBeqDiff, BEq.rfl, if_false, zch]
   rw [show ∀ ρ : Env, ∀ v, locs (put ρ (some (n + 100)) v) = upd (locs ρ) n v from fun ρ v => zk ρ n v]
   refine fin _ _ (fun i => by simp +decide only [bE, Nat.reduceBeqDiff]) ?_
   simp [Gd.on]; omega
end
theorem fdsW_nil {ver : Int} {fl : Bool} : FdsW P N A ver fl .nil := by
 intro w0 w G lo b oo vv idx off q kk Tt d l σ loc N' Q tl vs css hloc hv hsm hrep hr hG hb hlo hT hvv hvq hv1 hq h hlen hQ
 refine hQ σ w d ?_ fun _ _ _ => rfl
 have e : Fds.wr ver fl .nil vs = [] := by cases vs <;> rfl
 rw [e, List.append_nil]; exact h
theorem fdsW_cons (B : Base P N) {ver : Int} {fl : Bool} {g : Gd} {ty : Ty} {r : Fds} (h1 : TyW P N A ver fl ty) (h2 : FdsW P N A ver fl r) : FdsW P N A ver fl (.cons g ty r) := by
 intro w0 w G lo b oo vv idx off q kk Tt d l σ loc N' Q tl vs css hloc hv hsm hrep hr hG hb hlo hT hvv hvq hv1 hq h hlen hQ
 cases vs with
 | nil => simp only [Fds.okV] at hv
 | cons v vs =>
  obtain ⟨c, rest, rfl, r1, r2⟩ := hrep
  simp only [smL] at hsm
  have hcl := Ty.rep_len ty v hv.1 r1
  rw [List.flatten_cons, zae, hcl, Nat.add_assoc] at hr
  obtain ⟨hr1, hr2⟩ := hr
  have e : Fds.wr ver fl (.cons g ty r) (v :: vs) = (if g.on ver then ty.wr ver fl v else []) ++ r.wr ver fl vs := by rw [Fds.wr]
  rw [e] at hlen hQ
  rw [List.length_append] at hlen
  rw [Fds.agen, List.cons_append]
  refine WL_one (W_gdA hloc h.f3 (fun hon σ1 ag => ?_) (fun hoff σ1 ag => ?_))
  ·rw [if_pos hon] at hlen hQ
   refine h1 v c hloc hv.1 hsm.1 r1 hr1 hG hb hlo hT.1 (by rw [ag vv hvq]; exact hvv) (by omega) (h.env (ag 1 (by omega)) (ag 3 (by omega)) (ag 4 (by omega))) (by omega) fun σ2 w2 d2 ha f => ?_
   refine h2 vs rest hloc hv.2 hsm.2 r2 hr2 hG hb hlo hT.2 (by rw [f vv (by omega) hv1, ag vv hvq]; exact hvv) (by omega) hv1 (by omega) ha (by rw [List.length_append]; omega) fun σ3 w3 d3 ha3 f3 => ?_
   exact hQ σ3 w3 d3 (by rw [← List.append_assoc]; exact ha3) fun i hi h1 => ((f3 i (by omega) h1).trans (f i (by omega) h1)).trans (ag i hi)
  ·rw [if_neg (by rw [hoff]; decide)] at hlen hQ
   rw [List.nil_append] at hQ
   refine h2 vs rest hloc hv.2 hsm.2 r2 hr2 hG hb hlo hT.2 (by rw [ag vv hvq]; exact hvv) (by omega) hv1 (by omega) (h.env (ag 1 (by omega)) (ag 3 (by omega)) (ag 4 (by omega))) (by simp at hlen; omega) fun σ3 w3 d3 ha3 f3 => ?_
   exact hQ σ3 w3 d3 ha3 fun i hi h1 => (f3 i (by omega) h1).trans (ag i hi)
theorem elW_row (B : Base P N) {ver : Int} {fl : Bool} {T' pT dflt : Nat} {fs : Fds} (ha : fs.hf P T' 0 0) (h1 : FdsW P N A ver fl fs) : ElW P N A ver fl (.row T' pT dflt fs) := by
 intro w0 w G lo be n c j q kk st d l σ loc N' Q v cs hloc hv hsm hrep hr hG hb hlo hst het hvq hi hj hq h hlen hQ
 obtain ⟨dt, by', z, het⟩ := het
 cases v with
 | row vs =>
  simp only [Rep] at hrep
  obtain ⟨css, rfl, hrl⟩ := hrep
  have hix := fun {w : World} => zbv (P := P) (w := w) hst het (bl := be) (o := 0) (n := n) (c := c) (i := j) (k := .i64) hj
  unfold El.agen
  refine zd fun K hK => zj fun τ => ?_
  simp +decide (disch := omega) only [bK, bE, Nat.reduceBeqDiff, BEq.rfl, Nat.zero_add, hvq, hi, hix]
  refine hK _ _ (zc fun σ1 hσ => ?_)
  have g : ∀ i, i ≠ q + 6 → σ1 i = σ i := fun i hi => by
   rw [hσ i]
   have e1 : (i + 100 == q + 6 + 100) = false := beq_eq_false_iff_ne.2 (by omega)
   simp +decide (disch := omega) only [bE, Nat.reduceBeqDiff, e1]
  have gq : σ1 (q + 6) = .pointer (some ⟨be, j * (El.row T' pT dflt fs).sz, none⟩) := by
   rw [hσ (q + 6)]
   simp +decide (disch := omega) only [bE, BEq.rfl]
  clear hσ hK K
  have e : (El.row T' pT dflt fs).wr ver fl (.row vs) = fs.wr ver fl vs := by simp only [El.wr]
  rw [e] at hlen hQ
  have key := h1 (Tt := T') (idx := 0) (off := 0) (kk := kk + 2) (vv := q + 6) (q := q + 7) (tl := []) (Q := Q) vs css hloc hv (by simpa only [Val.sm] using hsm) hrl (by rw [Nat.add_zero]; exact hr) hG hb hlo ha gq (by omega) (by omega) (by omega) (h.env (g 1 (by omega)) (g 3 (by omega)) (g 4 (by omega))) hlen fun σ3 w3 d3 ha3 f3 => hQ σ3 w3 d3 ha3 fun i hi h1 => (f3 i (by omega) h1).trans (g i (by omega))
  rw [List.append_nil] at key
  cases hl : fs.agen N A (q + 6) T' 0 (q + 7) (kk + 2) with
  | nil => rw [hl] at key; exact zbe key
  | cons x l => rw [hl] at key; exact zku (by simp) key
 | _ => simp only [El.okV] at hv
end
section
variable {P : Program} {N : Nums} {A : zdp}
theorem fdsW_tags (B : Base P N) (F : Fns P N) (C : ApC P N A) {ver : Int} {fl : Bool} : FdsW P N A ver fl .tags := by
 intro w0 w G lo b oo vv idx off q kk Tt d l σ loc N' Q tl vs css hloc hv hsm hrep hr hG hb hlo hT hvv hvq hv1 hq h hlen hQ
 match vs, hv with
 | [.tags u], hv =>
  obtain ⟨c, r, rfl, r1, r2⟩ := hrep
  simp only [RepL] at r2
  subst r2
  simp only [Rep] at r1
  obtain ⟨v, rfl, ht⟩ := r1
  simp only [smL, Val.sm, and_true] at hsm
  have hT : HF P Tt idx off := hT
  have e : Fds.wr ver fl .tags [.tags u] = if fl then zwt u else [] := rfl
  rw [e] at hlen hQ
  rw [Fds.agen]
  have hbw : b < w0.heap.size := by omega
  have mw := h.mod.size
  have hc0 : w0.cell? ⟨b, oo + off, none⟩ = some v := by
   have := hr 0 v (by simp); simpa using this
  have hc : w.cell? ⟨b, oo + off, none⟩ = some v := by rw [h.mod.cell _ _ hbw (fun h => by omega)]; exact hc0
  have htw : zpm w G v u := ht.mod h.mod fun k hk => ⟨by have := hG k hk; omega, fun _ h => by have := hG k hk; omega, hk⟩
  refine WL_one ?_
  unfold cAtags
  refine zd fun K hK => zj fun τ => ?_
  simp +decide (disch := omega) only [bK, bE, Nat.reduceAdd, h.f4]
  refine hK _ _ (zc fun σ1 hσ => ?_)
  have g : ∀ i, i ≠ q → σ1 i = σ i := fun i hi => by
   rw [hσ i]
   have e1 : (i + 100 == q + 100) = false := beq_eq_false_iff_ne.2 (by omega)
   simp +decide (disch := omega) only [bE, e1]
  have gq : σ1 q = .bool fl := by
   rw [hσ q]
   simp +decide (disch := omega) only [bE, BEq.rfl]
  clear hσ hK K
  have h1 : AS w0 lo ver fl d l σ1 w := h.env (g 1 (by omega)) (g 3 (by omega)) (g 4 (by omega))
  have hvv1 : σ1 vv = .pointer (some ⟨b, oo, none⟩) := by rw [g vv (by omega)]; exact hvv
  refine W_if hloc gq ?_
  cases fl with
  | false =>
   simp only [Bool.false_eq_true, if_false, List.append_nil] at hQ ⊢
   exact zbe (hQ σ1 w d h1 fun i hi _ => g i (by omega))
  | true =>
   simp only [if_true] at hQ hlen ⊢
   have hlt : l.length + ((uvB u.length).length + ((zdi u).flatMap tagW).length) < 1099511627776 := by
    have : (zwt u).length = (uvB u.length).length + ((zdi u).flatMap tagW).length := by simp [zwt]
    omega
   have e32 : ∀ m : Int, IntKind.u32.wrap m = m % 4294967296 := fun m => by simp [IntKind.wrap, IntKind.signed, IntKind.bits]
   have hcv : IntKind.u32.wrap (u.length : Int) = u.length := by rw [e32]; omega
   have hadd : IntKind.u32.wrap (0 + (u.length : Int)) = u.length := by rw [e32]; omega
   refine zd fun K hK => zj fun τ => ?_
   simp +decide (disch := omega) only [bK, bE, Nat.reduceBeqDiff, BEq.rfl, Nat.reduceAdd, h1.f1, hvv1]
   rw [zw rfl]
   simp +decide (disch := omega) only [bK, bE, BEq.rfl, hT.run]
   rw [zar C.tl.has]
   simp +decide (disch := omega) only [bK, bE, BEq.rfl]
   refine (zxy B C.tn.tags C.tl hc htw).mono ?_
   rintro _ w2 ⟨rfl, rfl⟩
   simp +decide (disch := omega) only [bK, zaq B.int B.uint32 ⟨_, rfl⟩, hcv, hadd]
   rw [zan C.uv.uv.has]
   simp +decide (disch := omega) only [bK, bE, Nat.reduceBeqDiff, BEq.rfl]
   refine (zyh B C.uv (n := u.length) (by omega) h1.own (Nat.le_trans hlo mw) (by omega)).mono ?_
   intro d2 w2 ha2
   refine hK _ _ (zc fun σ2 hσ => ?_)
   have g2 : ∀ i, σ2 i = if i = 1 then d2 else σ1 i := fun i => by
    rw [hσ i]
    by_cases hi : i = 1
    ·subst hi; rfl
    ·have e1 : (i + 100 == 101) = false := beq_eq_false_iff_ne.2 (by omega)
     rw [if_neg hi]
     simp +decide only [bE, Nat.reduceBeqDiff, e1]
   clear hσ hK K
   have h2 := h1.step ha2 (σ' := σ2) (by rw [g2]; rfl) (by rw [g2]; rfl) (by rw [g2]; rfl)
   have hvv2 : σ2 vv = .pointer (some ⟨b, oo, none⟩) := by rw [g2, if_neg hv1]; exact hvv1
   have hc2 : w2.cell? ⟨b, oo + off, none⟩ = some v := by rw [h2.mod.cell _ _ hbw (fun h => by omega)]; exact hc0
   have htw2 : zpm w2 G v u := ht.mod h2.mod fun k hk => ⟨by have := hG k hk; omega, fun _ h => by have := hG k hk; omega, hk⟩
   refine zj fun τ => ?_
   simp +decide (disch := omega) only [bK, bE, Nat.reduceBeqDiff, Nat.reduceAdd, hvv2]
   rw [zw rfl]
   simp +decide (disch := omega) only [bK, bE, Nat.reduceBeqDiff, BEq.rfl, hT.run, h2.f1]
   rw [zan C.ea.has]
   simp +decide (disch := omega) only [bK, bE, Nat.reduceBeqDiff, BEq.rfl]
   refine (ap_Each B F C.tn C.uv C.e1 C.ea hc2 hb hG htw2 (by omega) (fun x hx => by have := hsm.2 x hx; omega) h2.own (Nat.le_trans hlo h2.mod.size) (by rw [List.length_append]; omega)).mono ?_
   rintro d3 w3 ⟨ho3, m3⟩
   have fr : ∀ (σ' : Env), (∀ i, σ' i = if i = 1 then d3 else σ2 i) → WL P loc N' tl Q σ' w3 := fun σ' hσ => by
    refine hQ σ' w3 d3 ⟨by rw [hσ]; rfl, by rw [hσ]; exact h2.f3, by rw [hσ]; exact h2.f4, ?_, h2.mod.trans m3 fun _ _ _ h => h.elim id id⟩ fun i hi h1 => by rw [hσ, if_neg h1, g2, if_neg h1, g i (by omega)]
    have e5 : l ++ zwt u = l ++ uvB u.length ++ (zdi u).flatMap tagW := by simp [zwt, List.append_assoc]
    rw [e5]; exact ho3
   refine zc (K := fun σ' w' => WL P loc N' tl Q σ' w') fun σ' hσ => fr σ' fun i => ?_
   rw [hσ i]
   by_cases hi : i = 1
   ·subst hi; rfl
   ·have e1 : (i + 100 == 101) = false := beq_eq_false_iff_ne.2 (by omega)
    rw [if_neg hi]
    simp +decide only [bE, Nat.reduceBeqDiff, e1]
end
section
variable {P : Program} {N : Nums} {A : zdp}
theorem tyW_arr (B : Base P N) (C : ApC P N A) {ver : Int} {fl : Bool} (hver : 0 ≤ ver) {st : Nat} {nul : Option Int} {e : El} (ha : (Ty.arr st nul e).aok P N A) (he : ElW P N A ver fl e) : TyW P N A ver fl (.arr st nul e) := by
 intro w0 w G lo b oo vv idx off q kk Tt d l σ loc N' Q v cs hloc hv hsm hrep hr hG hb hlo hT hvv hq h hlen hQ
 obtain ⟨hst, het, hal, hea⟩ := ha
 have go : ∀ (a : Option Addr) (c : Nat) (vs : List Val), w0.cell? ⟨b, oo + off, none⟩ = some (.slice a vs.length c) → vs.length < 4294967295 → (∀ x ∈ vs, e.okV x) → (∀ x ∈ vs, x.sm) →
   (vs ≠ [] → ∃ be css, a = some ⟨be, 0, none⟩ ∧ (∀ x ∈ css, x.length = e.sz) ∧ RepL w0 G vs css ∧ w0.rangeAt be 0 css.flatten ∧ be < lo) →
   l.length + (zr fl (nul.isSome && a.isNone) vs.length 4 ++ vs.flatMap (e.wr ver fl)).length < 1099511627776 →
   (∀ σ' w' d', AS w0 lo ver fl d' (l ++ (zr fl (nul.isSome && a.isNone) vs.length 4 ++ vs.flatMap (e.wr ver fl))) σ' w' → (∀ i, i < q → i ≠ 1 → σ' i = σ i) → Q .normal σ' w') → W P loc N' (Ty.agen N A vv Tt idx (.arr st nul e) q kk) Q σ w := by
  intro a c vs hcell hvl hok hsmv hmem hlen hQ
  obtain ⟨cnt, hcnt⟩ : ∃ x, x = zr fl (nul.isSome && a.isNone) vs.length 4 := ⟨_, rfl⟩
  rw [← hcnt] at hlen hQ
  rw [List.length_append] at hlen
  have hr' : w.rangeAt b (oo + off) [.slice a vs.length c] := zje.2 (by rw [h.mod.cell _ _ (by omega) (fun h => by omega)]; exact hcell)
  unfold Ty.agen
  refine zd fun K hK => zyo hT hst hvv hr' rfl (fun _ => rfl) fun σ1 f1 g1 => hK _ _ ?_
  clear hK K
  have g1 : σ1 q = .slice a vs.length c := g1
  have h1 := h.env (σ' := σ1) (f1 1 (by omega)) (f1 3 (by omega)) (f1 4 (by omega))
  refine zd fun K hK => W_al C hloc hst hal hq g1 hvl h1 hlo (by rw [← hcnt]; omega) fun σ2 w2 d2 h2 f2 => hK _ _ ?_
  clear hK K
  rw [← hcnt] at h2
  have g2 : σ2 q = .slice a vs.length c := by rw [f2 q (by omega) (by omega)]; exact g1
  refine zd fun K hK => zj fun τ => ?_
  simp +decide (disch := omega) only [bK, bE, BEq.rfl, g2, hst.run_len]
  refine hK _ _ (zc fun σ3 hσ => ?_)
  have f3 : ∀ i, i ≠ q + 2 → i ≠ q + 3 → σ3 i = σ2 i := fun i hi1 hi2 => by
   rw [hσ i]
   have e1 : (i + 100 == q + 2 + 100) = false := beq_eq_false_iff_ne.2 (by omega)
   have e2 : (i + 100 == q + 3 + 100) = false := beq_eq_false_iff_ne.2 (by omega)
   simp +decide (disch := omega) only [bE, Nat.reduceBeqDiff, e1, e2]
  have n3 : σ3 (q + 2) = .int .i64 vs.length := by
   rw [hσ (q + 2)]
   have e2 : (q + 2 + 100 == q + 3 + 100) = false := beq_eq_false_iff_ne.2 (by omega)
   simp +decide (disch := omega) only [bE, BEq.rfl, e2]
  have j3 : σ3 (q + 3) = .int .i64 ((0 : Nat) : Int) := by
   rw [hσ (q + 3)]
   simp +decide (disch := omega) only [bE, BEq.rfl]
   rfl
  clear hσ hK K
  refine zwl hloc (L := vs.length) (by omega) (fun j σ w => (∃ d, AS w0 lo ver fl d (l ++ cnt ++ (vs.take j).flatMap (e.wr ver fl)) σ w) ∧ σ q = .slice a vs.length c ∧ σ (q + 2) = .int .i64 vs.length ∧ σ (q + 3) = .int .i64 j ∧ j ≤ vs.length ∧ ∀ i, i < q → i ≠ 1 → σ i = σ2 i)
   (fun j σ w h => ⟨h.2.2.2.1, h.2.2.1, h.2.2.2.2.1⟩) (fun j σ w b h => ?_) ?_ (fun σ' w' h => ?_) (fun j σ4 w4 hj h => ?_)
  ·obtain ⟨⟨d, hd⟩, i1, i2, i3, i4, i5⟩ := h
   exact ⟨⟨d, hd.env (zh (by omega)) (zh (by omega)) (zh (by omega))⟩, by rw [zh (by omega)]; exact i1, by rw [zh (by omega)]; exact i2, by rw [zh (by omega)]; exact i3, i4, fun i hi h1 => by rw [zh (by omega)]; exact i5 i hi h1⟩
  ·exact ⟨⟨d2, by rw [List.take_zero, List.flatMap_nil, List.append_nil]; exact h2.env (f3 1 (by omega) (by omega)) (f3 3 (by omega) (by omega)) (f3 4 (by omega) (by omega))⟩, by rw [f3 q (by omega) (by omega)]; exact g2, n3, j3, Nat.zero_le _, fun i hi _ => f3 i (by omega) (by omega)⟩
  ·obtain ⟨⟨d5, hd⟩, _, _, _, _, i5⟩ := h
   rw [List.take_length, List.append_assoc] at hd
   exact hQ σ' w' d5 hd fun i hi h1 => ((i5 i hi h1).trans (f2 i h1 (by omega))).trans (f1 i (by omega))
  ·obtain ⟨⟨d5, hd⟩, i1, i2, i3, i4, i5⟩ := h
   have hx : vs[j]? = some vs[j] := List.getElem?_eq_getElem hj
   obtain ⟨be, css, rfl, hcs, hrl, hrg, hbe⟩ := hmem (fun e => by rw [e] at hj; simp at hj)
   obtain ⟨cj, hcj, hrj⟩ := hrl.get hx
   have hgj := zld hrg hcs hcj
   rw [Nat.zero_add] at hgj
   have htk : (vs.take (j + 1)).flatMap (e.wr ver fl) = (vs.take j).flatMap (e.wr ver fl) ++ e.wr ver fl vs[j] := by
    rw [List.take_add_one, hx]; simp only [Option.toList_some, List.flatMap_append, List.flatMap_cons, List.flatMap_nil, List.append_nil]
   have hlj : ((vs.take j).flatMap (e.wr ver fl)).length + (e.wr ver fl vs[j]).length ≤ (vs.flatMap (e.wr ver fl)).length := by
    have e1 : vs.flatMap (e.wr ver fl) = (vs.take (j + 1)).flatMap (e.wr ver fl) ++ (vs.drop (j + 1)).flatMap (e.wr ver fl) := by rw [← List.flatMap_append, List.take_append_drop]
    rw [e1, htk, List.length_append, List.length_append]; omega
   refine zd fun K2 hK2 => zj fun τ => ?_
   simp +decide (disch := omega) only [bK, bE, BEq.rfl, i3]
   refine hK2 _ _ (zc fun σ5 hσ => ?_)
   have f5 : ∀ i, i ≠ q + 5 → σ5 i = σ4 i := fun i hi => by
    rw [hσ i]
    have e1 : (i + 100 == q + 5 + 100) = false := beq_eq_false_iff_ne.2 (by omega)
    simp +decide (disch := omega) only [bE, Nat.reduceBeqDiff, e1]
   have g5 : σ5 (q + 5) = .int .i64 j := by
    rw [hσ (q + 5)]
    simp +decide (disch := omega) only [bE, BEq.rfl]
   clear hσ hK2 K2
   refine he vs[j] cj hloc (hok _ (List.getElem_mem hj)) (hsmv _ (List.getElem_mem hj)) hrj hgj hG hbe hlo hst het (by rw [f5 q (by omega)]; exact i1) g5 hj hq (hd.env (f5 1 (by omega)) (f5 3 (by omega)) (f5 4 (by omega))) (by rw [List.length_append, List.length_append]; omega) fun σ6 w6 d6 h6 f6 => ?_
   have k3 : σ6 (q + 3) = .int .i64 j := by rw [f6 (q + 3) (by omega) (by omega), f5 (q + 3) (by omega)]; exact i3
   refine ⟨k3, ⟨d6, ?_⟩, by rw [zh (by omega), f6 q (by omega) (by omega), f5 q (by omega)]; exact i1, by rw [zh (by omega), f6 (q + 2) (by omega) (by omega), f5 (q + 2) (by omega)]; exact i2, upd_same _ _ _, hj, fun i hi h1 => by rw [zh (by omega), f6 i (by omega) h1, f5 i (by omega)]; exact i5 i hi h1⟩
   rw [htk, ← List.append_assoc]
   exact h6.env (zh (by omega)) (zh (by omega)) (zh (by omega))
 cases v with
 | nilA =>
  simp only [Rep] at hrep
  subst hrep
  have e1 : (nul.isSome && (none : Option Addr).isNone) = nulAt ver nul := by
   cases nul with
   | none => rfl
   | some k =>
    have : k ≤ ver := by have := hal.1; omega
    simp [nulAt, this]
  refine go none 0 [] (by have := hr 0 _ rfl; simpa using this) (by simp) (fun x hx => by cases hx) (fun x hx => by cases hx) (fun h => absurd rfl h) ?_ ?_
  ·rw [e1]; simpa [Ty.wr] using hlen
  ·rw [e1]; simpa [Ty.wr] using hQ
 | arr sz vs =>
  obtain ⟨rfl, hlen2, hok⟩ := hv
  simp only [Rep] at hrep
  obtain ⟨be, c, css, rfl, hle, hGb, hcs, hrl, hrg⟩ := hrep
  have e1 : (nul.isSome && (some (⟨be, 0, none⟩ : Addr)).isNone) = false := by simp
  refine go (some ⟨be, 0, none⟩) c vs (by have := hr 0 _ rfl; simpa using this) (by simp only [Val.sm] at hsm; exact hsm.1) hok (fun x hx => by simp only [Val.sm] at hsm; exact smL.mem hsm.2 x hx) (fun hne => ⟨be, css, rfl, hcs, hrl, hrg, hG be (hGb hne)⟩) ?_ ?_
  ·rw [e1]; simpa [Ty.wr] using hlen
  ·rw [e1]; simpa [Ty.wr] using hQ
 | _ => simp only [Ty.okV] at hv
end
section
variable {P : Program} {N : Nums} {A : zdp}
mutual
theorem Ty.wW (B : Base P N) (F : Fns P N) (C : ApC P N A) {ver : Int} {fl : Bool} (hver : 0 ≤ ver) : ∀ (ty : Ty), ty.aok P N A → TyW P N A ver fl ty
 | .pr k d, h => tyW_pr B C h
 | .txt t, h => tyW_txt B C h
 | .arr st nul e, h => tyW_arr B C hver h (El.wW B F C hver e h.2.2.2)
 | .row .., h => h.elim
theorem El.wW (B : Base P N) (F : Fns P N) (C : ApC P N A) {ver : Int} {fl : Bool} (hver : 0 ≤ ver) : ∀ (e : El), e.aok P N A → ElW P N A ver fl e
 | .pr k, h => elW_pr B C h
 | .txt t, h => elW_txt B C h
 | .row T' pT d fs, h => elW_row B h.1 (Fds.wW B F C hver fs h.2)
theorem Fds.wW (B : Base P N) (F : Fns P N) (C : ApC P N A) {ver : Int} {fl : Bool} (hver : 0 ≤ ver) : ∀ (fs : Fds), fs.aok P N A → FdsW P N A ver fl fs
 | .nil, _ => fdsW_nil
 | .tags, _ => fdsW_tags B F C
 | .cons g ty r, h => fdsW_cons B (Ty.wW B F C hver ty h.1) (Fds.wW B F C hver r h.2)
end
theorem zwc (B : Base P N) (F : Fns P N) (C : ApC P N A) {m : Msg} (ha : m.fs.aok P N A) (hhf : m.fs.hf P m.tT 1 1) (hv0 : HF P m.tT 0 0) {f : FuncId} (hF : FOk P f 2 (m.appC N A) [.var 2])
  {w : World} {G : Nat → Prop} {M lo : Nat} {ver : Int} {d : Value} {l : List UInt8} {vs : List Val} {css : List (List Value)} (hver : 0 ≤ ver) (hc : w.cell? ⟨M, 0, none⟩ = some (.int .i16 ver)) (hv : m.fs.okV vs) (hsm : smL vs) (hrep : RepL w G vs css) (hr : w.rangeAt M 1 css.flatten)
  (hG : ∀ k, G k → k < lo) (hM : M < lo) (hlo : lo ≤ w.heap.size) (ho : OwnB w lo d l) (hlen : l.length + (m.fs.wr ver (decide (ver ≥ m.fl)) vs).length < 1099511627776) :
  Call P f #[.pointer (some ⟨M, 0, none⟩), d] w fun v' w' => OwnB w' lo v' (l ++ m.fs.wr ver (decide (ver ≥ m.fl)) vs) ∧ Mod w w' (fun k _ => lo ≤ k) := by
 refine hF.call rfl fun loc N' hloc => ?_
 unfold Msg.appC
 rw [List.append_assoc]
 refine zku (by simp) ?_
 simp only [List.cons_append, List.nil_append]
 refine zbi fun K hK => zj fun τ => ?_
 simp +decide only [bK]
 refine hK _ _ (zc fun σ1 hσ => ?_)
 have a0 := hσ 0
 have a1 := hσ 1
 simp +decide only [bE, Nat.reduceBeqDiff, Nat.reduceAdd, Nat.zero_add, zdc, zcm] at a0 a1
 clear hσ hK K
 refine zbi fun K hK => zj fun τ => ?_
 simp +decide only [bK, bE, BEq.rfl, Nat.zero_add, a0]
 rw [zw rfl]
 simp +decide only [bK, bE, BEq.rfl, Nat.add_zero, hv0.run, B.int16.run_load1 rfl, hc]
 refine hK _ _ (zc fun σ2 hσ => ?_)
 have b0 := hσ 0
 have b1 := hσ 1
 have b3 := hσ 3
 simp +decide only [bE, Nat.reduceBeqDiff, BEq.rfl, Nat.reduceAdd, Nat.zero_add, a0, a1] at b0 b1 b3
 clear hσ hK K
 refine zbi fun K hK => zj fun τ => ?_
 simp +decide only [bK, bE, Nat.reduceAdd]
 refine hK _ _ (zc fun σ3 hσ => ?_)
 have c0 := hσ 0
 have c1 := hσ 1
 have c3 := hσ 3
 simp +decide only [bE, Nat.reduceBeqDiff, Nat.reduceAdd, Nat.zero_add, b0, b1, b3] at c0 c1 c3
 clear hσ hK K
 refine zbi fun K hK => zj fun τ => ?_
 simp +decide only [bK, bE, BEq.rfl, Nat.reduceAdd, c3]
 refine hK _ _ (zc fun σ4 hσ => ?_)
 have d0 := hσ 0
 have d1 := hσ 1
 have d3 := hσ 3
 have d4 := hσ 4
 simp +decide only [bE, Nat.reduceBeqDiff, BEq.rfl, Nat.reduceAdd, Nat.zero_add, c0, c1, c3] at d0 d1 d3 d4
 clear hσ hK K
 refine zbi fun K hK => zj fun τ => ?_
 simp +decide only [bK, bE, Nat.reduceAdd]
 refine hK _ _ (zc fun σ5 hσ => ?_)
 have e0 := hσ 0
 have e1 := hσ 1
 have e3 := hσ 3
 have e4 := hσ 4
 simp +decide only [bE, Nat.reduceBeqDiff, Nat.reduceAdd, Nat.zero_add, d0, d1, d3, d4] at e0 e1 e3 e4
 clear hσ hK K
 refine Fds.wW B F C hver m.fs ha (idx := 1) (off := 1) (oo := 0) (vv := 0) (q := 5) (kk := 0) vs css hloc hv hsm hrep (by rw [Nat.zero_add]; exact hr) hG hM hlo hhf e0 (by decide) (by decide) (by decide) ⟨e1, e3, e4, ho, .refl _ _⟩ hlen fun σ6 w6 d6 h6 _ => ?_
 refine zbi fun K hK => zj fun τ => ?_
 simp +decide only [bK, bE, BEq.rfl, Nat.reduceAdd, h6.f1]
 refine hK _ _ (zc fun σ7 hσ => zbi fun K2 hK2 => zay ?_)
 have g2 := hσ 2
 simp +decide only [bE, BEq.rfl, Nat.reduceAdd] at g2
 exact ⟨.inr rfl, _, rfl, by rw [g2]; exact h6.own, h6.mod⟩
end
theorem okV_sm {k : PK} {v : Value} (h : k.okV v) : (Val.num v).sm := by
 simp only [Val.sm]
 cases k with
 | bool => obtain ⟨x, rfl⟩ := h; simp [zgm]
 | uuid => obtain ⟨x, rfl, hx⟩ := h; simp [zgm, hx]
 | _ => obtain ⟨x, rfl, _⟩ := h; simp [zgm]
theorem zwq (k : Txt) (fl null : Bool) (hn : k = .str ∨ k = .byt → null = false) (pt : Tr → List UInt8) (t : Tr) (r r' : List UInt8) (kind : Int) (hk : kind = k.kind) (v : Val) (hr : k.rd fl (rs (valB fl kind pt null t ++ r)) = (v, rs r')) : v.sm := by
 obtain ⟨v', h1, h2, h3, _, _⟩ := txt_rs k fl null hn pt t r kind hk
 rw [h1] at hr
 injection hr with hr _
 subst hr
 have hw := zhh t.s
 cases k with
 | str =>
  have hn := hn (.inl rfl)
  subst hn
  have e : ∃ x, v' = .num (strV x) := ⟨_, (congrArg Prod.fst h1).symm⟩
  obtain ⟨x, rfl⟩ := e
  have h3 : zgm (strV x) = zbk t.s := h3 rfl
  simp only [Val.sm, h3]; omega
 | nstr =>
  have e : ∃ x, v' = .nstr x := ⟨_, (congrArg Prod.fst h1).symm⟩
  obtain ⟨x, rfl⟩ := e
  cases x with
  | none => simp only [Val.sm]
  | some x =>
   have h3 : x = zbk t.s := h3 (show null = false from h2.symm)
   subst h3
   simp only [Val.sm]; omega
 | byt =>
  have hn := hn (.inr rfl)
  have e : ∃ x, v' = .oct x := ⟨_, (congrArg Prod.fst h1).symm⟩
  obtain ⟨x, rfl⟩ := e
  have h3 : x.getD [] = zbk t.s := h3 hn
  cases x with
  | none => simp only [Val.sm]
  | some x =>
   have h3 : x = zbk t.s := h3
   subst h3
   simp only [Val.sm]; omega
 | nbyt =>
  have e : ∃ x, v' = .oct x := ⟨_, (congrArg Prod.fst h1).symm⟩
  obtain ⟨x, rfl⟩ := e
  cases x with
  | none => simp only [Val.sm]
  | some x =>
   have h3 : x = zbk t.s := h3 (show null = false from h2.symm)
   subst h3
   simp only [Val.sm]; omega
theorem rdN_sm {e : El} {fl : Bool} {ver o : Int} {sub : List Fld} (he : ElRd fl ver e o sub) (hw : ∀ (t : Tr) (r : List UInt8) (v : Val), wfT t → e.rd ver fl (rs (valB fl o (zci fl ver sub) false t ++ r)) = some (v, rs r) → v.sm) :
  ∀ (l : List Tr) (r : List UInt8) (vs : List Val), (∀ x ∈ l, wfT x) → rdN (e.rd ver fl) l.length (rs (l.flatMap (valB fl o (zci fl ver sub) false) ++ r)) = some (vs, rs r) → smL vs ∧ vs.length = l.length
 | [], r, vs, _, h => by
  simp only [List.length_nil, rdN, Option.some.injEq, Prod.mk.injEq] at h
  rw [← h.1]; exact ⟨by simp only [smL], rfl⟩
 | x :: l, r, vs, hwf, h => by
  obtain ⟨v, h1, _, _⟩ := he x (l.flatMap (valB fl o (zci fl ver sub) false) ++ r) (hwf x (by simp))
  rw [List.length_cons, rdN, List.flatMap_cons, List.append_assoc, h1] at h
  simp only at h
  split at h
  ·cases h
  ·rename_i l' s' h2
   simp only [Option.some.injEq, Prod.mk.injEq] at h
   obtain ⟨rfl, rfl⟩ := h
   have := rdN_sm he hw l r l' (fun y hy => hwf y (by simp [hy])) h2
   exact ⟨by simp only [smL]; exact ⟨hw x _ v (hwf x (by simp)) h1, this.1⟩, by simp [this.2]⟩
def Ty.dE : Ty → Prop
 | .arr _ _ e => e.dOk'
 | _ => True
theorem dOk_cons {g : Gd} {ty : Ty} {r : Fds} (h : (Fds.cons g ty r).dOk) : ty.dE ∧ r.dOk := by
 cases ty with
 | pr k d => exact ⟨trivial, h.2⟩
 | txt k => exact ⟨trivial, h⟩
 | arr st nul e => exact ⟨h.1, h.2⟩
 | row T p d fs => exact ⟨trivial, h.2⟩
theorem iniV_sm {g : Gd} {ty : Ty} {r : Fds} (h : (Fds.cons g ty r).dOk) {f : Fld} (hm : ty.dflB f = true) : ty.iniV.sm := by
 cases ty with
 | pr k d => exact okV_sm h.1
 | txt k => cases k <;> simp [Ty.iniV, Txt.iniV, Val.sm, zov]
 | arr st nul e => simp [Ty.iniV, Val.sm]
 | row T p d fs => simp [Ty.dflB] at hm
mutual
theorem Ty.sm_of {fl : Bool} {ver : Int} : ∀ (ty : Ty) (f : Fld), ty.dE → ty.matB fl ver f = true → ∀ (t : Tr) (r : List UInt8) (v : Val), wfT t → ty.rd ver fl (rs (zee fl ver f t ++ r)) = some (v, rs r) → v.sm
 | .pr k d, f, _, h, t, r, v, hw, hr => by
  simp only [Ty.rd, Option.some.injEq] at hr
  obtain ⟨rfl, _⟩ := Prod.mk.inj hr
  exact okV_sm (pk_rdV k _)
 | .txt .str, f, _, h, t, r, v, hw, hr => by
  simp only [Ty.matB, Bool.and_eq_true, Bool.not_eq_true', decide_eq_true_eq] at h
  rw [zfs (by omega)] at hr
  simp only [Ty.rd, Option.some.injEq] at hr
  exact zwq .str fl _ (fun _ => zgv h.2) _ t r r _ h.1 v hr
 | .txt .nstr, f, _, h, t, r, v, hw, hr => by
  simp only [Ty.matB, decide_eq_true_eq] at h
  rw [zfs (by omega)] at hr
  simp only [Ty.rd, Option.some.injEq] at hr
  exact zwq .nstr fl _ (fun hc => by rcases hc with hc | hc <;> cases hc) _ t r r _ h v hr
 | .txt .byt, f, _, h, t, r, v, hw, hr => by
  simp only [Ty.matB, Bool.and_eq_true, Bool.not_eq_true', decide_eq_true_eq] at h
  rw [zfs (by omega)] at hr
  simp only [Ty.rd, Option.some.injEq] at hr
  exact zwq .byt fl _ (fun _ => zgv h.2) _ t r r _ h.1 v hr
 | .txt .nbyt, f, _, h, t, r, v, hw, hr => by
  simp only [Ty.matB, decide_eq_true_eq] at h
  rw [zfs (by omega)] at hr
  simp only [Ty.rd, Option.some.injEq] at hr
  exact zwq .nbyt fl _ (fun hc => by rcases hc with hc | hc <;> cases hc) _ t r r _ h v hr
 | .arr st nul e, f, hd, h, t, r, v, hw, hr => by
  simp only [Ty.matB, Bool.and_eq_true, decide_eq_true_eq] at h
  obtain ⟨⟨h11, hnul⟩, he⟩ := h
  have hesm := El.sm_of e f.of f.sub hd he
  have he := El.rd_of e f.of f.sub he
  rw [zjh h11] at hr
  have hlz : (zdl t.l).length ≤ 32767 := by simp [zdl, most]; omega
  cases v with
  | nilA => simp only [Val.sm]
  | arr sz vs =>
   cases hnb : f.nullB ver t with
   | true =>
    rw [hnb] at hr
    simp only [if_true, List.length_nil, List.flatMap_nil, List.append_nil] at hr
    have hx : (if fl then zle (rs (zr fl true 0 4 ++ r)) else arrR (rs (zr fl true 0 4 ++ r))) = (-1, rs r) := by
     unfold zr
     cases fl with
     | true => simp only [Bool.and_true, if_true]; exact zwa r
     | false => simp only [Bool.false_and, Bool.false_eq_true, if_false, if_true]; exact zzw r
    unfold Ty.rd at hr; rw [hx] at hr
    simp only [rs, Bool.false_eq_true, if_false] at hr
    rw [if_neg (by decide)] at hr
    injection hr with hr
    obtain ⟨h1, _⟩ := Prod.mk.inj hr
    cases nul with
    | none => cases h1
    | some k =>
     simp only at h1
     split at h1
     ·injection h1 with _ h1; subst h1; simp [Val.sm, smL]
     ·cases h1
   | false =>
    rw [hnb] at hr
    simp only [Bool.false_eq_true, if_false] at hr
    obtain ⟨l, hl⟩ : ∃ l, l = zdl t.l := ⟨_, rfl⟩
    rw [← hl] at hlz hr
    have hwl : ∀ x ∈ l, wfT x := fun x hx => hw.l x (by rw [hl] at hx; exact List.mem_of_mem_take hx)
    obtain ⟨us, g1, g2, g3, g4⟩ := rdN_rs he l r hwl
    have g5 := rdN_sm he hesm l r us hwl g1
    rw [List.append_assoc] at hr
    have hx : (if fl then zle (rs (zr fl false l.length 4 ++ (l.flatMap (valB fl f.of (zci fl ver f.sub) false) ++ r))) else arrR (rs (zr fl false l.length 4 ++ (l.flatMap (valB fl f.of (zci fl ver f.sub) false) ++ r)))) = ((l.length : Int), rs (l.flatMap (valB fl f.of (zci fl ver f.sub) false) ++ r)) := by
     unfold zr
     cases fl with
     | true => simp only [Bool.and_false, Bool.false_eq_true, if_false, if_true]; exact zzt hlz (by rw [List.length_append]; omega)
     | false => simp only [Bool.and_false, Bool.false_eq_true, if_false]; exact arr_rs hlz (by rw [List.length_append]; omega)
    unfold Ty.rd at hr
    rw [hx] at hr
    simp only [rs, Bool.false_eq_true, if_false] at hr
    by_cases h0 : l.length = 0
    ·rw [if_neg (by omega)] at hr
     injection hr with hr
     obtain ⟨h1, _⟩ := Prod.mk.inj hr
     cases nul with
     | none => cases h1
     | some k =>
      simp only at h1
      split at h1
      ·injection h1 with _ h1; subst h1; simp [Val.sm, smL]
      ·cases h1
    ·rw [if_pos (by omega)] at hr
     have : ((l.length : Nat) : Int).toNat = l.length := by omega
     simp only [rs] at g1
     rw [this, g1] at hr
     injection hr with hr
     obtain ⟨h1, _⟩ := Prod.mk.inj hr
     injection h1 with _ h1
     subst h1
     simp only [Val.sm]
     exact ⟨by omega, g5.1⟩
  | _ =>
   exfalso
   have hok := Ty.rd_ok _ _ (.arr st nul e) .all .nil ⟨hd, trivial⟩ _ _ _ hr
   simp only [Ty.okV] at hok
 | .row .., f, _, h, _, _, _, _, _ => by simp [Ty.matB] at h
theorem El.sm_of {fl : Bool} {ver : Int} : ∀ (e : El) (o : Int) (sub : List Fld), e.dOk' → e.matB fl ver o sub = true → ∀ (t : Tr) (r : List UInt8) (v : Val), wfT t → e.rd ver fl (rs (valB fl o (zci fl ver sub) false t ++ r)) = some (v, rs r) → v.sm
 | .pr k, o, sub, _, h, t, r, v, hw, hr => by
  simp only [El.rd, Option.some.injEq] at hr
  obtain ⟨rfl, _⟩ := Prod.mk.inj hr
  exact okV_sm (pk_rdV k _)
 | .txt k, o, sub, _, h, t, r, v, hw, hr => by
  have hk : o = k.kind := by cases k <;> simpa [El.matB, Txt.kind] using h
  simp only [El.rd, Option.some.injEq] at hr
  exact zwq k fl _ (fun _ => rfl) _ t r r _ hk v hr
 | .row T pT d fs, o, sub, hd, h, t, r, v, hw, hr => by
  simp only [El.matB, Bool.and_eq_true, decide_eq_true_eq] at h
  obtain ⟨⟨h10, hfs⟩, hne⟩ := h
  have hv : valB fl o (zci fl ver sub) false t = zdr fl ver sub 0 t := by rw [h10]; simp [valB, zci, endB, zdr]
  rw [hv] at hr
  unfold El.rd at hr
  split at hr
  ·cases hr
  ·rename_i l s h1
   injection hr with hr
   obtain ⟨rfl, rfl⟩ := Prod.mk.inj hr
   simp only [Val.sm]
   exact Fds.sm_of fs sub hd hfs 0 t r l hw h1
theorem Fds.sm_of {fl : Bool} {ver : Int} : ∀ (fs : Fds) (sf : List Fld), fs.dOk → fs.matB fl ver sf = true → ∀ (i : Nat) (t : Tr) (r : List UInt8) (l : List Val), wfT t → fs.rd ver fl (rs (zdr fl ver sf i t ++ r)) = some (l, rs r) → smL l
 | .nil, [], _, h, i, t, r, l, hw, hr => by
  rw [Fds.rd] at hr
  injection hr with hr
  obtain ⟨rfl, _⟩ := Prod.mk.inj hr
  simp only [smL]
 | .tags, [], _, _, i, t, r, l, hw, hr => by
  cases fl with
  | true =>
   simp only [zdr, zca, Fds.rd, if_true, List.nil_append] at hr
   rw [zvd t.u hw.u r] at hr
   injection hr with hr
   obtain ⟨rfl, _⟩ := Prod.mk.inj hr
   have := zrh t.u
   simp only [smL, Val.sm, and_true, List.length_map]
   refine ⟨by omega, fun x hx => ?_⟩
   obtain ⟨y, _, rfl⟩ := List.mem_map.1 hx
   have := zhh y.2
   simp only; omega
  | false =>
   simp only [zdr, zca, Fds.rd, Bool.false_eq_true, if_false, List.nil_append] at hr
   injection hr with hr
   obtain ⟨rfl, _⟩ := Prod.mk.inj hr
   simp [smL, Val.sm]
 | .cons g ty r', f :: sf, hd, h, i, t, r, l, hw, hr => by
  simp only [Fds.matB, Bool.and_eq_true, beq_iff_eq] at h
  obtain ⟨⟨hg, hty⟩, hfr⟩ := h
  obtain ⟨hd1, hd2⟩ := dOk_cons hd
  rw [Fds.rd] at hr
  cases hh : f.has ver with
  | true =>
   rw [hh] at hty hg
   simp only [if_true] at hty
   have e : zdr fl ver (f :: sf) i t = zee fl ver f (atT t i) ++ zdr fl ver sf (i + 1) t := by
    unfold zdr; rw [zca, hh]; simp only [if_true, List.append_assoc]
   obtain ⟨v, g1, g2, _⟩ := Ty.rd_of ty f hty (atT t i) (zdr fl ver sf (i + 1) t ++ r) (hw.at i)
   rw [e, List.append_assoc, hg, if_pos rfl, g1] at hr
   simp only at hr
   split at hr
   ·cases hr
   ·rename_i l' s' h1
    injection hr with hr
    obtain ⟨rfl, rfl⟩ := Prod.mk.inj hr
    simp only [smL]
    exact ⟨Ty.sm_of ty f hd1 hty (atT t i) _ v (hw.at i) g1, Fds.sm_of r' sf hd2 hfr (i + 1) t r l' hw h1⟩
  | false =>
   rw [hh] at hty hg
   simp only [Bool.false_eq_true, if_false] at hty
   have e : zdr fl ver (f :: sf) i t = zdr fl ver sf (i + 1) t := by
    unfold zdr; rw [zca, hh]; simp
   rw [e, hg] at hr
   simp only [Bool.false_eq_true, if_false] at hr
   split at hr
   ·cases hr
   ·rename_i l' s' h1
    injection hr with hr
    obtain ⟨rfl, rfl⟩ := Prod.mk.inj hr
    simp only [smL]
    exact ⟨iniV_sm hd hty, Fds.sm_of r' sf hd2 hfr (i + 1) t r l' hw h1⟩
 | .nil, _ :: _, _, h, _, _, _, _, _, _ => by simp [Fds.matB] at h
 | .tags, _ :: _, _, h, _, _, _, _, _, _ => by simp [Fds.matB] at h
 | .cons .., [], _, h, _, _, _, _, _, _ => by simp [Fds.matB] at h
end
section
variable (N : Nums)
def zzv (pT newP setV rf app : Nat) : C := seqs [.ops [⟨some 103, .assign (.const (.slice none 0 0)), 0, none, []⟩, ⟨some 104, .assign (.const (.bool false)), 0, none, []⟩],
 .ops [⟨some 0, .call ⟨.value (.func newP), #[], #[]⟩, pT, none, []⟩, ⟨some 105, .assign (T 0), 0, none, []⟩],
 .ops [⟨some 0, .move (V 5), 0, none, []⟩, ⟨some 1, .move (V 0), 0, none, []⟩, ⟨some 2, .convert N.ze N.zbp (T 1), 0, none, []⟩, ⟨some 3, .call ⟨.value (.func setV), #[T 0, T 2], #[pT, N.zbp]⟩, N.t_, none, []⟩],
 .seq (.ops [⟨some 0, .move (V 5), 0, none, []⟩, ⟨some 1, .move (V 2), 0, none, []⟩, ⟨some 2, .call ⟨.builtin .append, #[.const (.slice none 0 0), T 1], #[N.za, N.za]⟩, N.za, none, []⟩, ⟨some 3, .call ⟨.value (.func rf), #[T 0, T 2], #[pT, N.za]⟩, N.zhi, none, []⟩, ⟨some 106, .binOp .neq N.zhi (T 3) (.const .nilIface) N.zhi, 0, none, []⟩])
  (.cond 6 (.seq (.ops [⟨some 103, .assign (.const (.slice none 0 0)), 0, none, []⟩, ⟨some 104, .assign (.const (.bool false)), 0, none, []⟩]) .ret) .skip),
 .ops [⟨some 0, .move (V 5), 0, none, []⟩, ⟨some 1, .move (V 1), 0, none, []⟩, ⟨some 2, .call ⟨.builtin .append, #[.const (.slice none 0 0), T 1], #[N.za, N.za]⟩, N.za, none, []⟩, ⟨some 3, .call ⟨.value (.func app), #[T 0, T 2], #[pT, N.za]⟩, N.za, none, []⟩, ⟨some 103, .assign (T 3), 0, none, []⟩, ⟨some 104, .assign (.const (.bool true)), 0, none, []⟩], .ret]
end
section
variable {P : Program} {N : Nums} {A : zdp}
theorem zzf (B : Base P N) {w : World} {v : Value} {l : List UInt8} {ty : TypeId} (h : zgb w v l) (hl : l.length < 1099511627776) :
  ∃ v' w', (Builtin.append_ #[N.za, N.za] ty #[.slice none 0 0, v]).run P w = .ok v' w' ∧ OwnB w' w.heap.size v' l ∧ Mod w w' zad := by
 by_cases h0 : l = []
 ·subst h0
  have hsv : ∃ ad c, v = .slice ad 0 c := by
   rcases h with ⟨ad, c, e, _⟩ | ⟨a, c, e, _⟩
   ·exact ⟨ad, c, e⟩
   ·exact ⟨some a, c, e⟩
  obtain ⟨ad, c, rfl⟩ := hsv
  exact ⟨_, _, zob B.Lu8 B.uint8, zmx, .refl _ _⟩
 ·rcases h with ⟨ad, c, rfl, h⟩ | ⟨a, c, rfl, h1, h2, h3⟩
  ·exact absurd h h0
  ·obtain ⟨v', w', h4, h5, h6, _, h7⟩ := zoa (P := P) (ty := ty) B.Lu8 B.uint8 (m := l.length) (src := .slice (some a) l.length c) (new := l.map zy) (w := w) (lo := w.heap.size) (n := 0) (v := .slice none 0 0) (cs := []) (.inl ⟨rfl, rfl, rfl⟩) (fun i hi hsz =>
    Src.ofSlice w B.Lu8.und a _ c _ (by rw [hsz]; simp) (fun j u hj => by
     rw [List.getElem?_map] at hj
     cases hx : l[j]? with
     | none => rw [hx] at hj; simp at hj
     | some x => rw [hx] at hj; simp at hj; rw [← hj]; exact h3 j x hx) (zkr l)) (by simp) (Nat.le_refl _) rfl (by omega) (by decide) (fun _ => List.length_pos_iff.2 h0)
   refine ⟨v', w', h4, ?_, h6.mono fun k _ _ hn => hn (fun b o s n c e => by cases e)⟩
   rw [Nat.zero_add, List.nil_append] at h5
   exact h5
theorem call_doorB (B : Base P N) (F : Fns P N) (C : ApC P N A) {m : Msg} {d : zyt} (D : DoorT P N m true d) (hao : m.fs.aok P N A) {f rf app : Nat} {u : Bool} (happ : FOk P app 2 (m.appC N A) [.var 2]) (hf : FOk P f 3 (zzv N m.pT d.newP d.setV rf app) [.var 3, .var 4]) (hrf : FOk P rf 2 (c_rf N m.pT d.readf u) [.var 2])
  {w : World} {v vd : Value} {l dl : List UInt8} {n : Int} {te : TypeId} {ve : Value} {x : List Val} (ha : zgb w v l) (had : zgb w vd dl) (hl : l.length < 1099511627776) (he : w.cell? ⟨N.zag, 0, none⟩ = some (.iface te ve))
  (hrd : m.rd true (IntKind.i16.wrap n) ⟨l, false, l.isEmpty⟩ = some x) (hsm : smL x) (hver : 0 ≤ IntKind.i16.wrap n) (hlen : dl.length + (m.fs.wr (IntKind.i16.wrap n) (decide (IntKind.i16.wrap n ≥ m.fl)) x).length < 1099511627776) :
  Call P f #[.int .i64 n, vd, v] w fun r w' => ∃ v', r = .tuple #[v', .bool true] ∧ OctA w' v' (dl ++ m.fs.wr (IntKind.i16.wrap n) (decide (IntKind.i16.wrap n ≥ m.fl)) x) ∧ Mod w w' zad := by
 refine hf.call rfl fun loc N' hlo => ?_
 unfold zzv
 obtain ⟨ms, hms⟩ : ∃ ms, TI P N.zhi (.interface ms) 1 16 .nilIface := B.error.elim (fun h => ⟨_, h⟩) id
 have hgl : N.zag < w.heap.size := zfj (by rw [he]; rfl)
 refine zku (by simp) ?_
 refine zbi fun K hK => zj fun τ => ?_
 simp +decide only [bK]
 refine hK _ _ (zc fun σ1 hσ => ?_)
 have a0 := hσ 0
 have a1 := hσ 1
 have a2 := hσ 2
 simp +decide only [bE, Nat.reduceBeqDiff, Nat.reduceAdd, Nat.zero_add, zkt, zif, zmp] at a0 a1 a2
 clear hσ hK K
 refine zbi fun K hK => zj fun τ => ?_
 simp +decide only [bK]
 rw [zkg D.newP.has]
 refine (call_new B D w).mono ?_
 rintro v2 w2 ⟨rfl, m2, t2, ⟨x2, hx2⟩, r2, l2⟩
 refine hK _ _ (zc fun σ2 hσ => ?_)
 have b0 := hσ 0
 have b1 := hσ 1
 have b2 := hσ 2
 have b5 := hσ 5
 simp +decide only [bE, Nat.reduceBeqDiff, BEq.rfl, Nat.reduceAdd, Nat.zero_add, a0, a1, a2] at b0 b1 b2 b5
 clear hσ hK K a0 a1 a2
 obtain ⟨M, hM⟩ : ∃ M, M = w.heap.size := ⟨_, rfl⟩
 rw [← hM] at t2 hx2 r2 l2 b5
 refine zbi fun K hK => zj fun τ => ?_
 have hcv := fun {w : World} => zaq (P := P) (w := w) (k' := .i64) B.int B.int16 (n := n) ⟨_, rfl⟩
 simp +decide only [bK, bE, Nat.reduceBeqDiff, BEq.rfl, Nat.reduceAdd, Nat.zero_add, b0, b5, hcv]
 rw [zan D.setV.has]
 simp +decide only [bK, bE, Nat.reduceBeqDiff, BEq.rfl]
 refine (call_set B D (IntKind.i16.wrap n) t2 hx2).mono ?_
 rintro v3 w3 ⟨m3, hv3, s3⟩
 refine hK _ _ (zc fun σ3 hσ => ?_)
 have c1 := hσ 1
 have c2 := hσ 2
 have c5 := hσ 5
 simp +decide only [bE, Nat.reduceBeqDiff, Nat.reduceAdd, b1, b2, b5] at c1 c2 c5
 clear hσ hK K b0 b1 b2 b5
 have m03 : Mod w w3 zad := m2.fresh m3 fun k o h => by have := h.1; omega
 have t3 := m3.there l2 t2
 have r3 : w3.rangeAt M 1 m.fs.ini := m3.rangeAt l2 (fun i h1 _ h => by have := h.2.2; omega) r2
 have ha3 : zgb w3 v l := ha.stay m03 fun a h => World.cell?_of_block (m03.block _ h fun _ h => h)
 obtain ⟨vb, w4, hcp, hb4, m4⟩ := zzg (ty := N.za) B ha3 hl
 have m04 : Mod w w4 zad := m03.trans' m4
 have s4 := m4.size
 have hv4 : w4.cell? ⟨M, 0, none⟩ = some (.int .i16 (IntKind.i16.wrap n)) := by rw [m4.cell _ _ (by omega) fun h => h]; exact hv3
 have he4 : w4.cell? ⟨N.zag, 0, none⟩ = some (.iface te ve) := by rw [m04.cell _ _ hgl fun h => h]; exact he
 refine zbi fun K hK => zd fun K1 hK1 => zj fun τ => ?_
 simp +decide only [bK, bE, Nat.reduceBeqDiff, BEq.rfl, Nat.reduceAdd, c2, c5, hcp]
 rw [zan hrf.has]
 simp +decide only [bK, bE, Nat.reduceBeqDiff, BEq.rfl]
 refine (call_rf B F D hrf hb4 (Nat.le_refl _) (m4.there (by omega) t3) (by omega) (.inl (by omega)) (by omega) hv4 (m4.rangeAt (by omega) (fun _ _ _ h => h) r3) he4).mono ?_
 intro v5 w5 hpost
 obtain ⟨m5, hpost⟩ := hpost
 have m05 : Mod w w5 zad := m04.fresh m5 fun k o h => by have : k = M := h; omega
 have s5 := m5.size
 rw [hrd] at hpost
 obtain ⟨rfl, hv5, css, hrep, hr5, _⟩ := hpost
 simp +decide only [bK, run_isNil hms]
 refine hK1 _ _ (zc fun σ4 hσ => ?_)
 have d1 := hσ 1
 have d5 := hσ 5
 have d6 := hσ 6
 simp +decide only [bE, Nat.reduceBeqDiff, BEq.rfl, Nat.reduceAdd, c1, c5] at d1 d5 d6
 clear hσ hK1 K1
 refine W_if hlo d6 ?_
 simp only [Bool.false_eq_true, if_false]
 refine zbe (hK _ _ ?_)
 clear hK K
 have hov : m.fs.okV x := by
  unfold Msg.rd at hrd
  split at hrd
  ·cases hrd
  ·rename_i l' s' h1
   split at hrd
   ·cases hrd
   ·cases hrd; exact Fds.rd_ok _ _ m.fs D.dok _ _ _ h1
 have had5 : zgb w5 vd dl := had.stay m05 fun a h => World.cell?_of_block (m05.block _ h fun _ h => h)
 obtain ⟨vo, w6, hcp6, ho6, m6⟩ := zzf (ty := N.za) B had5 (by omega)
 have s6 := m6.size
 have hv6 : w6.cell? ⟨M, 0, none⟩ = some (.int .i16 (IntKind.i16.wrap n)) := by rw [m6.cell _ _ (by omega) fun h => h]; exact hv5
 refine zbi fun K hK => zj fun τ => ?_
 simp +decide only [bK, bE, Nat.reduceBeqDiff, BEq.rfl, Nat.reduceAdd, d1, d5, hcp6]
 rw [zan happ.has]
 simp +decide only [bK, bE, Nat.reduceBeqDiff, BEq.rfl]
 refine (zwc B F C hao D.msg.hf D.msg.v0 happ (G := GG w3.heap.size w4.heap.size w4.heap.size w5.heap.size) hver hv6 hov hsm (RepL.mod m6 (fun k h => ⟨by rcases h with h | h <;> omega, fun _ h => h, h⟩) _ hrep) (zam m6 hr5) (fun k h => by rcases h with h | h <;> omega) (by omega) (Nat.le_of_lt_succ (by omega)) ho6 hlen).mono ?_
 rintro v7 w7 ⟨ho7, m7⟩
 refine hK _ _ (zc fun σ5 hσ => zbi fun K2 hK2 => zay ?_)
 have g3 := hσ 3
 have g4 := hσ 4
 simp +decide only [bE, Nat.reduceBeqDiff, BEq.rfl, Nat.reduceAdd] at g3 g4
 exact ⟨.inr rfl, _, ⟨σ5 3, σ5 4, rfl, rfl, rfl⟩, v7, by rw [g3, g4], ho7.octA, (m05.trans' m6).trans m7 fun k o hk h => h.elim id fun h => by omega⟩
end
structure LawBB (P : Program) (N : Nums) (M : zcr) (A : zdp) (m : Msg) (d : zyt) (app : Nat) (k : Nat) (mk : Nat) (sc : List SC) (fl : Int) : Prop where
 D : DoorT P N m true d
 rf : FOk P d.readF 2 (c_rf N m.pT d.readf false) [.var 2]
 mv : FOk P d.maxV 1 (c_max k) [.var 1]
 mi : FOk P d.maxI 0 (c_maxI N m.pT d.newP d.maxV) [.var 0]
 ti : FOk P d.tellI 3 (zzv N m.pT d.newP d.setV d.readF app) [.var 3, .var 4]
 ap : FOk P app 2 (m.appC N A) [.var 2]
 ao : m.fs.aok P N A
 k1 : IntKind.i64.wrap k = k
 k2 : IntKind.i64.wrap (k + 1) = k + 1
 kk : k < 32767
 mf : FOk P mk 0 (c_msg M sc fl) [.cell 0 M.zas]
 scb : scB sc = true
 sco : scOk P sc
 okf : ztr (SC.flds sc) = true
 ver : verB m true (SC.flds sc) fl k = true
def zzk (N : Nums) : List ROp := [⟨some 0, .move (V 13), 0, none, []⟩, ⟨some 1, .move (T 0), 0, none, []⟩, ⟨some 2, .move (V 12), 0, some (some 1, true), []⟩, ⟨some 3, .buildSlice N.za 0 #[], 0, some (some 1, true), []⟩, ⟨some 4, .move (V 1), 0, some (some 1, true), []⟩,
 ⟨some 5, .call ⟨.builtin .append, #[T 3, T 4], #[N.za, N.za]⟩, N.za, some (some 1, true), []⟩, ⟨some 6, .move (V 11), 0, some (some 1, true), []⟩, ⟨some 7, .call ⟨.builtin .append, #[T 5, T 6], #[N.za, N.za]⟩, N.za, some (some 1, true), []⟩,
 ⟨some 8, .call ⟨.value (.func N.zen), #[T 2, T 7], #[N.za, N.za]⟩, N.zav, some (some 1, true), []⟩, ⟨some 9, .pick (T 1) (T 8) (.const (.bool false)), 0, none, []⟩, ⟨some 104, .assign (T 9), 0, none, []⟩]
def c_lawB (N : Nums) (M : zcr) (tLB maxI behI mk : Nat) : C := seqs [
 .ops [⟨some 103, .box N.zf (V 2), 0, none, []⟩, ⟨some 104, .assign (.const (.bool false)), 0, none, []⟩],
 .seq (.ops [⟨some 0, .move (V 1), 0, none, []⟩, ⟨some 1, .call ⟨.builtin .len, #[T 0], #[N.za]⟩, N.ze, none, []⟩, ⟨some 2, .binOp .gtr N.ze (T 1) (.const (.int .i64 2147483647)) N.ze, 0, none, []⟩, ⟨some 3, .move (T 2), 0, none, []⟩, ⟨some 4, .load N.zf (V 3), 0, some (some 3, false), []⟩,
   ⟨some 5, .call ⟨.value (.func M.zsu), #[T 4], #[N.zf]⟩, N.zav, some (some 3, false), []⟩, ⟨some 6, .unOp .not N.zav (T 5), 0, some (some 3, false), []⟩, ⟨some 105, .pick (T 3) (.const (.bool true)) (T 6), 0, none, []⟩]) (.cond 5 (.seq (zhc 4 (.bool true)) .ret) .skip),
 .ops [⟨some 0, .call ⟨.value (.func maxI), #[], #[]⟩, N.ze, none, []⟩, ⟨some 106, .assign (T 0), 0, none, []⟩],
 .seq (.ops [⟨some 0, .move (V 6), 0, none, []⟩, ⟨some 107, .binOp .lss N.ze (T 0) (.const (.int .i64 0)) N.ze, 0, none, []⟩]) (.cond 7 (.seq (zhc 4 (.bool false)) .ret) .skip),
 .ops [⟨some 0, .call ⟨.value (.func mk), #[], #[]⟩, M.zas, none, []⟩, ⟨some 1, .move (V 0), 0, none, []⟩, ⟨some 2, .move (V 6), 0, none, []⟩, ⟨some 3, .call ⟨.value (.func N.zko), #[T 1, T 2], #[N.zg, N.ze]⟩, N.ze, none, []⟩,
  ⟨some 108, .alloc M.zas, 0, none, []⟩, ⟨none, .store M.zas (V 8) (T 0), 0, none, []⟩, ⟨some 109, .assign (T 3), 0, none, []⟩],
 .seq (.ops [⟨some 0, .move (V 1), 0, none, []⟩, ⟨some 1, .call ⟨.builtin .len, #[T 0], #[N.za]⟩, N.ze, none, []⟩, ⟨some 110, .binOp .gtr N.ze (T 1) (.const (.int .i64 1000)) N.ze, 0, none, []⟩]) (.cond 10 (.seq (zhc 4 (.bool true)) .ret) .skip),
 .ops [⟨some 0, .load M.zas (V 8), 0, none, []⟩, ⟨some 1, .move (V 9), 0, none, []⟩, ⟨some 2, .load N.zf (V 3), 0, none, []⟩, ⟨some 3, .call ⟨.value (.func M.zlz), #[T 0, T 1, T 2], #[M.zas, N.ze, N.zf]⟩, N.za, none, []⟩, ⟨some 111, .assign (T 3), 0, none, []⟩],
 .ops [⟨some 1, .move (V 9), 0, none, []⟩, ⟨some 2, .move (V 1), 0, none, []⟩, ⟨some 3, .move (V 11), 0, none, []⟩, ⟨some 4, .call ⟨.value (.func behI), #[T 1, T 2, T 3], #[N.ze, N.za, N.za]⟩, tLB, none, []⟩,
  ⟨some 0, .move (T 4), 0, none, []⟩, ⟨some 5, .extract (T 0) 0, 0, none, []⟩, ⟨some 6, .extract (T 0) 1, 0, none, []⟩, ⟨some 112, .assign (T 5), 0, none, []⟩, ⟨some 113, .assign (T 6), 0, none, []⟩],
 .ops (zzk N), .ret]
section
variable {P : Program} {N : Nums} {M : zcr} {A : zdp}
theorem zgb.stay' {w w' : World} (m : Mod w w' zad) {v : Value} {l : List UInt8} (h : zgb w v l) : zgb w' v l := h.stay m fun a h => World.cell?_of_block (m.block _ h fun _ h => h)
theorem run_bs0 (B : Base P N) (w : World) : ∃ w', (Instr.buildSlice N.za 0 #[]).run P w = .ok (.slice (some ⟨w.heap.size, 0, none⟩) 0 0) w' ∧ Mod w w' zad ∧ w'.heap.size = w.heap.size + 1 ∧ OwnB w' w.heap.size (.slice (some ⟨w.heap.size, 0, none⟩) 0 0) [] := by
 exact ⟨_, zgt B.Lu8 B.uint8, Mod.alloc _ _ _, zau _ _, .inr ⟨w.heap.size, 0, rfl, Nat.le_refl _, by rw [zau]; exact Nat.lt_succ_self _, Nat.le_refl _, fun j hj => by simp at hj, fun j x hx => by simp at hx, rfl⟩⟩
theorem run_appArg (B : Base P N) {w : World} {lo : Nat} {v src : Value} {l s : List UInt8} {ty : TypeId} (ho : OwnB w lo v l) (hv : v ≠ .slice none 0 0) (hs : zgb w src s) (hlo : lo ≤ w.heap.size) (hbig : l.length + s.length < 1099511627776) :
  ∃ v' w', (Builtin.append_ #[N.za, N.za] ty #[v, src]).run P w = .ok v' w' ∧ OwnB w' lo v' (l ++ s) ∧ Mod w w' (fun i _ => ¬ zby v i) := by
 obtain ⟨v', w', h1, h2, h3, _, h5⟩ := zoa (P := P) (ty := ty) B.Lu8 B.uint8 (m := s.length) (src := src) (new := s.map zy) ho (fun i hi hsz => by
  rcases hs with ⟨ad, c, rfl, rfl⟩ | ⟨a, c, rfl, _, _, hr⟩
  ·cases ad with
   | none => exact Src.ofNil w B.Lu8.und c
   | some a => exact Src.ofSlice w B.Lu8.und a 0 c [] (by simp) (fun j u hj => by simp at hj) (fun u hu => by cases hu)
  ·exact Src.ofSlice w B.Lu8.und a _ c _ (by rw [hsz]; simp) (fun j u hj => by
    rw [List.getElem?_map] at hj
    cases hx : s[j]? with
    | none => rw [hx] at hj; simp at hj
    | some x => rw [hx] at hj; simp at hj; rw [← hj]; exact hr j x hx) (zkr s)) (by simp) hlo rfl hbig (by decide) (fun h => absurd h hv)
 exact ⟨v', w', h1, by rw [OwnB, List.length_append, List.map_append]; exact h2, h3⟩
theorem W_sameB (B : Base P N) (F : Fns P N) (hN : N.zen ≠ 0) {loc : List Nat} {N' : Nat} {Q : Exit → Env → World → Prop} {σ : Env} {w : World} {vd vo vb : Value} {dl bl : List UInt8}
  (h1 : σ 1 = vd) (h11 : σ 11 = vb) (h12 : σ 12 = vo) (h13 : σ 13 = .bool true) (hd : zgb w vd dl) (hb : OctA w vb bl) (ho : OctA w vo (dl ++ bl)) (hlen : dl.length + bl.length < 1099511627776)
  (hQ : ∀ (σ' : Env) (w' : World), σ' 4 = .bool true → Mod w w' zad → Q .normal σ' w') : W P loc N' (.ops (zzk N)) Q σ w := by
 unfold zzk
 refine zj fun τ => ?_
 obtain ⟨w1, hb1, m1, s1, o1⟩ := run_bs0 B w
 obtain ⟨v2, w2, ha2, o2, m2⟩ := run_appArg (ty := N.za) B o1 (by simp) (hd.stay' m1) (by omega) (by simpa using (by omega : dl.length < 1099511627776))
 have m02 : Mod w w2 zad := m1.fresh m2 fun k o h => by
  refine Nat.not_lt.1 fun hk => h fun b o s n c e => ?_
  injection e with e _ _
  injection e with e
  injection e with e _ _
  omega
 obtain ⟨v3, w3, ha3, o3, m3, _⟩ := zfb (ty := N.za) B o2 (hb.stay m02) (by have := m02.size; omega) (by simpa using hlen)
 have m03 : Mod w w3 zad := m02.fresh m3 fun k o h => (o2.blk h).1
 rw [List.nil_append] at o2 o3
 have e0 : ∀ ρ : Env, (#[] : Array (Nat × Operand)).map (fun p => (p.1, ev ρ p.2)) = #[] := fun ρ => by simp
 simp +decide only [bK, bE, BEq.rfl, Nat.reduceAdd, h13]
 rw [zah (b := true) (by simp +decide only [bE, BEq.rfl])]
 simp +decide only [bK, bE, Nat.reduceBeqDiff, Nat.reduceAdd, h12]
 rw [zah (b := true) (by simp +decide only [bE, Nat.reduceBeqDiff, BEq.rfl])]
 simp +decide only [bK, e0, hb1]
 rw [zah (b := true) (by simp +decide only [bE, Nat.reduceBeqDiff, BEq.rfl])]
 simp +decide only [bK, bE, Nat.reduceBeqDiff, Nat.reduceAdd, h1]
 rw [zah (b := true) (by simp +decide only [bE, Nat.reduceBeqDiff, BEq.rfl])]
 simp +decide only [bK, bE, Nat.reduceBeqDiff, BEq.rfl, ha2]
 rw [zah (b := true) (by simp +decide only [bE, Nat.reduceBeqDiff, BEq.rfl])]
 simp +decide only [bK, bE, Nat.reduceBeqDiff, Nat.reduceAdd, h11]
 rw [zah (b := true) (by simp +decide only [bE, Nat.reduceBeqDiff, BEq.rfl])]
 simp +decide only [bK, bE, Nat.reduceBeqDiff, BEq.rfl, ha3]
 rw [zah (b := true) (by simp +decide only [bE, Nat.reduceBeqDiff, BEq.rfl]), zan (F.spec_Same hN).has]
 simp +decide only [bK, bE, Nat.reduceBeqDiff, BEq.rfl]
 refine (call_SameA B F hN (ho.stay m03) o3.octA (by rw [List.length_append]; omega)).mono ?_
 rintro _ w4 ⟨rfl, m4⟩
 simp +decide only [bK, bE, Nat.reduceBeqDiff, BEq.rfl, if_true, zch]
 refine zc fun σ' hσ => hQ σ' w4 ?_ (m03.trans' m4)
 have g := hσ 4
 simp +decide only [bE, BEq.rfl, Nat.reduceAdd] at g
 exact g
theorem call_lawB (B : Base P N) (F : Fns P N) (S : SpT P N M) (hZ : SZ P N M) (hW : SW P N M) (C : ApC P N A) (hN : N.zen ≠ 0) (hV : N.zko ≠ 0) {m : Msg} {d : zyt} {app k mk : Nat} {sc : List SC} {fl : Int} (L : LawBB P N M A m d app k mk sc fl) {f tLB : Nat}
  (hf : FOk P f 3 (c_lawB N M tLB d.maxI d.tellI mk) [.var 4]) {w : World} {vd : Value} {dl : List UInt8} {t : Tr} {ct : List Value} {n : Int} {te : TypeId} {ve : Value} (hn : 0 ≤ n ∧ n ≤ 255) (had : zgb w vd dl) (ht : RepA w t ct) (hwf : wfT t) (hsz : szT t ≤ 1048576) (he : w.cell? ⟨N.zag, 0, none⟩ = some (.iface te ve)) :
  Call P f #[.int .u8 n, vd, .agg ct.toArray] w fun v' w' => v' = .bool true ∧ Mod w w' zad := by
 refine hf.call rfl fun loc N' hlo => ?_
 unfold c_lawB
 refine zku (by simp) ?_
 refine zbi fun K hK => zj fun τ => ?_
 simp +decide only [bK, bE, Nat.reduceAdd]
 obtain ⟨w1, hw1⟩ : ∃ w1, w1 = w.alloc (.cells (Value.cells (.agg ct.toArray)) N.zf) := ⟨_, rfl⟩
 have m1 : Mod w w1 zad := by rw [hw1]; exact Mod.alloc _ _ _
 have r1 : w1.rangeAt w.heap.size 0 ct := by rw [hw1]; exact zz w _ _ _
 have s1 : w1.heap.size = w.heap.size + 1 := by rw [hw1]; exact zau _ _
 rw [← hw1]
 clear hw1
 refine hK _ _ (zc fun σ1 hσ => ?_)
 have a0 := hσ 0
 have a1 := hσ 1
 have a3 := hσ 3
 simp +decide only [bE, Nat.reduceBeqDiff, BEq.rfl, Nat.reduceAdd, Nat.zero_add, zkt, zif] at a0 a1 a3
 clear hσ hK K
 obtain ⟨bT, hbT⟩ : ∃ b, b = w.heap.size := ⟨_, rfl⟩
 rw [← hbT] at a3 r1
 have ht1 := RepA.stay m1 _ ht
 have had1 : zgb w1 vd dl := had.stay' m1
 refine zbi fun K hK => zd fun K1 hK1 => zj fun τ => ?_
 simp +decide only [bK, bE, BEq.rfl, Nat.reduceAdd, a1, had1.run_len B]
 by_cases hbig : (dl.length : Int) > 2147483647
 ·rw [decide_eq_true hbig]
  refine Eq.mpr (zbl (by simp +decide only [bE, BEq.rfl]; rfl)) ?_
  refine Eq.mpr (zbl (by simp +decide only [bE, Nat.reduceBeqDiff, BEq.rfl]; rfl)) ?_
  refine Eq.mpr (zbl (by simp +decide only [bE, Nat.reduceBeqDiff, BEq.rfl]; rfl)) ?_
  simp +decide only [bK, bE, Nat.reduceBeqDiff, BEq.rfl, if_true, zch]
  refine hK1 _ _ (zc fun σ2 hσ => ?_)
  have b5 := hσ 5
  simp +decide only [bE, BEq.rfl, Nat.reduceAdd] at b5
  refine W_if hlo b5 ?_
  simp only [if_true]
  exact zd fun K1 hK1 => zak (hK1 _ _ (zay ⟨.inr rfl, _, rfl, upd_same _ _ _, m1⟩))
 rw [decide_eq_false hbig]
 rw [zah (b := false) (by simp +decide only [bE, BEq.rfl])]
 simp +decide only [bK, bE, Nat.reduceBeqDiff, Nat.reduceAdd, a3, zfw S.tr r1 ht.len]
 rw [zah (b := false) (by simp +decide only [bE, Nat.reduceBeqDiff, BEq.rfl]), zar hZ.zzFits1.has]
 simp +decide only [bK, bE, BEq.rfl]
 refine (sp_fits1 B S hZ ht1 (fits_of hsz)).mono ?_
 rintro _ w2 ⟨rfl, m2⟩
 rw [zah (b := false) (by simp +decide only [bE, Nat.reduceBeqDiff, BEq.rfl])]
 simp +decide only [bK, bE, Nat.reduceBeqDiff, BEq.rfl, if_false, zch]
 refine hK1 _ _ (zc fun σ2 hσ => ?_)
 have b0 := hσ 0
 have b1 := hσ 1
 have b3 := hσ 3
 have b5 := hσ 5
 simp +decide only [bE, Nat.reduceBeqDiff, BEq.rfl, Nat.reduceAdd, Nat.zero_add, a0, a1, a3] at b0 b1 b3 b5
 clear hσ hK1 K1 a0 a1 a3
 refine W_if hlo b5 ?_
 simp only [Bool.not_true, Bool.false_eq_true, if_false]
 refine zbe (hK _ _ ?_)
 clear hK K b5
 have m02 := m1.trans' m2
 refine zbi fun K hK => zj fun τ => ?_
 simp +decide only [bK]
 rw [zkg L.mi.has]
 refine (call_maxI B L.D L.mv L.mi w2).mono ?_
 rw [L.k1]
 rintro _ w3 ⟨rfl, m3⟩
 simp +decide only [bE, BEq.rfl]
 refine hK _ _ (zc fun σ3 hσ => ?_)
 have c0 := hσ 0
 have c1 := hσ 1
 have c3 := hσ 3
 have c6 := hσ 6
 simp +decide only [bE, Nat.reduceBeqDiff, BEq.rfl, Nat.reduceAdd, Nat.zero_add, b0, b1, b3] at c0 c1 c3 c6
 clear hσ hK K b0 b1 b3
 have m03 := m02.trans' m3
 refine zbi fun K hK => zd fun K1 hK1 => zj fun τ => ?_
 simp +decide only [bK, bE, BEq.rfl, Nat.reduceAdd, c6]
 refine hK1 _ _ (zc fun σ4 hσ => ?_)
 have d0 := hσ 0
 have d1 := hσ 1
 have d3 := hσ 3
 have d6 := hσ 6
 have d7 := hσ 7
 simp +decide only [bE, Nat.reduceBeqDiff, BEq.rfl, Nat.reduceAdd, Nat.zero_add, c0, c1, c3, c6] at d0 d1 d3 d6 d7
 clear hσ hK1 K1 c0 c1 c3 c6
 refine W_if hlo d7 ?_
 have hk0 : ¬ (k : Int) < 0 := by omega
 simp only [hk0, decide_false, Bool.false_eq_true, if_false]
 refine zbe (hK _ _ ?_)
 clear hK K d7
 obtain ⟨v, hv⟩ : ∃ v : Nat, (IntKind.i64.wrap n).tmod (IntKind.i64.wrap (k + 1)) = (v : Int) ∧ v ≤ k := by
  rw [L.k2, zem (by omega) (by omega)]
  have h1 := Int.tmod_nonneg (k + 1 : Int) hn.1
  have h2 := Int.tmod_lt_of_pos n (show (0 : Int) < k + 1 by omega)
  exact ⟨(n.tmod (k + 1)).toNat, by omega, by omega⟩
 obtain ⟨fsM, htM, _⟩ := S.msg.out
 refine zbi fun K hK => zj fun τ => ?_
 simp +decide only [bK, bE, Nat.reduceBeqDiff, BEq.rfl, Nat.reduceAdd, Nat.zero_add]
 rw [zkg L.mf.has]
 refine (mk_msg S L.scb L.sco L.mf w3).mono ?_
 rintro _ w4 ⟨fv, rfl, hfv, m4⟩
 simp +decide only [bE, Nat.reduceBeqDiff, d0, d6]
 rw [zan (F.version hV).has]
 simp +decide only [bK, bE, Nat.reduceBeqDiff, BEq.rfl]
 refine (zxw B F hV w4 n k (by rw [L.k2]; omega)).mono ?_
 rintro _ w4' ⟨rfl, hw4⟩
 obtain rfl := hw4.symm
 clear hw4
 rw [hv.1]
 obtain ⟨w5, w6, hal, hst, _, m46, s6, r6, _⟩ := ztg (cs := [fv, .int .i64 fl]) htM (by decide) rfl rfl (by
  intro c hc; simp at hc; rcases hc with rfl | rfl
  ·exact hfv.one
  ·rfl) w4
 simp +decide only [bK, hal, hst]
 refine hK _ _ (zc fun σ5 hσ => ?_)
 have e1 := hσ 1
 have e3 := hσ 3
 have e8 := hσ 8
 have e9 := hσ 9
 simp +decide only [bE, Nat.reduceBeqDiff, BEq.rfl, Nat.reduceAdd, d1, d3] at e1 e3 e8 e9
 clear hσ hK K d0 d1 d3 d6 hal hst
 obtain ⟨bM, hbM⟩ : ∃ b, b = w4.heap.size := ⟨_, rfl⟩
 rw [← hbM] at e8 r6
 have m06 := (m03.trans' m4).trans' m46
 have m16 := ((m2.trans' m3).trans' m4).trans' m46
 have hf6 := hfv.stay m46
 have ht6 := RepA.stay m06 _ ht
 have rT6 := zam m16 r1
 have had6 : zgb w6 vd dl := had.stay' m06
 refine zbi fun K hK => zd fun K1 hK1 => zj fun τ => ?_
 simp +decide only [bK, bE, BEq.rfl, Nat.reduceAdd, e1, had6.run_len B]
 refine hK1 _ _ (zc fun σ6 hσ => ?_)
 have f1 := hσ 1
 have f3 := hσ 3
 have f8 := hσ 8
 have f9 := hσ 9
 have f10 := hσ 10
 simp +decide only [bE, Nat.reduceBeqDiff, BEq.rfl, Nat.reduceAdd, e1, e3, e8, e9] at f1 f3 f8 f9 f10
 clear hσ hK1 K1 e1 e3 e8 e9
 refine W_if hlo f10 ?_
 by_cases hbd : (dl.length : Int) > 1000
 ·simp only [hbd, decide_true, if_true]
  exact zd fun K1 hK1 => zak (hK1 _ _ (zay ⟨.inr rfl, _, rfl, upd_same _ _ _, m06⟩))
 simp only [hbd, decide_false, Bool.false_eq_true, if_false]
 refine zbe (hK _ _ ?_)
 clear hK K f10
 obtain ⟨g1, g2, g3⟩ := verB_at L.ver hv.2
 have hbl : (zci (zoz fl v) v (SC.flds sc) t).length ≤ K0 * szT t := partB_len L.okf (by rw [SC.flds_len]; exact (zvm L.scb).2.2.2) hwf
 have hK0 : K0 * szT t ≤ 40000 * 1048576 := Nat.mul_le_mul (Nat.le_refl _) hsz
 have hbl2 : (zci (zoz fl v) v (SC.flds sc) t).length < 549755813888 := by omega
 rw [← g3] at g1 g2
 obtain ⟨p1, x, p2, p3⟩ := msg_rd (m := m) (fx := true) (ver := v) hwf (by rw [← g3]; exact g1)
 have p4 := msg_wr (m := m) (fx := true) (ver := v) hwf (by rw [← g3]; exact g1) p2
 have p5 : smL x := by
  have hm := g1
  rw [g3] at hm
  have hr := p2
  unfold Msg.rd at hr
  have hp : zci (true && decide ((v : Int) ≥ m.fl)) v (SC.flds sc) t = zdr (true && decide ((v : Int) ≥ m.fl)) v (SC.flds sc) 0 t := by simp [zci, endB, zdr]
  obtain ⟨l', h1, _⟩ := Fds.rd_of m.fs (SC.flds sc) hm 0 t [] hwf
  have h1' := h1
  rw [List.append_nil] at h1
  rw [hp, h1] at hr
  have hr : some l' = some x := hr
  injection hr with hr
  subst hr
  exact Fds.sm_of m.fs (SC.flds sc) L.D.dok hm 0 t [] l' hwf h1'
 rw [← g3] at p1 p2 p4
 have hi16 : IntKind.i16.wrap (v : Int) = v := zru (by have := L.kk; omega)
 obtain ⟨s, hs⟩ : ∃ s, s = zci (zoz fl v) v (SC.flds sc) t := ⟨_, rfl⟩
 rw [← hs] at hbl2 p1 p2 p4
 have hrd : m.rd true v ⟨s, false, s.isEmpty⟩ = some x := by
  cases he : s.isEmpty with
  | false => exact p2
  | true =>
   rw [List.isEmpty_iff] at he
   rcases g2 with g2 | g2
   ·exact absurd he (p1 g2)
   ·rw [he] at p2 ⊢
    rw [g3] at g2
    obtain ⟨y, hy⟩ := Fds.off_rd g2
    simp only [Msg.rd, rs, hy] at p2 ⊢
    exact p2
 have hld := htM.run_load (w := w6) (b := bM) (o := 0) r6 rfl (fun h => by cases h)
 have hlv : ∀ (f : Array Field) (x : List Value), ldv (.struct f) x = .agg x.toArray := fun _ _ => rfl
 rw [hlv] at hld
 have hgl : N.zag < w.heap.size := zfj (by rw [he]; rfl)
 refine zbi fun K hK => zj fun τ => ?_
 simp +decide only [bK, bE, Nat.reduceBeqDiff, Nat.reduceAdd, f3, f8, f9, hld, zfw S.tr rT6 ht.len]
 rw [zix hW.Write.has]
 simp +decide only [bK, bE, Nat.reduceBeqDiff, BEq.rfl]
 refine (sp_Write B S hW (by rw [SC.flds_len]; exact (zvm L.scb).2.2.2) L.okf hf6 ht6 hwf (by rw [← hs]; exact hbl2)).mono ?_
 rintro r w7 ⟨ho7, m7⟩
 rw [← hs] at ho7
 refine hK _ _ (zc fun σ7 hσ => ?_)
 have i1 := hσ 1
 have i9 := hσ 9
 have i11 := hσ 11
 simp +decide only [bE, Nat.reduceBeqDiff, BEq.rfl, Nat.reduceAdd, f1, f9] at i1 i9 i11
 clear hσ hK K f1 f3 f8 f9
 have m07 := m06.trans' m7
 have had7 : zgb w7 vd dl := had.stay' m07
 have he7 : w7.cell? ⟨N.zag, 0, none⟩ = some (.iface te ve) := by rw [m07.cell _ _ hgl fun h => h]; exact he
 have hfx : zoz fl v = decide ((v : Int) ≥ m.fl) := by rw [g3, Bool.true_and]
 rw [hfx] at p4
 refine zbi fun K hK => zj fun τ => ?_
 simp +decide only [bK, bE, Nat.reduceBeqDiff, BEq.rfl, Nat.reduceAdd, i1, i9, i11]
 rw [zix L.ti.has]
 simp +decide only [bK, bE, Nat.reduceBeqDiff, BEq.rfl]
 refine (call_doorB B F C L.D L.ao L.ap L.ti L.rf (n := v) ho7.octA.argOct had7 (by omega) he7 (by rw [hi16]; exact hrd) p5 (by rw [hi16]; omega) (by rw [hi16, p4]; omega)).mono ?_
 rintro _ w8 ⟨vo, rfl, ho8, m8⟩
 rw [hi16, p4] at ho8
 simp +decide only [bK]
 refine hK _ _ (zc fun σ8 hσ => ?_)
 have j1 := hσ 1
 have j11 := hσ 11
 have j12 := hσ 12
 have j13 := hσ 13
 simp +decide only [bE, Nat.reduceBeqDiff, BEq.rfl, Nat.reduceAdd, i1, i11] at j1 j11 j12 j13
 clear hσ hK K i1 i9 i11
 refine zbi fun K hK => W_sameB B F hN j1 j11 j12 j13 (had7.stay' m8) (ho7.octA.stay m8) ho8 (by omega) fun σ9 w9 h4 m9 => hK _ _ ?_
 exact zbi fun K2 hK2 => zay ⟨.inr rfl, _, rfl, h4, (m07.trans' m8).trans' m9⟩
end
section
variable {P : Program} {N : Nums} {A : zdp}
def PtrAt (w : World) (c : Value) (o : Option (List UInt8)) : Prop := ∃ m : Option Addr, c = .pointer m ∧ m.isNone = o.isNone ∧ ∀ l, o = some l → ∃ b, m = some ⟨b, 0, none⟩ ∧ w.cell? ⟨b, 0, none⟩ = some (strV l)
theorem ptrAt_of {w : World} {G : Nat → Prop} {o : Option (List UInt8)} {c : Value} (h : Rep w G (.nstr o) [c]) : PtrAt w c o := by
 cases o with
 | none =>
  have h : [c] = [.pointer none] := by simpa only [Rep] using h
  injection h with h _
  exact ⟨none, h, rfl, fun l e => by cases e⟩
 | some l =>
  simp only [Rep] at h
  obtain ⟨b, e, g, hr⟩ := h
  injection e with e _
  exact ⟨_, e, rfl, fun l' e' => by cases e'; exact ⟨b, rfl, hr 0 _ rfl⟩⟩
theorem counted_n2 : zr false true 0 2 = fixB (-1) 2 := by simp [zr]
theorem zup (n : Nat) : zr false false n 2 = fixB n 2 := by simp [zr]
theorem counted_s4 (n : Nat) : zr false false n 4 = fixB n 4 := by simp [zr]
theorem counted_nc (k : Nat) : zr true true 0 k = uvB 0 := by rw [uvB]; simp [zr]
theorem zqc (n k : Nat) : zr true false n k = uvB (n + 1) := by simp [zr]
theorem zqe (B : Base P N) (hP : N.zbm ≠ 0) (hU : FOk P A.zdo 2 (zeq N A) [.var 2]) (hI : FOk P A.zdd 2 (zga N A) [.var 2]) (hS : FOk P A.zdz 2 (zhr N A) [.var 2]) (h : FOk P A.zdk 2 (zfk N A) [.var 2])
  {w : World} {lo : Nat} {d c : Value} {l : List UInt8} {o : Option (List UInt8)} (hp : PtrAt w c o) (hs : (o.getD []).length < 4294967295) (ho : OwnB w lo d l) (hlo : lo ≤ w.heap.size) (hb : l.length + (Txt.nstr.wr false (.nstr o)).length < 1099511627776) :
  Call P A.zdk #[d, c] w (Apd w lo d l (Txt.nstr.wr false (.nstr o))) := by
 obtain ⟨m, rfl, hm, hsome⟩ := hp
 refine h.call rfl fun loc N' hlo' => ?_
 unfold zfk
 refine zd fun K hK => zj fun τ => ?_
 simp +decide only [bK, Nat.reduceAdd]
 refine hK _ _ (zc fun σ1 hσ => ?_)
 have a0 := hσ 0
 have a1 := hσ 1
 simp +decide only [bE, Nat.reduceBeqDiff, Nat.reduceAdd, Nat.zero_add, zdc, zcm] at a0 a1
 clear hσ hK K
 refine zd fun K hK => zd fun K1 hK1 => zj fun τ => ?_
 simp +decide only [bK, bE, BEq.rfl, Nat.reduceAdd, a1, run_eqlP (B.pstring hP).und]
 refine hK1 _ _ (zc fun σ2 hσ => ?_)
 have c0 := hσ 0
 have c1 := hσ 1
 have c3 := hσ 3
 simp +decide only [bE, Nat.reduceBeqDiff, BEq.rfl, Nat.reduceAdd, Nat.zero_add, a0, a1] at c0 c1 c3
 clear hσ hK1 K1
 refine W_if hlo' c3 ?_
 cases o with
 | none =>
  rw [if_pos (by rw [hm]; rfl)]
  have e : Txt.nstr.wr false (.nstr none) = fixB (-1) 2 := by rw [Txt.wr, counted_n2]
  rw [e] at hb ⊢
  refine zd fun K2 hK2 => zj fun τ => ?_
  simp +decide only [bK, bE, Nat.reduceAdd, Nat.zero_add, c0]
  rw [zan hI.has]
  simp +decide only [bK, bE, BEq.rfl]
  refine (zwf B hU hI (-1) ho hlo hb).mono ?_
  intro v' w' h2
  refine hK2 _ _ (zc fun σ3 hσ => zay ?_)
  have b3 := hσ 2
  simp +decide only [bE, BEq.rfl, Nat.reduceAdd] at b3
  exact ⟨.inr rfl, _, rfl, by rw [b3]; exact h2⟩
 | some s =>
  rw [if_neg (by rw [hm]; simp)]
  refine zbe (hK _ _ ?_)
  obtain ⟨b, rfl, hcell⟩ := hsome s rfl
  have e : Txt.nstr.wr false (.nstr (some s)) = fixB s.length 2 ++ s := by rw [Txt.wr, zup]
  rw [e] at hb ⊢
  refine zd fun K2 hK2 => zj fun τ => ?_
  simp +decide only [bK, bE, Nat.reduceBeqDiff, Nat.reduceAdd, Nat.zero_add, c0, c1]
  rw [zw rfl]
  simp +decide only [bK, bE, BEq.rfl, B.string.run_load1 rfl, hcell]
  rw [zan hS.has]
  simp +decide only [bK, bE, Nat.reduceBeqDiff, BEq.rfl]
  refine (zyj B hU hI hS s hs ho hlo hb).mono ?_
  intro v' w' h2
  refine hK2 _ _ (zc fun σ3 hσ => zay ?_)
  have b3 := hσ 2
  simp +decide only [bE, BEq.rfl, Nat.reduceAdd] at b3
  exact ⟨.inr rfl, _, rfl, by rw [b3]; exact h2⟩
theorem zpi (B : Base P N) (hP : N.zbm ≠ 0) (hU : UvT P N A) (hS : FOk P A.zce 2 (zek N A) [.var 2]) (h : FOk P A.zcj 2 (zdw N A) [.var 2])
  {w : World} {lo : Nat} {d c : Value} {l : List UInt8} {o : Option (List UInt8)} (hp : PtrAt w c o) (hs : (o.getD []).length < 4294967295) (ho : OwnB w lo d l) (hlo : lo ≤ w.heap.size) (hb : l.length + (Txt.nstr.wr true (.nstr o)).length < 1099511627776) :
  Call P A.zcj #[d, c] w (Apd w lo d l (Txt.nstr.wr true (.nstr o))) := by
 obtain ⟨m, rfl, hm, hsome⟩ := hp
 refine h.call rfl fun loc N' hlo' => ?_
 unfold zdw
 refine zd fun K hK => zj fun τ => ?_
 simp +decide only [bK, Nat.reduceAdd]
 refine hK _ _ (zc fun σ1 hσ => ?_)
 have a0 := hσ 0
 have a1 := hσ 1
 simp +decide only [bE, Nat.reduceBeqDiff, Nat.reduceAdd, Nat.zero_add, zdc, zcm] at a0 a1
 clear hσ hK K
 refine zd fun K hK => zd fun K1 hK1 => zj fun τ => ?_
 simp +decide only [bK, bE, BEq.rfl, Nat.reduceAdd, a1, run_eqlP (B.pstring hP).und]
 refine hK1 _ _ (zc fun σ2 hσ => ?_)
 have c0 := hσ 0
 have c1 := hσ 1
 have c3 := hσ 3
 simp +decide only [bE, Nat.reduceBeqDiff, BEq.rfl, Nat.reduceAdd, Nat.zero_add, a0, a1] at c0 c1 c3
 clear hσ hK1 K1
 refine W_if hlo' c3 ?_
 cases o with
 | none =>
  rw [if_pos (by rw [hm]; rfl)]
  have e : Txt.nstr.wr true (.nstr none) = uvB 0 := by rw [Txt.wr, counted_nc]
  rw [e] at hb ⊢
  refine zd fun K2 hK2 => zj fun τ => ?_
  simp +decide only [bK, bE, Nat.reduceAdd, Nat.zero_add, c0]
  rw [zan hU.uv.has]
  simp +decide only [bK, bE, BEq.rfl]
  refine (zyh B hU (n := 0) (by omega) ho hlo hb).mono ?_
  intro v' w' h2
  refine hK2 _ _ (zc fun σ3 hσ => zay ?_)
  have b3 := hσ 2
  simp +decide only [bE, BEq.rfl, Nat.reduceAdd] at b3
  exact ⟨.inr rfl, _, rfl, by rw [b3]; exact h2⟩
 | some s =>
  rw [if_neg (by rw [hm]; simp)]
  refine zbe (hK _ _ ?_)
  obtain ⟨b, rfl, hcell⟩ := hsome s rfl
  have e : Txt.nstr.wr true (.nstr (some s)) = uvB (s.length + 1) ++ s := by rw [Txt.wr, zqc]
  rw [e] at hb ⊢
  refine zd fun K2 hK2 => zj fun τ => ?_
  simp +decide only [bK, bE, Nat.reduceBeqDiff, Nat.reduceAdd, Nat.zero_add, c0, c1]
  rw [zw rfl]
  simp +decide only [bK, bE, BEq.rfl, B.string.run_load1 rfl, hcell]
  rw [zan hS.has]
  simp +decide only [bK, bE, Nat.reduceBeqDiff, BEq.rfl]
  refine (zln B hU hS s hs ho hlo hb).mono ?_
  intro v' w' h2
  refine hK2 _ _ (zc fun σ3 hσ => zay ?_)
  have b3 := hσ 2
  simp +decide only [bE, BEq.rfl, Nat.reduceAdd] at b3
  exact ⟨.inr rfl, _, rfl, by rw [b3]; exact h2⟩
theorem fixB8 (n : Int) : [u8of (n.fdiv (2 ^ min 56 IntKind.u64.bits)), u8of (n.fdiv (2 ^ min 48 IntKind.u64.bits)), u8of (n.fdiv (2 ^ min 40 IntKind.u64.bits)), u8of (n.fdiv (2 ^ min 32 IntKind.u64.bits)), u8of (n.fdiv (2 ^ min 24 IntKind.u64.bits)), u8of (n.fdiv (2 ^ min 16 IntKind.u64.bits)), u8of (n.fdiv (2 ^ min 8 IntKind.u64.bits)), u8of n] = fixB n 8 := by
 have e : n.fdiv 1 = n := Int.fdiv_one n
 simp only [fixB, u8of, Nat.mul_zero, Int.pow_zero, e]
 rfl
theorem ap_uint64 (B : Base P N) (h : FOk P A.zgd 2 (zhq N A) [.var 2]) (n : Int) : ApF P A.zgd (.int .u64 n) (fixB n 8) := by
 intro w lo v l ho hlo hb
 refine h.call rfl fun loc N' hlo' => ?_
 unfold zhq
 refine zd fun K hK => zj fun τ => ?_
 simp +decide only [bK, Nat.reduceAdd]
 refine hK _ _ (zc fun σ1 hσ => ?_)
 have a0 := hσ 0
 have a1 := hσ 1
 simp +decide only [bE, Nat.reduceBeqDiff, Nat.reduceAdd, Nat.zero_add, zdc, zcm] at a0 a1
 clear hσ hK K
 have e6 : ∀ ρ : Env, (#[(0, T 3), (1, T 6), (2, T 9), (3, T 12), (4, T 15), (5, T 18), (6, T 21), (7, T 23)] : Array (Nat × Operand)).map (fun p => (p.1, ev ρ p.2)) = #[(0, ρ 3), (1, ρ 6), (2, ρ 9), (3, ρ 12), (4, ρ 15), (5, ρ 18), (6, ρ 21), (7, ρ 23)] := fun ρ => by simp
 obtain ⟨v', w', h1, h2⟩ := zjc (ty := N.za) (s := [u8of (n.fdiv (2 ^ min 56 IntKind.u64.bits)), u8of (n.fdiv (2 ^ min 48 IntKind.u64.bits)), u8of (n.fdiv (2 ^ min 40 IntKind.u64.bits)), u8of (n.fdiv (2 ^ min 32 IntKind.u64.bits)), u8of (n.fdiv (2 ^ min 24 IntKind.u64.bits)), u8of (n.fdiv (2 ^ min 16 IntKind.u64.bits)), u8of (n.fdiv (2 ^ min 8 IntKind.u64.bits)), u8of n]) B ho hlo hb
 have h1 : (Builtin.append_ #[N.za, N.za] N.za #[v, .slice (some ⟨w.heap.size, 0, none⟩) 8 8]).run P (w.alloc (.cells ([u8of (n.fdiv (2 ^ min 56 IntKind.u64.bits)), u8of (n.fdiv (2 ^ min 48 IntKind.u64.bits)), u8of (n.fdiv (2 ^ min 40 IntKind.u64.bits)), u8of (n.fdiv (2 ^ min 32 IntKind.u64.bits)), u8of (n.fdiv (2 ^ min 24 IntKind.u64.bits)), u8of (n.fdiv (2 ^ min 16 IntKind.u64.bits)), u8of (n.fdiv (2 ^ min 8 IntKind.u64.bits)), u8of n].map zy).toArray N.zg)) = .ok v' w' := h1
 refine zd fun K hK => zj fun τ => ?_
 simp +decide only [bK, bE, Nat.reduceBeqDiff, BEq.rfl, Nat.reduceAdd, Int.reduceToNat, Nat.zero_add, a0, a1, e6, zdu (show (0 : Int) ≤ 56 by decide), zdu (show (0 : Int) ≤ 48 by decide), zdu (show (0 : Int) ≤ 40 by decide), zdu (show (0 : Int) ≤ 32 by decide), zdu (show (0 : Int) ≤ 24 by decide), zdu (show (0 : Int) ≤ 16 by decide), zdu (show (0 : Int) ≤ 8 by decide), zaq B.uint64 B.uint8 ⟨_, rfl⟩, zrp, run_bsL8 B, h1]
 refine hK _ _ (zc fun σ2 hσ => zay ?_)
 have b2 := hσ 2
 simp +decide only [bE, BEq.rfl, Nat.reduceAdd] at b2
 exact ⟨.inr rfl, _, rfl, by rw [b2, ← fixB8]; exact h2⟩
theorem ap_Int64 (B : Base P N) (hU : FOk P A.zgd 2 (zhq N A) [.var 2]) (h : FOk P A.zfy 2 (zlh N A) [.var 2]) (n : Int) : ApF P A.zfy (.int .i64 n) (fixB n 8) := by
 intro w lo v l ho hlo hb
 refine h.call rfl fun loc N' hlo' => ?_
 unfold zlh
 refine zd fun K hK => zj fun τ => ?_
 simp +decide only [bK, Nat.reduceAdd]
 refine hK _ _ (zc fun σ1 hσ => ?_)
 have a0 := hσ 0
 have a1 := hσ 1
 simp +decide only [bE, Nat.reduceBeqDiff, Nat.reduceAdd, Nat.zero_add, zdc, zcm] at a0 a1
 clear hσ hK K
 refine zd fun K hK => zj fun τ => ?_
 simp +decide only [bK, bE, Nat.reduceBeqDiff, BEq.rfl, Nat.reduceAdd, Nat.zero_add, a0, a1, zaq B.int64 B.uint64 ⟨_, rfl⟩]
 rw [zan hU.has]
 simp +decide only [bK, bE, Nat.reduceBeqDiff, BEq.rfl]
 refine (ap_uint64 B hU (IntKind.u64.wrap n) ho hlo (by rw [zcb] at hb ⊢; exact hb)).mono ?_
 rw [zkn (k := 8) rfl]
 intro v' w' h2
 refine hK _ _ (zc fun σ2 hσ => zay ?_)
 have b2 := hσ 2
 simp +decide only [bE, BEq.rfl, Nat.reduceAdd] at b2
 exact ⟨.inr rfl, _, rfl, by rw [b2]; exact h2⟩
end
structure ApFns (P : Program) (N : Nums) (A : zdp) : Prop where
 b : A.zie ≠ 0 → FOk P A.zie 2 (zmn N A) [.var 2]
 i8 : A.zid ≠ 0 → FOk P A.zid 2 (zmm N A) [.var 2]
 u16 : FOk P A.zdo 2 (zeq N A) [.var 2]
 i16 : A.zdd ≠ 0 → FOk P A.zdd 2 (zga N A) [.var 2]
 u32 : A.zcu ≠ 0 → FOk P A.zep 2 (zfi N A) [.var 2]
 i32 : A.zcu ≠ 0 → FOk P A.zcu 2 (zhb N A) [.var 2]
 u64 : A.zfy ≠ 0 → FOk P A.zgd 2 (zhq N A) [.var 2]
 i64 : A.zfy ≠ 0 → FOk P A.zfy 2 (zlh N A) [.var 2]
 uu : A.zib ≠ 0 → N.zu ≠ 0 ∧ FOk P A.zib 2 (zml N A) [.var 3]
 str : A.zdz ≠ 0 → A.zdd ≠ 0 ∧ FOk P A.zdz 2 (zhr N A) [.var 2]
 cstr : A.zce ≠ 0 → FOk P A.zce 2 (zek N A) [.var 2]
 nstr : A.zdk ≠ 0 → N.zbm ≠ 0 ∧ A.zdz ≠ 0 ∧ FOk P A.zdk 2 (zfk N A) [.var 2]
 cnstr : A.zcj ≠ 0 → N.zbm ≠ 0 ∧ A.zce ≠ 0 ∧ FOk P A.zcj 2 (zdw N A) [.var 2]
 nob : A.zpc = 0 ∧ A.zil = 0 ∧ A.zic = 0 ∧ A.zfm = 0
 al : A.zcq ≠ 0 → A.zcu ≠ 0 ∧ FOk P A.zcq 2 (zih N A) [.var 2]
 cal : A.zbg ≠ 0 → FOk P A.zbg 2 (zfd N A) [.var 2]
 nal : A.zbb ≠ 0 → A.zcu ≠ 0 ∧ FOk P A.zbb 3 (zev N A) [.var 3]
 cnal : A.zaj ≠ 0 → FOk P A.zaj 3 (zdm N A) [.var 3]
 uv : UvT P N A
 tl : FOk P A.zjl 1 (zlg N A) [.var 1]
 ea : FOk P A.zei 2 (zfn N A) [.var 3]
 e1 : FOk P A.zcx 3 (zdx N A) []
section
variable {P : Program} {N : Nums} {A : zdp}
theorem apC_of (B : Base P N) (H : ApFns P N A) (hT : EachN P N) : ApC P N A where
 pr k hk := by
  cases k with
  | bool => exact ⟨(H.b hk).has, fun v hv => by obtain ⟨x, rfl⟩ := hv; exact ap_Bool B (H.b hk) x⟩
  | i8 => exact ⟨(H.i8 hk).has, fun v hv => by obtain ⟨x, rfl, _⟩ := hv; exact ap_Int8 B (H.i8 hk) x⟩
  | i16 => exact ⟨(H.i16 hk).has, fun v hv => by obtain ⟨x, rfl, _⟩ := hv; exact zwf B H.u16 (H.i16 hk) x⟩
  | u16 => exact ⟨H.u16.has, fun v hv => by obtain ⟨x, rfl, _⟩ := hv; exact zyi B H.u16 x⟩
  | i32 => exact ⟨(H.i32 hk).has, fun v hv => by obtain ⟨x, rfl, _⟩ := hv; exact zrq B (H.u32 hk) (H.i32 hk) x⟩
  | i64 => exact ⟨(H.i64 hk).has, fun v hv => by obtain ⟨x, rfl, _⟩ := hv; exact ap_Int64 B (H.u64 hk) (H.i64 hk) x⟩
  | uuid =>
   exact ⟨(H.uu hk).2.has, fun v hv => by
    obtain ⟨s, rfl, hs⟩ := hv
    have e : PK.wr .uuid (.agg (s.map zy).toArray) = s := zrm s
    rw [e]
    intro w lo v l ho hlo hb
    exact ap_Uuid B (H.uu hk).1 (H.uu hk).2 hs ho hlo hb⟩
 txt t fl ht := by
  obtain ⟨n1, n2, n3, n4⟩ := H.nob
  cases t with
  | str =>
   cases fl with
   | false =>
    refine ⟨(H.str ht).2.has, ?_⟩
    intro w lo d c l G v hv hsm hr hG ho hlo hb
    cases v with
    | num x =>
     obtain ⟨s, rfl, hs⟩ := hv
     have hr : [c] = (strV s).cells.toList := by simpa only [Rep] using hr
     have hc : c = strV s := by simpa [strV, Value.cells] using hr
     subst hc
     have e : Txt.str.wr false (.num (strV s)) = fixB s.length 2 ++ s := by rw [Txt.wr, zov, zup]
     rw [e] at hb ⊢
     have hs2 : s.length < 4294967295 := by simpa only [Val.sm, zov] using hsm
     exact zyj B H.u16 (H.i16 (H.str ht).1) (H.str ht).2 s hs2 ho hlo hb
    | _ => simp only [Txt.okV] at hv
   | true =>
    refine ⟨(H.cstr ht).has, ?_⟩
    intro w lo d c l G v hv hsm hr hG ho hlo hb
    cases v with
    | num x =>
     obtain ⟨s, rfl, hs⟩ := hv
     have hr : [c] = (strV s).cells.toList := by simpa only [Rep] using hr
     have hc : c = strV s := by simpa [strV, Value.cells] using hr
     subst hc
     have e : Txt.str.wr true (.num (strV s)) = uvB (s.length + 1) ++ s := by rw [Txt.wr, zov, zqc]
     rw [e] at hb ⊢
     have hs2 : s.length < 4294967295 := by simpa only [Val.sm, zov] using hsm
     exact zln B H.uv (H.cstr ht) s hs2 ho hlo hb
    | _ => simp only [Txt.okV] at hv
  | nstr =>
   cases fl with
   | false =>
    refine ⟨(H.nstr ht).2.2.has, ?_⟩
    intro w lo d c l G v hv hsm hr hG ho hlo hb
    cases v with
    | nstr o =>
     have hs : (o.getD []).length < 4294967295 := by
      cases o with
      | none => simp
      | some s => simpa only [Val.sm, Option.getD_some] using hsm
     have h2 := H.str (H.nstr ht).2.1
     exact zqe B (H.nstr ht).1 H.u16 (H.i16 h2.1) h2.2 (H.nstr ht).2.2 (ptrAt_of hr) hs ho hlo hb
    | _ => simp only [Txt.okV] at hv
   | true =>
    refine ⟨(H.cnstr ht).2.2.has, ?_⟩
    intro w lo d c l G v hv hsm hr hG ho hlo hb
    cases v with
    | nstr o =>
     have hs : (o.getD []).length < 4294967295 := by
      cases o with
      | none => simp
      | some s => simpa only [Val.sm, Option.getD_some] using hsm
     exact zpi B (H.cnstr ht).1 H.uv (H.cstr (H.cnstr ht).2.1) (H.cnstr ht).2.2 (ptrAt_of hr) hs ho hlo hb
    | _ => simp only [Txt.okV] at hv
  | byt => cases fl <;> exact absurd (by assumption) ht
  | nbyt => cases fl <;> exact absurd (by assumption) ht
 al fl h := by
  cases fl with
  | false =>
   refine ⟨(H.al h).2.has, fun n hn => ?_⟩
   rw [counted_s4]
   exact zzx B (H.u32 (H.al h).1) (H.i32 (H.al h).1) (H.al h).2 n
  | true =>
   refine ⟨(H.cal h).has, fun n hn => ?_⟩
   rw [zqc]
   exact zyl B H.uv (H.cal h) hn
 nl fl h := by
  cases fl with
  | false => exact ⟨(H.nal h).2.has, fun n b hn => zyk B (H.u32 (H.nal h).1) (H.i32 (H.nal h).1) (H.nal h).2 n b⟩
  | true => exact ⟨(H.cnal h).has, fun n b hn => zwg B H.uv (H.cnal h) hn b⟩
 uv := H.uv
 tl := H.tl
 ea := H.ea
 e1 := H.e1
 tn := hT
end
end Go.Kf
