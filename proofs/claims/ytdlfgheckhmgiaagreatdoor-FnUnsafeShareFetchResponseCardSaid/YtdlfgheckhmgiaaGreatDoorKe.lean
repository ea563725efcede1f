/- A part of the calculus by which the claim's proof goes: over any program and any numbering of its functions; no condition beyond those that each theorem names. -/
import Derived.ProofKit
import Derived.OpenShut
import Derived.ChangeSlices
import Derived.WideShapes
import Derived.Carry
import Derived.Test.YtdlfgheckhmgiaaGreatDoorKd
set_option linter.unusedSimpArgs false
set_option linter.unusedVariables false
namespace Go.Kf
open Go Go.RowKit
theorem wrap_again {k : IntKind} (hk : k = .i8 ∨ k = .i16 ∨ k = .i32 ∨ k = .i64) (x : Int) : IntKind.i64.wrap (k.wrap x) = k.wrap x := by
 refine zdl ?_ ?_ <;> rcases hk with rfl | rfl | rfl | rfl <;> simp [IntKind.wrap, IntKind.bits, IntKind.signed] <;> split <;> omega
def Ty.dOk : Ty → Prop
 | .pr k d => k.okV (d.getD k.zero)
 | .row .. => False
 | _ => True
mutual
def El.dOk' : El → Prop
 | .row _ _ _ fs => fs.dOk
 | _ => True
def Fds.dOk : Fds → Prop
 | .cons _ (.pr k d) r => k.okV (d.getD k.zero) ∧ r.dOk
 | .cons _ (.arr _ _ e) r => e.dOk' ∧ r.dOk
 | .cons _ (.row _ _ _ fs) r => fs.dOk ∧ r.dOk
 | .cons _ (.txt _) r => r.dOk
 | .cons _ (.tv _) r => r.dOk
 | _ => True
end
theorem zkk (n : Int) (s : RS) : (zdo n s).length ≤ n.toNat := by
 unfold zdo
 split
 ·simp
 ·rw [List.length_take]; omega
theorem be2_lt : ∀ {l : List UInt8}, l.length ≤ 2 → be l < 65536
 | [], _ => by decide
 | [x], _ => by have := x.toNat_lt; simp [be]; omega
 | [x, y], _ => by have := x.toNat_lt; have := y.toNat_lt; simp [be]; omega
 | _ :: _ :: _ :: _, h => by simp at h
theorem pk_rdV (k : PK) (s : RS) : k.okV (k.rd s).1 := by
 have num : ∀ (ik : IntKind) (n : Nat), (ik = .i8 ∨ ik = .i16 ∨ ik = .i32 ∨ ik = .i64) → ∃ x, (zea n (fun l => .int ik (ik.wrap (be l))) (.int ik 0) s).1 = .int ik x ∧ IntKind.i64.wrap x = x := by
  intro ik n h
  unfold zea
  split
  ·exact ⟨0, rfl, by decide⟩
  ·exact ⟨_, rfl, wrap_again h _⟩
 cases k with
 | bool =>
  simp only [PK.rd, PK.okV, zea]
  split
  ·exact ⟨_, rfl⟩
  ·exact ⟨_, rfl⟩
 | i8 => exact num .i8 1 (.inl rfl)
 | en t => exact num .i8 1 (.inl rfl)
 | i16 => exact num .i16 2 (.inr (.inl rfl))
 | u16 =>
  show ∃ n, (zea 2 (fun l => Value.int .u16 (be l)) (.int .u16 0) s).1 = .int .u16 n ∧ IntKind.i64.wrap n = n
  unfold zea
  split
  ·exact ⟨0, rfl, by decide⟩
  ·refine ⟨_, rfl, ?_⟩
   have := be2_lt (l := s.l.take 2) (by rw [List.length_take]; omega)
   exact zdl (by omega) (by omega)
 | i32 => exact num .i32 4 (.inr (.inr (.inl rfl)))
 | i64 => exact num .i64 8 (.inr (.inr (.inr rfl)))
 | uuid =>
  simp only [PK.rd, PK.okV, uuidV]
  refine ⟨_, rfl, ?_⟩
  rw [List.length_take, List.length_append, List.length_replicate]
  omega
theorem u_span (s : RS) (t : RS) : (zdo ((uvN s).1 - 1 : Int) t).length < big := by
 have := zkk ((uvN s).1 - 1 : Int) t
 have := zmd s
 unfold big; omega
theorem i16_span (s : RS) (t : RS) : (zdo (i16N s).1 t).length < big := by
 have := zkk (i16N s).1 t
 have := zfh s
 unfold big; omega
theorem i32_span (s : RS) (t : RS) : (zdo (i32N s).1 t).length < big := by
 have := zkk (i32N s).1 t
 have := zgl s
 unfold big; omega
theorem zkl {n : Int} {t : RS} (h : (zdo n t).length < big) : ((zlv n t).getD []).length < big := by
 unfold zlv
 split
 ·exact (by decide : ([] : List UInt8).length < big)
 ·exact h
theorem txt_rd (fl : Bool) (k : Txt) (s : RS) : k.okV (k.rd fl s).1 := by
 have hb : ([] : List UInt8).length < big := by decide
 cases k <;> cases fl <;> simp only [Txt.rd, Txt.okV, Bool.false_eq_true, if_false, if_true]
 ·exact ⟨_, rfl, i16_span s _⟩
 ·exact ⟨_, rfl, u_span s _⟩
 ·unfold zlw strR; split
  ·exact hb
  ·exact i16_span s _
 ·unfold zie zhn; split
  ·exact hb
  ·exact u_span s _
 ·unfold bytR; split
  ·exact hb
  ·exact zkl (i32_span s _)
 ·unfold zrq; split
  ·exact hb
  ·exact zkl (u_span s _)
 ·unfold zrn; split
  ·exact hb
  ·exact zkl (i32_span s _)
 ·unfold zms; split
  ·exact hb
  ·exact zkl (u_span s _)
theorem txt_ini (k : Txt) : k.okV k.iniV := by
 cases k
 ·exact ⟨[], rfl, by decide⟩
 ·show ([] : List UInt8).length < big; decide
 ·show ([] : List UInt8).length < big; decide
 ·show ([] : List UInt8).length < big; decide
theorem rdN_ok {f : RS → Option (Val × RS)} {p : Val → Prop} (hf : ∀ s v s', f s = some (v, s') → p v) : ∀ (n : Nat) (s : RS) (l : List Val) (s' : RS), rdN f n s = some (l, s') → l.length = n ∧ ∀ v ∈ l, p v
 | 0, s, l, s', h => by simp [rdN] at h; obtain ⟨rfl, rfl⟩ := h; simp
 | n + 1, s, l, s', h => by
  simp only [rdN] at h
  split at h
  ·cases h
  ·rename_i v s1 h1
   split at h
   ·cases h
   ·rename_i l1 s2 h2
    simp only [Option.some.injEq, Prod.mk.injEq] at h
    obtain ⟨rfl, rfl⟩ := h
    obtain ⟨a, b⟩ := rdN_ok hf n s1 l1 s2 h2
    refine ⟨by simp [a], fun x hx => ?_⟩
    rcases List.mem_cons.1 hx with rfl | hx
    ·exact hf _ _ _ h1
    ·exact b x hx
theorem tput_len (l : List (Nat × List UInt8)) (k : Nat) (v : List UInt8) : (tput l k v).length ≤ l.length + 1 := by
 unfold tput
 split <;> simp
theorem tput_big {l : List (Nat × List UInt8)} {k : Nat} {v : List UInt8} (hl : ∀ x ∈ l, x.2.length < big) (hv : v.length < big) : ∀ x ∈ tput l k v, x.2.length < big := by
 intro x hx
 unfold tput at hx
 split at hx
 ·obtain ⟨y, hy, rfl⟩ := List.mem_map.1 hx
  split
  ·exact hv
  ·exact hl y hy
 ·rcases List.mem_append.1 hx with h | h
  ·exact hl x h
  ·simp at h; subst h; exact hv
theorem tagsN_ok : ∀ (n : Nat) (l : List (Nat × List UInt8)) (s : RS), (∀ x ∈ l, x.2.length < big) → (zrc n l s).1.length ≤ l.length + n ∧ ∀ x ∈ (zrc n l s).1, x.2.length < big
 | 0, l, s, h => ⟨Nat.le_refl _, h⟩
 | n + 1, l, s, h => by
  simp only [zrc]
  have hv : (zdo ((uvN (uvN s).2).1 : Int) (uvN (uvN s).2).2).length < big := by
   have := zkk ((uvN (uvN s).2).1 : Int) (uvN (uvN s).2).2
   have := zmd (uvN s).2
   unfold big; omega
  obtain ⟨a, b⟩ := tagsN_ok n (tput l (uvN s).1 (zdo ((uvN (uvN s).2).1 : Int) (uvN (uvN s).2).2)) (zhu ((uvN (uvN s).2).1 : Int) (uvN (uvN s).2).2) (tput_big h hv)
  have := tput_len l (uvN s).1 (zdo ((uvN (uvN s).2).1 : Int) (uvN (uvN s).2).2)
  exact ⟨by omega, b⟩
theorem tagsR_ok (s : RS) : (zpk s).1.length < big ∧ ∀ x ∈ (zpk s).1, x.2.length < big := by
 obtain ⟨a, b⟩ := tagsN_ok (uvN s).1 [] (uvN s).2 (fun x hx => by simp at hx)
 have := zmd s
 simp only [List.length_nil, Nat.zero_add] at a
 exact ⟨by unfold zpk big; omega, b⟩
section
variable (ver : Int) (fl : Bool)
mutual
theorem Ty.rd_ok : ∀ (t : Ty) (g : Gd) (r : Fds), (Fds.cons g t r).dOk → ∀ (s : RS) (v : Val) (s' : RS), t.rd ver fl s = some (v, s') → t.okV v
 | .pr k d, _, _, _, s, v, s', h => by
  simp only [Ty.rd, Option.some.injEq, Prod.mk.injEq] at h
  obtain ⟨rfl, rfl⟩ := h
  exact pk_rdV k s
 | .txt k, _, _, _, s, v, s', h => by
  simp only [Ty.rd, Option.some.injEq] at h
  simp only [Ty.okV]
  rw [show v = (k.rd fl s).1 by rw [h]]
  exact txt_rd fl k s
 | .arr st nul e, _, _, hd, s, v, s', h => by
  simp only [Ty.rd] at h
  have hbnd := znw fl s
  simp only [lenX] at hbnd
  generalize (if fl = true then zov s else arrR s) = X at h hbnd
  split at h
  ·cases h
  ·split at h
   ·split at h
    ·cases h
    ·rename_i l s1 hr
     simp only [Option.some.injEq, Prod.mk.injEq] at h
     obtain ⟨rfl, rfl⟩ := h
     obtain ⟨a, b⟩ := rdN_ok (p := e.okV) (fun s v s' hh => El.rd_ok e hd.1 s v s' hh) _ _ _ _ hr
     refine ⟨rfl, ?_, b⟩
     unfold big; omega
   ·simp only [Option.some.injEq, Prod.mk.injEq] at h
    obtain ⟨rfl, rfl⟩ := h
    cases nul with
    | none => trivial
    | some n =>
     simp only
     split
     ·exact ⟨rfl, by decide, fun v hv => by simp at hv⟩
     ·trivial
 | .tv k, _, _, _, s, v, s', h => by
  simp only [Ty.rd, Option.some.injEq] at h
  simp only [Ty.okV]
  split at h
  ·have hs := txt_rd fl .str s
   simp only [Txt.rd] at hs
   simp only [Prod.mk.injEq] at h
   obtain ⟨rfl, _⟩ := h
   obtain ⟨l, hl, hb⟩ := hs
   have hl : strV (if fl = true then zhn s else strR s).1 = strV l := hl
   have : (if fl = true then zhn s else strR s).1 = l := by rw [← ziv (if fl = true then zhn s else strR s).1, hl, ziv]
   show ((some (if fl = true then zhn s else strR s).1).getD []).length < big
   rw [this]; exact hb
  ·rw [show v = (Txt.rd fl .nstr s).1 by rw [h]]
   exact txt_rd fl .nstr s
 | .row T pT d fs, _, _, hd, s, v, s', h => by
  simp only [Ty.rd] at h
  split at h
  ·cases h
  ·rename_i l s1 hr
   simp only [Option.some.injEq, Prod.mk.injEq] at h
   obtain ⟨rfl, rfl⟩ := h
   exact Fds.rd_ok fs hd.1 s l s1 hr
theorem El.rd_ok : ∀ (e : El), e.dOk' → ∀ (s : RS) (v : Val) (s' : RS), e.rd ver fl s = some (v, s') → e.okV v
 | .pr k, _, s, v, s', h => by
  simp only [El.rd, Option.some.injEq, Prod.mk.injEq] at h
  obtain ⟨rfl, rfl⟩ := h
  exact pk_rdV k s
 | .txt k, _, s, v, s', h => by
  simp only [El.rd, Option.some.injEq] at h
  simp only [El.okV]
  rw [show v = (k.rd fl s).1 by rw [h]]
  exact txt_rd fl k s
 | .row T pT d fs, hd, s, v, s', h => by
  simp only [El.rd] at h
  split at h
  ·cases h
  ·rename_i l s1 hr
   simp only [Option.some.injEq, Prod.mk.injEq] at h
   obtain ⟨rfl, rfl⟩ := h
   exact Fds.rd_ok fs hd s l s1 hr
theorem Fds.rd_ok : ∀ (fs : Fds), fs.dOk → ∀ (s : RS) (l : List Val) (s' : RS), fs.rd ver fl s = some (l, s') → fs.okV l
 | .nil, _, s, l, s', h => by
  simp only [Fds.rd, Option.some.injEq, Prod.mk.injEq] at h
  obtain ⟨rfl, rfl⟩ := h
  rfl
 | .tags, _, s, l, s', h => by
  simp only [Fds.rd] at h
  split at h
  ·simp only [Option.some.injEq, Prod.mk.injEq] at h
   obtain ⟨rfl, rfl⟩ := h
   exact tagsR_ok s
  ·simp only [Option.some.injEq, Prod.mk.injEq] at h
   obtain ⟨rfl, rfl⟩ := h
   exact ⟨by decide, fun x hx => by simp at hx⟩
 | .cons g t r, hd, s, l, s', h => by
  simp only [Fds.rd] at h
  split at h
  ·cases h
  ·rename_i v s1 h1
   split at h
   ·cases h
   ·rename_i l1 s2 h2
    simp only [Option.some.injEq, Prod.mk.injEq] at h
    obtain ⟨rfl, rfl⟩ := h
    have hr : r.dOk := by cases t <;> first | exact hd.2 | exact hd
    refine ⟨?_, Fds.rd_ok r hr s1 l1 s2 h2⟩
    split at h1
    ·exact Ty.rd_ok t g r hd s v s1 h1
    ·simp only [Option.some.injEq, Prod.mk.injEq] at h1
     obtain ⟨rfl, rfl⟩ := h1
     exact Ty.ini_ok t g r hd
theorem Ty.ini_ok : ∀ (t : Ty) (g : Gd) (r : Fds), (Fds.cons g t r).dOk → t.okV t.iniV
 | .pr k d, _, _, hd => hd.1
 | .txt k, _, _, _ => txt_ini k
 | .arr .., _, _, _ => trivial
 | .row T pT d fs, _, _, hd => Fds.ini_ok fs hd.1
 | .tv _, _, _, _ => txt_ini .nstr
theorem Fds.ini_ok : ∀ (fs : Fds), fs.dOk → fs.okV fs.iniV
 | .nil, _ => rfl
 | .tags, _ => ⟨by decide, fun x hx => by simp at hx⟩
 | .cons g t r, hd => by
  have hr : r.dOk := by cases t <;> first | exact hd.2 | exact hd
  exact ⟨Ty.ini_ok t g r hd, Fds.ini_ok r hr⟩
end
end
mutual
def Ty.shB : Ty → Bool
 | .arr _ _ e => e.shB
 | .row _ _ _ fs => Nat.blt fs.count 1048576 && fs.shB
 | _ => true
def El.shB : El → Bool
 | .row _ _ _ fs => Nat.blt fs.count 1048576 && fs.shB
 | _ => true
def Fds.shB : Fds → Bool
 | .cons _ t r => t.shB && r.shB
 | _ => true
end
theorem zcu (n : Int) (s : List UInt8) (nl : Bool) (h : s.length < 4611686018427387904) : okS (zcy n s nl) ∧ okT (zcy n s nl) :=
 ⟨⟨⟨by decide, by decide⟩, trivial⟩, ⟨⟨h, by decide, by decide, fun x hx => by simp at hx⟩, trivial⟩⟩
theorem zoj : ∀ (fs : Fds) (l : List Val), (fs.trs l).length ≤ fs.count
 | .nil, _ => Nat.zero_le _
 | .tags, _ => Nat.zero_le _
 | .cons _ _ r, [] => Nat.zero_le _
 | .cons _ _ r, v :: l => by simp only [Fds.trs, List.length_cons, Fds.count]; have := zoj r l; omega
theorem zme : ∀ (fs : Fds) (l : List Val), fs.okV l → (fs.tgs l).length < big ∧ ∀ x ∈ fs.tgs l, x.2.length < big
 | .nil, _, _ => ⟨by simp [Fds.tgs, big], fun x hx => by simp [Fds.tgs] at hx⟩
 | .tags, l, hv => by
  match l, hv with
  | [.tags u], hv =>
   simp only [Fds.tgs]
   exact ⟨by rw [(zdf u).length_eq]; exact hv.1, fun x hx => hv.2 x ((zdf u).mem_iff.1 hx)⟩
 | .cons _ _ r, [], hv => by simp only [Fds.okV] at hv
 | .cons _ _ r, v :: l, hv => by simp only [Fds.tgs]; exact zme r l hv.2
theorem zos {n : Int} {nl : Bool} {l : List Tr} {u : List (Nat × List UInt8)} (h1 : l.length < 1048576) (h2 : okSs l) (h3 : okTs l) (h4 : u.length < big) (h5 : ∀ x ∈ u, x.2.length < big) : okS (.mk n [] nl l u) ∧ okT (.mk n [] nl l u) := by
 have hb : big = 1099511627776 := rfl
 exact ⟨⟨⟨by omega, by omega⟩, h2⟩, ⟨⟨by decide, by omega, by omega, fun x hx => by have := h5 x hx; omega⟩, h3⟩⟩
mutual
theorem Ty.tr_short : ∀ (t : Ty) (v : Val), t.shB = true → t.okV v → okS (t.tr v) ∧ okT (t.tr v)
 | .pr k d, v, _, hv => by
  cases v <;> simp only [Ty.okV] at hv
  cases k with
  | uuid => obtain ⟨l, rfl, hl⟩ := hv; simp only [Ty.tr, PK.tr, zkc]; exact zcu _ _ _ (by omega)
  | _ => exact zcu _ _ _ (by simp)
 | .txt k, v, _, hv => by
  have hb : big < 4611686018427387904 := by decide
  cases k <;> cases v <;> simp only [Ty.okV, Txt.okV] at hv
  ·obtain ⟨l, rfl, hl⟩ := hv; simp only [Ty.tr, ziv]; exact zcu _ _ _ (by omega)
  ·exact zcu _ _ _ (by omega)
  ·exact zcu _ _ _ (by omega)
  ·exact zcu _ _ _ (by omega)
 | .arr st nul e, v, hs, hv => by
  cases v <;> simp only [Ty.okV] at hv
  ·exact ⟨⟨⟨by decide, by decide⟩, trivial⟩, ⟨⟨by decide, by decide, by decide, fun x hx => by simp at hx⟩, trivial⟩⟩
  ·rename_i sz l
   obtain ⟨_, hl, hok⟩ := hv
   have hb : big = 1099511627776 := rfl
   have key : okSs (l.map e.tr) ∧ okTs (l.map e.tr) := by
    clear hl
    induction l with
    | nil => exact ⟨trivial, trivial⟩
    | cons v l ih =>
     obtain ⟨a, b⟩ := El.tr_short e v hs (hok v (by simp))
     obtain ⟨c, d⟩ := ih fun x hx => hok x (by simp [hx])
     exact ⟨⟨a, c⟩, ⟨b, d⟩⟩
   simp only [Ty.tr]
   exact ⟨⟨⟨by rw [List.length_map]; omega, by decide⟩, key.1⟩, ⟨⟨by decide, by rw [List.length_map]; omega, by decide, fun x hx => by simp at hx⟩, key.2⟩⟩
 | .tv k, v, _, hv => by
  have hb : big < 4611686018427387904 := by decide
  cases v <;> simp only [Ty.okV, Txt.okV] at hv
  exact zcu _ _ _ (by omega)
 | .row T pT d fs, v, hs, hv => by
  cases v <;> simp only [Ty.okV] at hv
  rename_i l
  simp only [Ty.shB, Bool.and_eq_true] at hs
  obtain ⟨a, b⟩ := Fds.tr_short fs l hs.2 hv
  have h1 := zoj fs l
  have h2 : fs.count < 1048576 := by simpa using hs.1
  exact zos (by omega) a b (zme fs l hv).1 (zme fs l hv).2
theorem El.tr_short : ∀ (e : El) (v : Val), e.shB = true → e.okV v → okS (e.tr v) ∧ okT (e.tr v)
 | .pr k, v, _, hv => by
  cases v <;> simp only [El.okV] at hv
  cases k with
  | uuid => obtain ⟨l, rfl, hl⟩ := hv; simp only [El.tr, PK.tr, zkc]; exact zcu _ _ _ (by omega)
  | _ => exact zcu _ _ _ (by simp)
 | .txt k, v, _, hv => by
  have hb : big < 4611686018427387904 := by decide
  cases k <;> cases v <;> simp only [El.okV, Txt.okV] at hv
  ·obtain ⟨l, rfl, hl⟩ := hv; simp only [El.tr, ziv]; exact zcu _ _ _ (by omega)
  ·exact zcu _ _ _ (by omega)
  ·exact zcu _ _ _ (by omega)
  ·exact zcu _ _ _ (by omega)
 | .row T pT d fs, v, hs, hv => by
  cases v <;> simp only [El.okV] at hv
  rename_i l
  simp only [El.shB, Bool.and_eq_true] at hs
  obtain ⟨a, b⟩ := Fds.tr_short fs l hs.2 hv
  have h1 := zoj fs l
  have h2 : fs.count < 1048576 := by simpa using hs.1
  exact zos (by omega) a b (zme fs l hv).1 (zme fs l hv).2
theorem Fds.tr_short : ∀ (fs : Fds) (l : List Val), fs.shB = true → fs.okV l → okSs (fs.trs l) ∧ okTs (fs.trs l)
 | .nil, _, _, _ => ⟨trivial, trivial⟩
 | .tags, _, _, _ => ⟨trivial, trivial⟩
 | .cons _ t r, [], _, hv => by simp only [Fds.okV] at hv
 | .cons _ t r, v :: l, hs, hv => by
  simp only [Fds.shB, Bool.and_eq_true] at hs
  obtain ⟨a, b⟩ := Ty.tr_short t v hs.1 hv.1
  obtain ⟨c, d⟩ := Fds.tr_short r l hs.2 hv.2
  exact ⟨⟨a, c⟩, ⟨b, d⟩⟩
end
theorem tr_short {fs : Fds} {l : List Val} (hc : fs.count < 1048576) (hs : fs.shB = true) (hv : fs.okV l) : okS (fs.tr l) ∧ okT (fs.tr l) := by
 obtain ⟨a, b⟩ := Fds.tr_short fs l hs hv
 have := zoj fs l
 exact zos (by omega) a b (zme fs l hv).1 (zme fs l hv).2
structure zph where
 newP : Nat := 0
 setV : Nat := 0
 maxV : Nat := 0
 readF : Nat := 0
 unsF : Nat := 0
 readf : Nat := 0
 tell : Nat := 0
 maxI : Nat := 0
 tellI : Nat := 0
 unsI : Nat := 0
section
variable (N : Nums)
def c_new (tT dflt : Nat) : C := seqs [zem 0 (.pointer none), .ops [⟨some 101, .alloc tT, 0, none, []⟩], .ops [⟨some 0, .call ⟨.value (.func dflt), #[V 1], #[tT]⟩, N.t_, none, []⟩], .ops [⟨some 100, .assign (V 1), 0, none, []⟩], .ret]
def c_set (tT : Nat) : C := .ops [⟨some 0, .move (V 0), 0, none, []⟩, ⟨some 1, .move (V 1), 0, none, []⟩, ⟨some 2, .nilCheck (T 0), 0, none, []⟩, ⟨some 3, .fieldAddr tT (T 2) 0, 0, none, []⟩, ⟨none, .store N.zbq (T 3) (T 1), 0, none, []⟩]
def c_rf (pT readf : Nat) (u : Bool) : C := seqs [zem 2 .nilIface, .ops [⟨some 0, .move (V 0), 0, none, []⟩, ⟨some 1, .move (V 1), 0, none, []⟩, ⟨some 2, .call ⟨.value (.func readf), #[T 0, T 1, .const (.bool u)], #[pT, N.zb, N.zbg]⟩, N.zfa, none, []⟩, ⟨some 102, .assign (T 2), 0, none, []⟩], .ret]
def c_max (n : Nat) : C := seqs [zem 1 (.int .i16 0), zem 1 (.int .i16 n), .ret]
def c_maxI (pT newP maxV : Nat) : C := seqs [zem 0 (.int .i64 0), .ops [⟨some 0, .call ⟨.value (.func newP), #[], #[]⟩, pT, none, []⟩, ⟨some 1, .call ⟨.value (.func maxV), #[T 0], #[pT]⟩, N.zbq, none, []⟩, ⟨some 2, .convert N.zbq N.zo (T 1), 0, none, []⟩, ⟨some 100, .assign (T 2), 0, none, []⟩], .ret]
def c_door (pT newP setV rf tell : Nat) : C := seqs [.ops [⟨some 102, .alloc N.zj, 0, none, []⟩, ⟨some 103, .assign (.const (.bool false)), 0, none, []⟩],
 .ops [⟨some 0, .call ⟨.value (.func newP), #[], #[]⟩, pT, none, []⟩, ⟨some 104, .assign (T 0), 0, none, []⟩],
 .ops [⟨some 0, .move (V 4), 0, none, []⟩, ⟨some 1, .move (V 0), 0, none, []⟩, ⟨some 2, .convert N.zo N.zbq (T 1), 0, none, []⟩, ⟨some 3, .call ⟨.value (.func setV), #[T 0, T 2], #[pT, N.zbq]⟩, N.t_, none, []⟩],
 .seq (.ops [⟨some 0, .move (V 4), 0, none, []⟩, ⟨some 1, .move (V 1), 0, none, []⟩, ⟨some 2, .call ⟨.builtin .append, #[.const (.slice none 0 0), T 1], #[N.zb, N.zb]⟩, N.zb, none, []⟩, ⟨some 3, .call ⟨.value (.func rf), #[T 0, T 2], #[pT, N.zb]⟩, N.zfa, none, []⟩, ⟨some 105, .binOp .neq N.zfa (T 3) (.const .nilIface) N.zfa, 0, none, []⟩])
  (.cond 5 (.seq (.ops [⟨some 0, .build N.zj #[], 0, none, []⟩, ⟨none, .store N.zj (V 2) (T 0), 0, none, []⟩, ⟨some 103, .assign (.const (.bool false)), 0, none, []⟩]) .ret) .skip),
 .ops [⟨some 0, .move (V 4), 0, none, []⟩, ⟨some 1, .call ⟨.value (.func tell), #[T 0], #[pT]⟩, N.zj, none, []⟩, ⟨none, .store N.zj (V 2) (T 1), 0, none, []⟩, ⟨some 103, .assign (.const (.bool true)), 0, none, []⟩], .ret]
end
structure zrx (P : Program) (N : Nums) (m : Msg) (fx : Bool) (d : zph) : Prop where
 msg : MsgT P N m fx
 vin : m.vin = false
 ti : ∃ fs by', TI P m.tT (.struct fs) (m.fs.sz + 1) by' (.agg (.int .i16 0 :: m.fs.zero).toArray)
 newP : FOk P d.newP 0 (c_new N m.tT m.dflt) [.var 0]
 setV : FOk P d.setV 2 (c_set N m.tT) []
 readf : FOk P d.readf 3 (m.gen N fx) [.var 3]
 tell : d.tell ≠ 0 → TellP P d.tell 1 m.fs
 dok : m.fs.dOk
 shB : m.fs.shB = true
 cnt : m.fs.count < 1048576
section
variable {P : Program} {N : Nums}
theorem call_new (B : Base P N) {m : Msg} {fx : Bool} {d : zph} (D : zrx P N m fx d) (w : World) :
  Call P d.newP #[] w fun v w' => v = .pointer (some ⟨w.heap.size, 0, none⟩) ∧ Mod w w' zq ∧ w'.there w.heap.size 0 (m.fs.sz + 1) ∧ (∃ x, w'.cell? ⟨w.heap.size, 0, none⟩ = some x) ∧ w'.rangeAt w.heap.size 1 m.fs.ini ∧ w.heap.size < w'.heap.size := by
 obtain ⟨fs, by', hT⟩ := D.ti
 refine D.newP.call rfl fun loc N' hlo => ?_
 unfold c_new
 refine zhq (by simp) ?_
 refine zat fun K hK => zas (hK _ _ ?_)
 clear hK K
 obtain ⟨w1, hw1⟩ : ∃ w1, w1 = w.alloc (.cells (Value.cells (.agg (.int .i16 0 :: m.fs.zero).toArray)) m.tT) := ⟨_, rfl⟩
 have m1 : Mod w w1 zq := by rw [hw1]; exact Mod.alloc _ _ _
 have s1 : w1.heap.size = w.heap.size + 1 := by rw [hw1]; exact zak _ _
 have r1 : w1.rangeAt w.heap.size 0 ([.int .i16 0] ++ m.fs.zero) := by rw [hw1]; exact zy w (.int .i16 0 :: m.fs.zero).toArray m.tT (0, 0)
 have t1 : w1.there w.heap.size 0 (m.fs.sz + 1) := by
  have := zbu w (.int .i16 0 :: m.fs.zero).toArray m.tT
  have e : (Value.int .i16 0 :: m.fs.zero).toArray.size = m.fs.sz + 1 := by simp [Fds.zero_length]
  rw [e] at this
  rw [hw1]; exact this
 refine zat fun K hK => zac fun τ => ?_
 have hal := hT.run_alloc (w := w) (.tuple #[])
 rw [← hw1] at hal
 simp +decide only [bK, hal]
 refine hK _ _ (zd fun σ1 hσ => ?_)
 have g1 := hσ 1
 simp +decide only [bE, BEq.rfl, Nat.reduceAdd] at g1
 clear hσ hK K hal hw1
 have q1 := zn.1 r1
 refine zat fun K hK => zac fun τ => ?_
 simp +decide only [bK]
 rw [zag D.msg.dflt.has]
 simp +decide only [bK, bE, Nat.reduceAdd, g1]
 refine (msg_dflt B D.msg t1 (by omega) (by simpa using q1.2) (zgw _ D.msg.plain)).mono ?_
 rintro _ w2 ⟨m2, r2⟩
 refine zd (K := fun σ' w' => zej K _ .normal σ' w') fun σ2 hσ => hK _ _ ?_
 have g2 := hσ 1
 simp +decide only [bE, Nat.reduceBeqDiff, Nat.reduceAdd, g1] at g2
 clear hσ hK K
 refine zat fun K hK => zac fun τ => ?_
 simp +decide only [bK, bE, Nat.reduceAdd, g2]
 refine hK _ _ (zd fun σ3 hσ => zat fun K2 hK2 => zca ⟨.inr rfl, _, rfl, ?_⟩)
 have g3 := hσ 0
 simp +decide only [bE, BEq.rfl, Nat.zero_add] at g3
 have s2 := m2.size
 refine ⟨g3, m1.fresh m2 fun k o e => by have := e.1; omega, m2.there (by omega) t1, ⟨.int .i16 0, ?_⟩, r2, by omega⟩
 rw [m2.cell _ _ (by omega) (fun e => by have := e.2.1; omega)]
 exact q1.1 0 _ rfl
theorem call_set (B : Base P N) {m : Msg} {fx : Bool} {d : zph} (D : zrx P N m fx d) {w : World} {M : Nat} (x : Int) (ht : w.there M 0 (m.fs.sz + 1)) {u : Value} (hu : w.cell? ⟨M, 0, none⟩ = some u) :
  Call P d.setV #[.pointer (some ⟨M, 0, none⟩), .int .i16 x] w fun _ w' => Mod w w' (rng M 0 1) ∧ w'.cell? ⟨M, 0, none⟩ = some (.int .i16 x) ∧ w'.heap.size = w.heap.size := by
 refine D.setV.call rfl fun loc N' hlo => ?_
 unfold c_set
 refine zac fun τ => ?_
 have hst := B.int16.run_store1 (w := w) (b := M) (o := 0) (v := .int .i16 x) rfl (fun j hj => ht j (by omega))
 simp +decide only [bK, bE, Nat.reduceBeqDiff, BEq.rfl, Nat.reduceAdd, Nat.zero_add]
 rw [zx rfl]
 simp +decide only [bK, bE, Nat.reduceBeqDiff, BEq.rfl, Nat.add_zero, D.msg.v0.run, hst]
 exact ⟨.inl rfl, .tuple #[], rfl, Mod.setCell fun _ => ⟨rfl, Nat.le_refl _, by omega⟩, World.cell?_setCell_same _ _ _ hu, by simp [World.setCell]⟩
theorem call_rf (B : Base P N) (F : Fns P N) {m : Msg} {fx : Bool} {d : zph} (D : zrx P N m fx d) {f : Nat} {u : Bool} (hf : FOk P f 2 (c_rf N m.pT d.readf u) [.var 2]) {w : World} {lo hi M : Nat} {v e : Value} {nl : Bool} {l : List UInt8} {ver : Int}
  (hb : zbc w lo hi v nl l) (hhi : hi ≤ w.heap.size) (ht : w.there M 0 (m.fs.sz + 1)) (hM : M < w.heap.size) (hMs : M < lo ∨ hi ≤ M) (hMg : M ≠ N.zw) (hver : w.cell? ⟨M, 0, none⟩ = some (.int .i16 ver)) (hz : w.rangeAt M 1 m.fs.ini) (he : w.cell? ⟨N.zw, 0, none⟩ = some e) :
  Call P f #[.pointer (some ⟨M, 0, none⟩), v] w (zpf N m (m.rd fx ver ⟨l, false, nl⟩) lo hi M ver e w) := by
 refine hf.call rfl fun loc N' hlo => ?_
 unfold c_rf
 refine zhq (by simp) ?_
 refine zat fun K hK => zas (hK _ _ ?_)
 clear hK K
 obtain ⟨σ, hσ⟩ : ∃ σ, σ = upd (zct #[.pointer (some ⟨M, 0, none⟩), v]) 2 .nilIface := ⟨_, rfl⟩
 have f0 : σ 0 = .pointer (some ⟨M, 0, none⟩) := by rw [hσ, ze (by decide)]; rfl
 have f1 : σ 1 = v := by rw [hσ, ze (by decide)]; rfl
 rw [← hσ]
 clear hσ
 refine zat fun K hK => zac fun τ => ?_
 simp +decide only [bK, bE, Nat.reduceBeqDiff, Nat.reduceAdd, Nat.zero_add, f0, f1]
 rw [znp D.readf.has]
 simp +decide only [bK, bE, Nat.reduceBeqDiff, BEq.rfl]
 refine (zox B F D.vin D.msg D.readf hb hhi ht hM hMs hMg hver hz (zju _ D.msg.plain) he (u := u)).mono ?_
 intro v' w' hpost
 refine hK _ _ (zd fun σ3 hσ => zat fun K2 hK2 => zca ⟨.inr rfl, _, rfl, ?_⟩)
 have g3 := hσ 2
 simp +decide only [bE, BEq.rfl, Nat.reduceAdd] at g3
 rw [g3]; exact hpost
def zih (w : World) (v : Value) (l : List UInt8) : Prop :=
 (∃ ad c, v = .slice ad 0 c ∧ l = []) ∨ ∃ a c, v = .slice (some a) l.length c ∧ l.length ≤ c ∧ a.block < w.heap.size ∧ ∀ j x, l[j]? = some x → w.cell? (a.add j) = some (zbm x)
theorem zih.stay {w w' : World} (m : Mod w w' zq) {v : Value} {l : List UInt8} (h : zih w v l) (hs : ∀ a : Addr, a.block < w.heap.size → w'.cell? a = w.cell? a) : zih w' v l := by
 rcases h with h | ⟨a, c, h1, h2, h3, h4⟩
 ·exact .inl h
 ·exact .inr ⟨a, c, h1, h2, Nat.lt_of_lt_of_le h3 m.size, fun j x hj => by rw [hs _ (by unfold Addr.add; split <;> exact h3)]; exact h4 j x hj⟩
theorem zrl (B : Base P N) {w : World} {v : Value} {l : List UInt8} {ty : TypeId} (h : zih w v l) (hl : l.length < 1099511627776) :
  ∃ v' w', (Builtin.append_ #[N.zb, N.zb] ty #[.slice none 0 0, v]).run P w = .ok v' w' ∧ zbc w' w.heap.size w'.heap.size v' l.isEmpty l ∧ Mod w w' zq := by
 have empty : ∀ {ad : Option Addr} {c : Nat}, v = .slice ad 0 c → l = [] → ∃ v' w', (Builtin.append_ #[N.zb, N.zb] ty #[.slice none 0 0, v]).run P w = .ok v' w' ∧ zbc w' w.heap.size w'.heap.size v' l.isEmpty l ∧ Mod w w' zq := by
  intro ad c e1 e2
  subst e1 e2
  exact ⟨_, _, zmh B.Lu8 B.uint8, .inl ⟨rfl, rfl, rfl⟩, .refl _ _⟩
 rcases h with ⟨ad, c, h1, h2⟩ | ⟨a, c, e, _, _, h3⟩
 ·exact empty h1 h2
 ·cases l with
  | nil => exact empty e rfl
  | cons x l =>
   obtain ⟨i, hi, hsz, hbytes, hzero⟩ := B.uint8.info
   have hsrc : Src P i.size N.zb v (x :: l).length ((x :: l).map zbm) w := by
    rw [e]
    exact Src.ofSlice w B.Lu8.und a _ c _ (by rw [hsz]; simp) (fun j u hj => by
     rw [List.getElem?_map] at hj
     cases hx : (x :: l)[j]? with
     | none => rw [hx] at hj; simp at hj
     | some y => rw [hx] at hj; simp at hj; subst hj; exact h3 j y hx) (zoe _)
   have hfit : Builtin.nextslicecap (0 + (x :: l).length) 0 * i.bytes ≤ 281474976710656 := by
    have := nextslicecap_le (show 0 < 0 + (x :: l).length by simp)
    rw [hbytes]; omega
   have hrun := run_append_grow_src (P := P) w N.zb N.zb ty N.zk i _ B.Lu8.und hi hzero none 0 0 [] rfl v _ _ hsrc (by simp) (by omega) hfit
   refine ⟨_, _, hrun, .inr ⟨w.heap.size, 0, _, rfl, by rw [Nat.zero_add], by exact grownCap_ge w (x :: l).length 0 N.zk, fun _ => ⟨Nat.le_refl _, by rw [zak]; exact Nat.lt_succ_self _⟩, ?_⟩, (Mod.drew w _).trans' (Mod.alloc _ _ _)⟩
   have hr := zy w.drew (([] ++ (x :: l).map zbm).toArray ++ Builtin.zeroCells (Value.cells (.int .u8 0)) (grownCap w (0 + (x :: l).length) 0 N.zk - (0 + (x :: l).length))) N.zk (0, 0)
   exact (zn.1 (by simpa using hr)).1
end
def Msg.door (m : Msg) (fx : Bool) (ver : Int) (l : List UInt8) : Tr × Bool :=
 match m.rd fx (IntKind.i16.wrap ver) ⟨l, false, l.isEmpty⟩ with
 | none => (zcy 0 [] false, false)
 | some x => (m.fs.tr x, true)
def Doored (w : World) (t : Tr) (ok : Bool) (v : Value) (w' : World) : Prop := ∃ cs, v = .tuple #[.agg cs.toArray, .bool ok] ∧ RepT w' (NB w.heap.size w'.heap.size) t cs ∧ Mod w w' zq
section
variable {P : Program} {N : Nums}
theorem run_rem {t : TypeId} {x y : Operand} {k : IntKind} {a b : Int} {w : World} (h : b ≠ 0) : (do eqGuard .rem t x y (.int k a) (.int k b); binOp .rem t (.int k a) (.int k b) : Sem Value).run P w = .ok (.int k (a.tmod b)) w := by
 simp [eqGuard, binOp, Op.intDiv, h]
theorem run_beql {t : TypeId} {sz by' : Nat} {z : Value} (h : TI P t .bool sz by' z) {x y : Operand} {a b : Bool} {w : World} :
  (do eqGuard .eql t x y (.bool a) (.bool b); binOp .eql t (.bool a) (.bool b) : Sem Value).run P w = .ok (.bool (a == b)) w := by
 have e : (Op.equal t (.bool a) (.bool b)).run P w = .ok (a == b) w := by
  unfold Op.equal Op.maxDepth
  rw [show (10000 : Nat) = 9999 + 1 from rfl]
  unfold Op.equalIn
  rw [Sem.run_bind, run_underlying h.und, Result.andThen_ok]
  rfl
 have e1 : (eqGuard .eql t x y (.bool a) (.bool b)).run P w = .ok () w := rfl
 rw [Sem.run_bind, e1, Result.andThen_ok]
 show ((do pure (.bool (← Op.equal t (.bool a) (.bool b)))) : Sem Value).run P w = _
 rw [Sem.run_bind, e, Result.andThen_ok]
 rfl
theorem run_isNil {t : TypeId} {ms : Array (String × TypeId)} {sz by' : Nat} {z : Value} (h : TI P t (.interface ms) sz by' z) {x : Operand} {w : World} :
  (do eqGuard .neq t x (.const .nilIface) .nilIface .nilIface; binOp .neq t .nilIface .nilIface : Sem Value).run P w = .ok (.bool false) w := by
 have e : (Op.equal t .nilIface .nilIface).run P w = .ok true w := by
  unfold Op.equal Op.maxDepth
  rw [show (10000 : Nat) = 9999 + 1 from rfl]
  unfold Op.equalIn
  rw [Sem.run_bind, run_underlying h.und, Result.andThen_ok]
  rfl
 have e1 : (eqGuard .neq t x (.const .nilIface) .nilIface .nilIface).run P w = .ok () w := by simp [eqGuard]
 rw [Sem.run_bind, e1, Result.andThen_ok]
 show ((do pure (.bool (!(← Op.equal t .nilIface .nilIface)))) : Sem Value).run P w = _
 rw [Sem.run_bind, e, Result.andThen_ok]
 rfl
theorem run_isErr {t : TypeId} {ms : Array (String × TypeId)} {sz by' : Nat} {z : Value} (h : TI P t (.interface ms) sz by' z) {x : Operand} {w : World} {te : TypeId} {ve : Value} :
  (do eqGuard .neq t x (.const .nilIface) (.iface te ve) .nilIface; binOp .neq t (.iface te ve) .nilIface : Sem Value).run P w = .ok (.bool true) w := by
 have e : (Op.equal t (.iface te ve) .nilIface).run P w = .ok false w := by
  unfold Op.equal Op.maxDepth
  rw [show (10000 : Nat) = 9999 + 1 from rfl]
  unfold Op.equalIn
  rw [Sem.run_bind, run_underlying h.und, Result.andThen_ok]
  rfl
 have e1 : (eqGuard .neq t x (.const .nilIface) (.iface te ve) .nilIface).run P w = .ok () w := by simp [eqGuard]
 rw [Sem.run_bind, e1, Result.andThen_ok]
 show ((do pure (.bool (!(← Op.equal t (.iface te ve) .nilIface)))) : Sem Value).run P w = _
 rw [Sem.run_bind, e, Result.andThen_ok]
 rfl
theorem zqi (B : Base P N) (F : Fns P N) (hI : zdt P N) {m : Msg} {fx : Bool} {d : zph} (D : zrx P N m fx d) (ht0 : d.tell ≠ 0) {f rf : Nat} {u : Bool} (hf : FOk P f 2 (c_door N m.pT d.newP d.setV rf d.tell) [.cell 2 N.zj, .var 3]) (hrf : FOk P rf 2 (c_rf N m.pT d.readf u) [.var 2])
  {w : World} {v : Value} {l : List UInt8} {n : Int} {te : TypeId} {ve : Value} (ha : zih w v l) (hl : l.length < 1099511627776) (he : w.cell? ⟨N.zw, 0, none⟩ = some (.iface te ve)) :
  Call P f #[.int .i64 n, v] w (Doored w (m.door fx n l).1 (m.door fx n l).2) := by
 refine hf.call rfl fun loc N' hlo => ?_
 unfold c_door
 obtain ⟨ms, hms⟩ : ∃ ms, TI P N.zfa (.interface ms) 1 16 .nilIface := B.error.elim (fun h => ⟨_, h⟩) id
 have hgl : N.zw < w.heap.size := zan (by rw [he]; rfl)
 refine zhq (by simp) ?_
 obtain ⟨w1, hal, m1, s1, hres⟩ := zgh hI w
 refine zat fun K hK => zac fun τ => ?_
 simp +decide only [bK, hal]
 refine hK _ _ (zd fun σ1 hσ => ?_)
 have a0 := hσ 0
 have a1 := hσ 1
 have a2 := hσ 2
 have a3 := hσ 3
 simp +decide only [bE, Nat.reduceBeqDiff, BEq.rfl, Nat.reduceAdd, Nat.zero_add, zkv, zgp] at a0 a1 a2 a3
 clear hσ hK K hal
 refine zat fun K hK => zac fun τ => ?_
 simp +decide only [bK]
 rw [zky D.newP.has]
 refine (call_new B D w1).mono ?_
 rintro v2 w2 ⟨rfl, m2, t2, ⟨x2, hx2⟩, r2, l2⟩
 refine hK _ _ (zd fun σ2 hσ => ?_)
 have b0 := hσ 0
 have b1 := hσ 1
 have b2 := hσ 2
 have b3 := hσ 3
 have b4 := hσ 4
 simp +decide only [bE, Nat.reduceBeqDiff, BEq.rfl, Nat.reduceAdd, Nat.zero_add, a0, a1, a2, a3] at b0 b1 b2 b3 b4
 clear hσ hK K a0 a1 a2 a3
 obtain ⟨M, hM⟩ : ∃ M, M = w1.heap.size := ⟨_, rfl⟩
 rw [← hM] at t2 hx2 r2 l2 b4
 have m02 : Mod w w2 zq := m1.trans' m2
 refine zat fun K hK => zac fun τ => ?_
 have hcv := fun {w : World} => zck (P := P) (w := w) (k' := .i64) B.int B.int16 (n := n) ⟨_, rfl⟩
 simp +decide only [bK, bE, Nat.reduceBeqDiff, BEq.rfl, Nat.reduceAdd, Nat.zero_add, b0, b4, hcv]
 rw [zcq D.setV.has]
 simp +decide only [bK, bE, Nat.reduceBeqDiff, BEq.rfl]
 refine (call_set B D (IntKind.i16.wrap n) t2 hx2).mono ?_
 rintro v3 w3 ⟨m3, hv3, s3⟩
 refine hK _ _ (zd fun σ3 hσ => ?_)
 have c1 := hσ 1
 have c2 := hσ 2
 have c3 := hσ 3
 have c4 := hσ 4
 simp +decide only [bE, Nat.reduceBeqDiff, Nat.reduceAdd, b1, b2, b3, b4] at c1 c2 c3 c4
 clear hσ hK K b0 b1 b2 b3 b4
 have m03 : Mod w w3 zq := m02.fresh m3 fun k o h => by have := h.1; omega
 have t3 := m3.there l2 t2
 have r3 : w3.rangeAt M 1 m.fs.ini := m3.rangeAt l2 (fun i h1 _ h => by have := h.2.2; omega) r2
 have ha3 : zih w3 v l := ha.stay m03 fun a h => World.cell?_of_block (m03.block _ h fun _ h => h)
 obtain ⟨vb, w4, hcp, hb4, m4⟩ := zrl (ty := N.zb) B ha3 hl
 have m04 : Mod w w4 zq := m03.trans' m4
 have s4 := m4.size
 have hv4 : w4.cell? ⟨M, 0, none⟩ = some (.int .i16 (IntKind.i16.wrap n)) := by rw [m4.cell _ _ (by omega) fun h => h]; exact hv3
 have he4 : w4.cell? ⟨N.zw, 0, none⟩ = some (.iface te ve) := by rw [m04.cell _ _ hgl fun h => h]; exact he
 have R4 : w4.rangeAt w.heap.size 0 zT := m4.rangeAt (by omega) (fun _ _ _ h => h) (m3.rangeAt (by omega) (fun i _ _ h => by have := h.1; omega) (m2.rangeAt (by omega) (fun _ _ _ h => h) hres.r))
 have T4 : w4.there w.heap.size 0 5 := m4.there (by omega) (m3.there (by omega) (m2.there (by omega) hres.t))
 refine zat fun K hK => zc fun K1 hK1 => zac fun τ => ?_
 simp +decide only [bK, bE, Nat.reduceBeqDiff, BEq.rfl, Nat.reduceAdd, c1, c4, hcp]
 rw [zcq hrf.has]
 simp +decide only [bK, bE, Nat.reduceBeqDiff, BEq.rfl]
 refine (call_rf B F D hrf hb4 (Nat.le_refl _) (m4.there (by omega) t3) (by omega) (.inl (by omega)) (by omega) hv4 (m4.rangeAt (by omega) (fun _ _ _ h => h) r3) he4).mono ?_
 intro v5 w5 hpost
 obtain ⟨m5, hpost⟩ := hpost
 have m05 : Mod w w5 zq := m04.fresh m5 fun k o h => by have : k = M := h; omega
 have s5 := m5.size
 have R5 : w5.rangeAt w.heap.size 0 zT := m5.rangeAt (by omega) (fun i _ _ h => by have : w.heap.size = M := h; omega) R4
 have T5 : w5.there w.heap.size 0 5 := m5.there (by omega) T4
 cases hrd : m.rd fx (IntKind.i16.wrap n) ⟨l, false, l.isEmpty⟩ with
 | none =>
  rw [hrd] at hpost
  have hpost : v5 = .iface te ve := hpost
  subst hpost
  simp +decide only [bK, run_isErr hms]
  refine hK1 _ _ (zd fun σ4 hσ => ?_)
  have d2 := hσ 2
  have d5 := hσ 5
  simp +decide only [bE, Nat.reduceBeqDiff, BEq.rfl, Nat.reduceAdd, c2] at d2 d5
  clear hσ hK1 K1
  refine W_if hlo d5 ?_
  simp only [if_true]
  obtain ⟨w6, hst, m6, s6, r6, t6⟩ := zix hI (cs := zT) R5 rfl T5 rfl (by decide)
  refine zc fun K hK => zac fun τ => ?_
  have e0 : ∀ ρ : Env, (#[] : Array (Nat × Operand)).map (fun p => (p.1, ev ρ p.2)) = #[] := fun ρ => by simp
  simp +decide only [bK, bE, Nat.reduceBeqDiff, BEq.rfl, Nat.reduceAdd, e0, build0 hI, d2, hst]
  refine hK _ _ (zd fun σ5 hσ => zca ?_)
  have g2 := hσ 2
  have g3 := hσ 3
  simp +decide only [bE, Nat.reduceBeqDiff, BEq.rfl, Nat.reduceAdd, d2] at g2 g3
  rw [show m.door fx n l = (zcy 0 [] false, false) by unfold Msg.door; rw [hrd]]
  refine ⟨.inr rfl, .tuple #[.agg zT.toArray, .bool false], ⟨_, _, ⟨_, g2, zop hI r6 rfl⟩, rfl, by rw [g3]⟩, zT, rfl, zeh zgd, m05.fresh m6 fun k o h => by have : k = w.heap.size := h; omega⟩
 | some x =>
  rw [hrd] at hpost
  obtain ⟨rfl, _, css, hrep, hr5, _⟩ := hpost
  simp +decide only [bK, run_isNil hms]
  refine hK1 _ _ (zd fun σ4 hσ => ?_)
  have d2 := hσ 2
  have d4 := hσ 4
  have d5 := hσ 5
  simp +decide only [bE, Nat.reduceBeqDiff, BEq.rfl, Nat.reduceAdd, c2, c4] at d2 d4 d5
  clear hσ hK1 K1
  refine W_if hlo d5 ?_
  simp only [Bool.false_eq_true, if_false]
  refine zcg (hK _ _ ?_)
  clear hK K
  have hov : m.fs.okV x := by
   unfold Msg.rd at hrd
   split at hrd
   ·cases hrd
   ·rename_i l' s' h1
    split at hrd
    ·cases hrd
    ·cases hrd; exact Fds.rd_ok _ _ m.fs D.dok _ _ _ h1
  refine zat fun K hK => zac fun τ => ?_
  simp +decide only [bK, bE, Nat.reduceAdd, d4]
  rw [zag (D.tell ht0).has]
  simp +decide only [bK, bE, Nat.reduceBeqDiff, BEq.rfl]
  refine ((D.tell ht0).ok w5 (GG w3.heap.size w4.heap.size w4.heap.size w5.heap.size) M 0 x css (fun k h => by rcases h with h | h <;> omega) (by omega) hov hrep hr5).mono ?_
  rintro v6 w6 ⟨cs, rfl, hrep6, m6⟩
  have s6 := m6.size
  have R6 := m6.rangeAt (by omega) (fun _ _ _ h => h) R5
  have T6 := m6.there (by omega) T5
  obtain ⟨w7, hst, m7, s7, r7, t7⟩ := zix hI R6 rfl T6 hrep6.len hrep6.one
  simp +decide only [bK, d2, hst]
  refine hK _ _ (zd fun σ5 hσ => zat fun K2 hK2 => zca ?_)
  have g2 := hσ 2
  have g3 := hσ 3
  simp +decide only [bE, Nat.reduceBeqDiff, BEq.rfl, Nat.reduceAdd, d2] at g2 g3
  rw [show m.door fx n l = (m.fs.tr x, true) by unfold Msg.door; rw [hrd]]
  refine ⟨.inr rfl, .tuple #[.agg cs.toArray, .bool true], ⟨_, _, ⟨_, g2, zop hI r7 hrep6.len⟩, rfl, by rw [g3]⟩, cs, rfl, RepT.mod (G := NB w5.heap.size w6.heap.size) m7 (fun k hk => ⟨hk.2, fun o h => by have := hk.1; have : k = w.heap.size := h; omega, by have := hk.1; omega, by have := hk.2; omega⟩) _ hrep6, (m05.trans' m6).fresh m7 fun k o h => by have : k = w.heap.size := h; omega⟩
end
section
variable {P : Program} {N : Nums}
theorem zhg {Cw : World → Prop} {K : Env → Prop} {o : ROp} {r : List (ROp × Bool)} {ρ : Env} (v : Value) (hg : zci ρ o.guard = true) (h : ∀ w, Cw w → (exec ρ o).run P w = .ok (.value v) w) (hr : zcs P Cw K r (put ρ o.dst v)) : zcs P Cw K ((o, true) :: r) ρ :=
 ⟨v, fun w hw => .inl ⟨hg, h w hw⟩, hr⟩
theorem zpw {Cw : World → Prop} {K : Env → Prop} {o : ROp} {r : List (ROp × Bool)} {ρ : Env} (hg : zci ρ o.guard = false) (hr : zcs P Cw K r (put ρ o.dst undef)) : zcs P Cw K ((o, true) :: r) ρ :=
 ⟨undef, fun w hw => .inr ⟨hg, rfl⟩, hr⟩
theorem zih.run_len (B : Base P N) {w : World} {v : Value} {l : List UInt8} (h : zih w v l) {ty : TypeId} : (Builtin.len_ #[N.zb] ty #[v]).run P w = .ok (.int .i64 l.length) w := by
 rcases h with ⟨ad, c, rfl, rfl⟩ | ⟨a, c, rfl, _⟩
 ·exact B.Lu8.run_len
 ·exact B.Lu8.run_len
theorem zqh (B : Base P N) (F : Fns P N) (hN : N.zgn ≠ 0) (w : World) (n k : Int) (hk : IntKind.i64.wrap (k + 1) ≠ 0) : Call P N.zgn #[.int .u8 n, .int .i64 k] w fun v w' => v = .int .i64 ((IntKind.i64.wrap n).tmod (IntKind.i64.wrap (k + 1))) ∧ w' = w := by
 refine (F.version hN).call rfl fun loc N' hlo => ?_
 unfold zql
 refine zc fun K hK => zas (hK _ _ ?_)
 clear hK K
 obtain ⟨σ, hσ⟩ : ∃ σ, σ = upd (zct #[.int .u8 n, .int .i64 k]) 2 (.int .i64 0) := ⟨_, rfl⟩
 have f0 : σ 0 = .int .u8 n := by rw [hσ, ze (by decide)]; rfl
 have f1 : σ 1 = .int .i64 k := by rw [hσ, ze (by decide)]; rfl
 rw [← hσ]
 clear hσ
 refine zc fun K hK => zac fun τ => ?_
 have hcv := fun {w : World} => zck (P := P) (w := w) (k' := .u8) B.uint8 B.int (n := n) ⟨_, rfl⟩
 simp +decide only [bK, bE, Nat.reduceBeqDiff, BEq.rfl, Nat.reduceAdd, Nat.zero_add, f0, f1, hcv, run_rem hk]
 refine hK _ _ (zd fun σ3 hσ => zca ⟨.inr rfl, _, rfl, ?_⟩)
 have g2 := hσ 2
 simp +decide only [bE, BEq.rfl, Nat.reduceAdd] at g2
 exact ⟨g2, rfl⟩
theorem call_max {f : Nat} {k : Nat} (hf : FOk P f 1 (c_max k) [.var 1]) (w : World) (x : Value) : Call P f #[x] w fun v w' => v = .int .i16 k ∧ w' = w := by
 refine hf.call rfl fun loc N' hlo => ?_
 unfold c_max
 refine zhq (by simp) ?_
 refine zat fun K hK => zas (hK _ _ ?_)
 refine zat fun K hK => zas (hK _ _ ?_)
 exact zat fun K hK => zca ⟨.inr rfl, _, rfl, upd_same _ _ _, rfl⟩
theorem call_maxI (B : Base P N) {m : Msg} {fx : Bool} {d : zph} (D : zrx P N m fx d) {f mf k : Nat} (hmf : FOk P mf 1 (c_max k) [.var 1]) (hf : FOk P f 0 (c_maxI N m.pT d.newP mf) [.var 0]) (w : World) :
  Call P f #[] w fun v w' => v = .int .i64 (IntKind.i64.wrap k) ∧ Mod w w' zq := by
 refine hf.call rfl fun loc N' hlo => ?_
 unfold c_maxI
 refine zhq (by simp) ?_
 refine zat fun K hK => zas (hK _ _ ?_)
 clear hK K
 refine zat fun K hK => zac fun τ => ?_
 simp +decide only [bK, bE, BEq.rfl]
 rw [zky D.newP.has]
 refine (call_new B D w).mono ?_
 rintro v w1 ⟨rfl, m1, _⟩
 have hcv := fun {w : World} => zck (P := P) (w := w) (k' := .i16) B.int16 B.int (n := k) ⟨_, rfl⟩
 rw [zag hmf.has]
 simp +decide only [bK, bE, BEq.rfl]
 refine (call_max hmf w1 _).mono ?_
 rintro _ _ ⟨rfl, rfl⟩
 simp +decide only [bK, hcv]
 refine hK _ _ (zd fun σ3 hσ => zat fun K2 hK2 => zca ⟨.inr rfl, _, rfl, ?_⟩)
 have g2 := hσ 0
 simp +decide only [bE, BEq.rfl, Nat.zero_add] at g2
 exact ⟨g2, m1⟩
theorem zqc {tt tg lt lg : TypeId} (hT : zei P N tt tg lt lg) {w1 : World} {b : Nat} {cs : List Value} (hr : w1.rangeAt b 0 cs) (hl : cs.length = 5) : (Instr.loadAt tt (.pointer (some ⟨b, 0, none⟩))).run P w1 = .ok (.agg cs.toArray) w1 := by
 obtain ⟨fs, h⟩ := hT.ti
 have hlv : ∀ (f : Array Field) (x : List Value), ldv (.struct f) x = .agg x.toArray := fun _ _ => rfl
 have hl2 := h.run_load (w := w1) (b := b) (o := 0) hr hl (fun h => by cases h)
 rw [hl2, hlv]
def zor (N : Nums) (tTB f k : Nat) : C := .ops [
 ⟨some 1, .move (V 0), 0, none, []⟩,
 ⟨some 2, .move (V 4), 0, none, []⟩,
 ⟨some 3, .call ⟨.value (.func N.zgn), #[T 1, T 2], #[N.zk, N.zo]⟩, N.zo, none, []⟩,
 ⟨some 4, .move (V 1), 0, none, []⟩,
 ⟨some 5, .call ⟨.value (.func f), #[T 3, T 4], #[N.zo, N.zb]⟩, tTB, none, []⟩,
 ⟨some 0, .move (T 5), 0, none, []⟩,
 ⟨some 6, .extract (T 0) 0, 0, none, []⟩,
 ⟨some 7, .extract (T 0) 1, 0, none, []⟩,
 ⟨some (k + 100), .alloc N.zj, 0, none, []⟩,
 ⟨none, .store N.zj (V k) (T 6), 0, none, []⟩,
 ⟨some ((k + 1) + 100), .assign (T 7), 0, none, []⟩]
def dSame (N : Nums) : List ROp := [
 ⟨some 0, .move (V 8), 0, none, []⟩,
 ⟨some 1, .move (V 10), 0, none, []⟩,
 ⟨some 2, .binOp .eql N.zbg (T 0) (T 1) N.zbg, 0, none, [0, 1]⟩,
 ⟨some 3, .move (T 2), 0, none, [2]⟩,
 ⟨some 4, .move (V 8), 0, some (some 3, true), [3]⟩,
 ⟨some 5, .unOp .not N.zbg (T 4), 0, some (some 3, true), [4, 3]⟩,
 ⟨some 6, .move (T 5), 0, some (some 3, true), [5, 3, 3]⟩,
 ⟨some 7, .load N.zj (V 7), 0, some (some 6, false), [6]⟩,
 ⟨some 8, .call ⟨.value (.func N.zlf), #[T 7], #[N.zj]⟩, N.zh, some (some 6, false), [7, 6, 6]⟩,
 ⟨some 9, .load N.zj (V 9), 0, some (some 6, false), [6]⟩,
 ⟨some 10, .call ⟨.value (.func N.zlf), #[T 9], #[N.zj]⟩, N.zh, some (some 6, false), [9, 8, 6]⟩,
 ⟨some 11, .call ⟨.value (.func N.zce), #[T 8, T 10], #[N.zh, N.zh]⟩, N.zbg, some (some 6, false), [8, 10, 10, 6]⟩,
 ⟨some 12, .pick (T 6) (.const (.bool true)) (T 11), 0, some (some 3, true), [6, 11, 3]⟩,
 ⟨some 13, .pick (T 3) (T 12) (.const (.bool false)), 0, none, [3, 12]⟩,
 ⟨some 102, .assign (T 13), 0, none, [13, 11, 0, 1, 2, 3, 4, 5, 6, 7, 8, 9, 10, 11, 12, 13]⟩]
def c_lawU (N : Nums) (tTB maxI tellI unsI : Nat) (bd : Int) : C := seqs [
 zem 2 (.bool false),
 .seq (.ops [⟨some 0, .move (V 1), 0, none, []⟩, ⟨some 1, .call ⟨.builtin .len, #[T 0], #[N.zb]⟩, N.zo, none, []⟩, ⟨some 103, .binOp .gtr N.zo (T 1) (.const (.int .i64 2147483647)) N.zo, 0, none, []⟩]) (.cond 3 (.seq (zem 2 (.bool true)) .ret) .skip),
 .ops [⟨some 0, .call ⟨.value (.func maxI), #[], #[]⟩, N.zo, none, []⟩, ⟨some 104, .assign (T 0), 0, none, []⟩],
 .seq (.ops [⟨some 0, .move (V 4), 0, none, []⟩, ⟨some 105, .binOp .lss N.zo (T 0) (.const (.int .i64 0)) N.zo, 0, none, []⟩]) (.cond 5 (.seq (zem 2 (.bool false)) .ret) .skip),
 .seq (.ops [⟨some 0, .move (V 1), 0, none, []⟩, ⟨some 1, .call ⟨.builtin .len, #[T 0], #[N.zb]⟩, N.zo, none, []⟩, ⟨some 106, .binOp .gtr N.zo (T 1) (.const (.int .i64 bd)) N.zo, 0, none, []⟩]) (.cond 6 (.seq (zem 2 (.bool true)) .ret) .skip),
 zor N tTB tellI 7, zor N tTB unsI 9, .draw (dSame N), .ret]
def Put (w : World) (b : Nat) (t : Tr) : Prop := ∃ cs, RepT w (fun k => k < b) t cs ∧ w.rangeAt b 0 cs ∧ b < w.heap.size
theorem Put.stay {w w' : World} (m : Mod w w' zq) {b : Nat} {t : Tr} (h : Put w b t) : Put w' b t := by
 obtain ⟨cs, h1, h2, h3⟩ := h
 exact ⟨cs, RepT.stay m t h1, m.rangeAt h3 (fun _ _ _ h => h) h2, Nat.lt_of_lt_of_le h3 m.size⟩
theorem W_door (B : Base P N) (F : Fns P N) (hI : zdt P N) (hV : N.zgn ≠ 0) {loc : List Nat} {N' tTB f k : Nat} {Q : Exit → Env → World → Prop} {σ : Env} {w : World} {v : Value} {n p : Int} (hf : zcn P f) (hp : IntKind.i64.wrap (p + 1) ≠ 0) {t : Int → Tr} {ok : Int → Bool}
  (hD : ∀ x : Int, Call P f #[.int .i64 x, v] w (Doored w (t x) (ok x)))
  (h0 : σ 0 = .int .u8 n) (h1 : σ 1 = v) (h4 : σ 4 = .int .i64 p)
  (hQ : ∀ (σ' : Env) (w' : World), (∀ i, i ≠ k → i ≠ k + 1 → σ' i = σ i) → σ' k = .pointer (some ⟨w'.heap.size - 1, 0, none⟩) → σ' (k + 1) = .bool (ok ((IntKind.i64.wrap n).tmod (IntKind.i64.wrap (p + 1)))) → Mod w w' zq →
   Put w' (w'.heap.size - 1) (t ((IntKind.i64.wrap n).tmod (IntKind.i64.wrap (p + 1)))) → Q .normal σ' w') :
  W P loc N' (zor N tTB f k) Q σ w := by
 unfold zor
 refine zac fun τ => ?_
 have hn : (k + 1 == k) = false := by simp
 have hn2 : (k == k + 1) = false := by simp
 simp +decide only [bK, bE, Nat.reduceBeqDiff, BEq.rfl, Nat.reduceAdd, Nat.zero_add, h0, h4]
 rw [zcq (F.version hV).has]
 simp +decide only [bK, bE, Nat.reduceBeqDiff, BEq.rfl]
 refine (zqh B F hV w n p hp).mono ?_
 rintro _ w0 ⟨rfl, hw0⟩
 obtain rfl := hw0.symm
 clear hw0
 simp +decide only [h1]
 rw [zcq hf]
 simp +decide only [bK, bE, Nat.reduceBeqDiff, BEq.rfl]
 refine (hD _).mono ?_
 rintro _ w1 ⟨cs, rfl, hrep, m1⟩
 obtain ⟨w2, hal, m2, s2, hres⟩ := zgh hI w1
 simp +decide only [bK, hal]
 obtain ⟨w3, hst, m3, s3, r3, t3⟩ := zix hI hres.r rfl hres.t hrep.len hrep.one
 simp +decide only [bK, hst]
 refine zd (K := fun σ' w' => Q .normal σ' w') fun σ' hσ => hQ σ' w3 (fun i hi hi1 => ?_) ?_ ?_ ((m1.trans' m2).fresh m3 fun k o h => by have : k = w1.heap.size := h; have := m1.size; omega) ?_
 ·rw [hσ i]
  have e1 : (i + 100 == k + 1 + 100) = false := beq_eq_false_iff_ne.2 (by omega)
  have e2 : (i + 100 == k + 100) = false := beq_eq_false_iff_ne.2 (by omega)
  simp +decide only [bE, Nat.reduceBeqDiff, e1, e2]
 ·rw [hσ k]
  have e1 : (k + 100 == k + 1 + 100) = false := beq_eq_false_iff_ne.2 (by omega)
  simp +decide only [bE, BEq.rfl, Nat.add_sub_cancel, e1, s3, s2]
 ·rw [hσ (k + 1)]
  simp +decide only [bE, BEq.rfl]
 ·rw [s3, s2, Nat.add_sub_cancel]
  exact ⟨cs, RepT.mod (G := NB w.heap.size w1.heap.size) (m2.fresh m3 fun k o h => by have : k = w1.heap.size := h; omega) (fun k hk => ⟨hk.2, fun _ h => h, hk.2⟩) _ hrep, r3, by omega⟩
end
section
variable {P : Program} {N : Nums}
theorem door_short {m : Msg} {fx : Bool} {d : zph} (D : zrx P N m fx d) (x : Int) (l : List UInt8) : okS (m.door fx x l).1 ∧ okT (m.door fx x l).1 := by
 unfold Msg.door
 cases hrd : m.rd fx (IntKind.i16.wrap x) ⟨l, false, l.isEmpty⟩ with
 | none => exact zcu _ _ _ (by simp)
 | some y =>
  refine tr_short D.cnt D.shB ?_
  unfold Msg.rd at hrd
  split at hrd
  ·cases hrd
  ·rename_i l' s' h1
   split at hrd
   ·cases hrd
   ·cases hrd; exact Fds.rd_ok _ _ m.fs D.dok _ _ _ h1
theorem W_same (B : Base P N) (F : Fns P N) (hI : zdt P N) (hS : zei P N N.zh N.zbk N.zz N.zr) (hG : N.zlf ≠ 0) (hT : N.zce ≠ 0) {loc : List Nat} {N' : Nat} {Q : Exit → Env → World → Prop} {σ : Env} {w : World} {b1 b2 : Nat} {t : Tr} {ok : Bool}
  (h7 : σ 7 = .pointer (some ⟨b1, 0, none⟩)) (h8 : σ 8 = .bool ok) (h9 : σ 9 = .pointer (some ⟨b2, 0, none⟩)) (h10 : σ 10 = .bool ok) (p1 : Put w b1 t) (p2 : Put w b2 t) (ht : okS t ∧ okT t)
  (hQ : ∀ (σ' : Env) (w' : World), σ' 2 = .bool true → Mod w w' zq → Q .normal σ' w') : W P loc N' (.draw (dSame N)) Q σ w := by
 have md : Mod w w.drew zq := Mod.drew _ _
 obtain ⟨c1, q1, r1, l1⟩ := p1
 obtain ⟨c2, q2, r2, l2⟩ := p2
 refine zft B.mixed [true, true, true, true, true, true, true, true, false, true, false, false, false, false, false] (by kernel_rfl) (fun w' => Mod w w' zq) md fun τ => ?_
 unfold dSame
 refine za (.bool ok) (fun w' hw => by
  rw [zay, ev_tmp]
  simp +decide only [bE, Nat.reduceAdd, h8]) rfl ?_
 refine za (.bool ok) (fun w' hw => by
  rw [zay, ev_tmp]
  simp +decide only [bE, Nat.reduceBeqDiff, Nat.reduceAdd, h10]) rfl ?_
 refine za (.bool true) (fun w' hw => zf (by
  simp +decide only [bE, Nat.reduceBeqDiff, BEq.rfl, ev_tmp, run_beql B.bool])) rfl ?_
 refine za (.bool true) (fun w' hw => by
  rw [zay, ev_tmp]
  simp +decide only [bE, BEq.rfl]) rfl ?_
 refine zhg (.bool ok) (by simp +decide only [zci, bE, BEq.rfl]) (fun w' hw => by
  rw [zay, ev_tmp]
  simp +decide only [bE, Nat.reduceBeqDiff, Nat.reduceAdd, h8]) ?_
 refine zhg (.bool !ok) (by simp +decide only [zci, bE, Nat.reduceBeqDiff, BEq.rfl]) (fun w' hw => zf (by
  simp +decide only [bE, BEq.rfl, ev_tmp, zri])) ?_
 refine zhg (.bool !ok) (by simp +decide only [zci, bE, Nat.reduceBeqDiff, BEq.rfl]) (fun w' hw => by
  rw [zay, ev_tmp]
  simp +decide only [bE, BEq.rfl]) ?_
 cases ok with
 | false =>
  refine zpw (by simp +decide only [zci, bE, BEq.rfl, Bool.not_false]) ?_
  simp only []
  refine zpw (by simp +decide only [zci, bE, Nat.reduceBeqDiff, BEq.rfl, Bool.not_false]) ?_
  simp only [zcs, zcx, List.zip_cons_cons, List.zip_nil_right, List.zipWith_cons_cons, List.zipWith_nil_right, List.filter, Bool.not_true, Bool.not_false, List.map, zdc]
  rw [zda (by simp +decide only [bE, Nat.reduceBeqDiff, BEq.rfl, Bool.not_false])]
  refine ⟨md, ?_⟩
  rw [zda (by simp +decide only [bE, Nat.reduceBeqDiff, BEq.rfl, Bool.not_false])]
  refine ⟨md, ?_⟩
  rw [zda (by simp +decide only [bE, Nat.reduceBeqDiff, BEq.rfl, Bool.not_false])]
  refine ⟨md, ?_⟩
  rw [zbi (b := true) (by simp +decide only [bE, Nat.reduceBeqDiff, BEq.rfl])]
  simp +decide only [bK, bE, Nat.reduceBeqDiff, BEq.rfl, if_true, zdu]
  refine ⟨md, ?_⟩
  refine ⟨md, ?_⟩
  refine zd fun σ' hσ => hQ σ' _ ?_ md
  have g2 := hσ 2
  simp +decide only [bE, BEq.rfl, Nat.reduceAdd] at g2
  exact g2
 | true =>
  refine zhg (.agg c1.toArray) (by simp +decide only [zci, bE, BEq.rfl, Bool.not_true]) (fun w' hw => zf (by
   simp +decide only [bE, Nat.reduceBeqDiff, Nat.reduceAdd, ev_tmp, h7]
   exact zqc hI (hw.rangeAt l1 (fun _ _ _ h => h) r1) q1.len)) ?_
  simp only []
  refine zhg (.agg c2.toArray) (by simp +decide only [zci, bE, Nat.reduceBeqDiff, BEq.rfl, Bool.not_true]) (fun w' hw => zf (by
   simp +decide only [bE, Nat.reduceBeqDiff, Nat.reduceAdd, ev_tmp, h9]
   exact zqc hI (hw.rangeAt l2 (fun _ _ _ h => h) r2) q2.len)) ?_
  simp only [zcs, zcx, List.zip_cons_cons, List.zip_nil_right, List.zipWith_cons_cons, List.zipWith_nil_right, List.filter, Bool.not_true, Bool.not_false, List.map, zdc]
  rw [zbi (b := false) (by simp +decide only [bE, Nat.reduceBeqDiff, BEq.rfl])]
  rw [zag (F.got hG).has]
  simp +decide only [bK, bE, Nat.reduceBeqDiff, BEq.rfl]
  refine (gotT B F hG hS hI t ht.1 w.drew (fun k => k < b1) c1 (fun k hk => Nat.lt_trans hk l1) (RepT.stay md t q1)).mono ?_
  rintro _ w3 ⟨d1, rfl, q3, m3⟩
  have m03 : Mod w w3 zq := md.trans' m3
  refine ⟨m03, ?_⟩
  rw [zbi (b := false) (by simp +decide only [bE, Nat.reduceBeqDiff, BEq.rfl])]
  rw [zag (F.got hG).has]
  simp +decide only [bK, bE, Nat.reduceBeqDiff, BEq.rfl]
  refine (gotT B F hG hS hI t ht.1 w3 (fun k => k < b2) c2 (fun k hk => Nat.lt_of_lt_of_le (Nat.lt_trans hk l2) m03.size) (RepT.stay m03 t q2)).mono ?_
  rintro _ w4 ⟨d2, rfl, q4, m4⟩
  have m04 : Mod w w4 zq := m03.trans' m4
  refine ⟨m04, ?_⟩
  rw [zbi (b := false) (by simp +decide only [bE, Nat.reduceBeqDiff, BEq.rfl])]
  rw [zcq (F.spec_SameTree hT).1.has]
  simp +decide only [bK, bE, Nat.reduceBeqDiff, BEq.rfl]
  refine (sameTree B F hT hS t ht.2 w4 _ _ d1 d2 (RepT.stay m4 t q3) q4).mono ?_
  rintro _ w5 ⟨rfl, m5⟩
  have m05 : Mod w w5 zq := m04.trans' m5
  refine ⟨m05, ?_⟩
  rw [zbi (b := true) (by simp +decide only [bE, Nat.reduceBeqDiff, BEq.rfl])]
  simp +decide only [bK, bE, Nat.reduceBeqDiff, BEq.rfl, if_false, if_true, zdu]
  refine ⟨m05, ?_⟩
  refine ⟨m05, ?_⟩
  refine zd fun σ' hσ => hQ σ' _ ?_ m05
  have g2 := hσ 2
  simp +decide only [bE, BEq.rfl, Nat.reduceAdd] at g2
  exact g2
end
structure LawT (P : Program) (N : Nums) (m : Msg) (fx : Bool) (d : zph) (k : Nat) : Prop where
 D : zrx P N m fx d
 rf : FOk P d.readF 2 (c_rf N m.pT d.readf false) [.var 2]
 uf : FOk P d.unsF 2 (c_rf N m.pT d.readf true) [.var 2]
 mv : FOk P d.maxV 1 (c_max k) [.var 1]
 mi : FOk P d.maxI 0 (c_maxI N m.pT d.newP d.maxV) [.var 0]
 ti : FOk P d.tellI 2 (c_door N m.pT d.newP d.setV d.readF d.tell) [.cell 2 N.zj, .var 3]
 ui : FOk P d.unsI 2 (c_door N m.pT d.newP d.setV d.unsF d.tell) [.cell 2 N.zj, .var 3]
 tn : d.tell ≠ 0
 k1 : IntKind.i64.wrap k = k
 k2 : IntKind.i64.wrap (k + 1) ≠ 0
section
variable {P : Program} {N : Nums}
theorem call_lawU (B : Base P N) (F : Fns P N) (hI : zdt P N) (hS : zei P N N.zh N.zbk N.zz N.zr) (hG : N.zlf ≠ 0) (hT : N.zce ≠ 0) (hV : N.zgn ≠ 0) {m : Msg} {fx : Bool} {d : zph} {k : Nat} (L : LawT P N m fx d k) {f tTB : Nat} {bd : Int}
  (hf : FOk P f 2 (c_lawU N tTB d.maxI d.tellI d.unsI bd) [.var 2]) {w : World} {v : Value} {l : List UInt8} {n : Int} {te : TypeId} {ve : Value} (ha : zih w v l) (he : w.cell? ⟨N.zw, 0, none⟩ = some (.iface te ve)) :
  Call P f #[.int .u8 n, v] w fun v' w' => v' = .bool true ∧ Mod w w' zq := by
 refine hf.call rfl fun loc N' hlo => ?_
 unfold c_lawU
 refine zhq (by simp) ?_
 refine zat fun K hK => zas (hK _ _ ?_)
 clear hK K
 obtain ⟨σ, hσ⟩ : ∃ σ, σ = upd (zct #[.int .u8 n, v]) 2 (.bool false) := ⟨_, rfl⟩
 have f0 : σ 0 = .int .u8 n := by rw [hσ, ze (by decide)]; rfl
 have f1 : σ 1 = v := by rw [hσ, ze (by decide)]; rfl
 rw [← hσ]
 clear hσ
 refine zat fun K hK => zc fun K1 hK1 => zac fun τ => ?_
 simp +decide only [bK, bE, BEq.rfl, Nat.reduceAdd, f1, ha.run_len B]
 refine hK1 _ _ (zd fun σ1 hσ => ?_)
 have a0 := hσ 0
 have a1 := hσ 1
 have a3 := hσ 3
 simp +decide only [bE, Nat.reduceBeqDiff, BEq.rfl, Nat.reduceAdd, Nat.zero_add, f0, f1] at a0 a1 a3
 clear hσ hK1 K1 f0 f1
 refine W_if hlo a3 ?_
 by_cases hlen : (l.length : Int) > 2147483647
 ·simp only [hlen, decide_true, if_true]
  exact zc fun K1 hK1 => zas (hK1 _ _ (zca ⟨.inr rfl, _, rfl, upd_same _ _ _, .refl _ _⟩))
 simp only [hlen, decide_false, Bool.false_eq_true, if_false]
 refine zcg (hK _ _ ?_)
 clear hK K
 have hl : l.length < 1099511627776 := by omega
 refine zat fun K hK => zac fun τ => ?_
 simp +decide only [bK]
 rw [zky L.mi.has]
 refine (call_maxI B L.D L.mv L.mi w).mono ?_
 rw [L.k1]
 rintro _ w1 ⟨rfl, m1⟩
 simp +decide only [bE, BEq.rfl]
 refine hK _ _ (zd fun σ2 hσ => ?_)
 have b0 := hσ 0
 have b1 := hσ 1
 have b4 := hσ 4
 simp +decide only [bE, Nat.reduceBeqDiff, BEq.rfl, Nat.reduceAdd, Nat.zero_add, a0, a1] at b0 b1 b4
 clear hσ hK K a0 a1 a3
 have ha1 : zih w1 v l := ha.stay m1 fun a h => World.cell?_of_block (m1.block _ h fun _ h => h)
 refine zat fun K hK => zc fun K1 hK1 => zac fun τ => ?_
 simp +decide only [bK, bE, BEq.rfl, Nat.reduceAdd, b4]
 refine hK1 _ _ (zd fun σ3 hσ => ?_)
 have c0 := hσ 0
 have c1 := hσ 1
 have c4 := hσ 4
 have c5 := hσ 5
 simp +decide only [bE, Nat.reduceBeqDiff, BEq.rfl, Nat.reduceAdd, Nat.zero_add, b0, b1, b4] at c0 c1 c4 c5
 clear hσ hK1 K1 b0 b1 b4
 refine W_if hlo c5 ?_
 have hk0 : ¬ (k : Int) < 0 := by omega
 simp only [hk0, decide_false, Bool.false_eq_true, if_false]
 refine zcg (hK _ _ ?_)
 clear hK K
 refine zat fun K hK => zc fun K1 hK1 => zac fun τ => ?_
 simp +decide only [bK, bE, BEq.rfl, Nat.reduceAdd, c1, ha1.run_len B]
 refine hK1 _ _ (zd fun σ4 hσ => ?_)
 have d0 := hσ 0
 have d1 := hσ 1
 have d4 := hσ 4
 have d6 := hσ 6
 simp +decide only [bE, Nat.reduceBeqDiff, BEq.rfl, Nat.reduceAdd, Nat.zero_add, c0, c1, c4] at d0 d1 d4 d6
 clear hσ hK1 K1 c0 c1 c4 c5
 refine W_if hlo d6 ?_
 by_cases hbd : (l.length : Int) > bd
 ·simp only [hbd, decide_true, if_true]
  exact zc fun K1 hK1 => zas (hK1 _ _ (zca ⟨.inr rfl, _, rfl, upd_same _ _ _, m1⟩))
 simp only [hbd, decide_false, Bool.false_eq_true, if_false]
 refine zcg (hK _ _ ?_)
 clear hK K
 have hgl : N.zw < w.heap.size := zan (by rw [he]; rfl)
 have he1 : w1.cell? ⟨N.zw, 0, none⟩ = some (.iface te ve) := by rw [m1.cell _ _ hgl fun h => h]; exact he
 refine zat fun K hK => W_door B F hI hV L.ti.has L.k2 (fun x => zqi B F hI L.D L.tn L.ti L.rf ha1 hl he1) d0 d1 d4 fun σ5 w5 e0 e7 e8 m5 p5 => hK _ _ ?_
 clear hK K
 have m05 : Mod w w5 zq := m1.trans' m5
 have ha5 : zih w5 v l := ha1.stay m5 fun a h => World.cell?_of_block (m5.block _ h fun _ h => h)
 have he5 : w5.cell? ⟨N.zw, 0, none⟩ = some (.iface te ve) := by rw [m05.cell _ _ hgl fun h => h]; exact he
 refine zat fun K hK => W_door B F hI hV L.ui.has L.k2 (fun x => zqi B F hI L.D L.tn L.ui L.uf ha5 hl he5) ((e0 0 (by decide) (by decide)).trans d0) ((e0 1 (by decide) (by decide)).trans d1) ((e0 4 (by decide) (by decide)).trans d4) fun σ6 w6 g0 g9 g10 m6 p6 => hK _ _ ?_
 clear hK K
 refine zat fun K hK => W_same B F hI hS hG hT ((g0 7 (by decide) (by decide)).trans e7) ((g0 8 (by decide) (by decide)).trans e8) g9 g10 (p5.stay m6) p6 (door_short L.D _ l) fun σ7 w7 h2 m7 => hK _ _ ?_
 exact zat fun K2 hK2 => zca ⟨.inr rfl, _, rfl, h2, (m05.trans' m6).trans' m7⟩
end
section
open Go Go.RowKit Go.ChangeShapes Go.WideShapes
theorem octet_of {z : Int} (h : (Lit.int .u8 z).wf = true) : Value.int .u8 z = zbm (UInt8.ofNat z.toNat) := by
 have h2 : 0 ≤ z ∧ z ≤ 255 := by
  simp [Lit.wf, IntKind.min, IntKind.max, IntKind.signed, IntKind.bits] at h
  omega
 unfold zbm
 congr 1
 rw [UInt8.toNat_ofNat']
 omega
theorem argOct_of {H : Type} {enc : TypeId × Value → H} {P : Program} {W : World} {t e : TypeId} {v : Value} {d : DataW H} {p : List MemPlace} {base : Nat}
  (ht : P.underlying t = some (.slice e)) (he : P.underlying e = some (.int .u8)) (hc : P.cellsOf e = 1) (hok : Value.okWide P W .any base t v) (h : DataW.Trod enc P W 0 (fun _ => true) true t v d p) : ∃ l, zih W v l := by
 obtain ⟨a, len, cap, rfl⟩ := okWide_slice ht hok
 obtain ⟨fuel, hf⟩ := h
 rcases open_ints ht he hc hf with ⟨hcs, _⟩ | ⟨x, l, c, zs, hcs, _, hl, hm, hz, _, hcell, hwz⟩
 ·simp [Value.cells] at hcs
  obtain ⟨rfl, rfl, rfl⟩ := hcs
  exact ⟨[], .inl ⟨_, _, rfl, rfl⟩⟩
 ·simp [Value.cells] at hcs
  obtain ⟨rfl, rfl, rfl⟩ := hcs
  by_cases h0 : len = 0
  ·subst h0
   exact ⟨[], .inl ⟨_, _, rfl, rfl⟩⟩
  ·have hz : zs.length = cap := by simpa using hz
   have hll : ((zs.take len).map fun z : Int => UInt8.ofNat z.toNat).length = len := by simp; omega
   have hcl : ∀ j y, ((zs.take len).map fun z : Int => UInt8.ofNat z.toNat)[j]? = some y → W.cell? (x.add j) = some (zbm y) := by
    intro j y hj
    rw [List.getElem?_map] at hj
    cases hg : (zs.take len)[j]? with
    | none => rw [hg] at hj; simp at hj
    | some z =>
     rw [hg] at hj
     simp at hj
     subst hj
     have hjl : j < len := by
      have := (List.getElem?_eq_some_iff.1 hg).1
      rw [List.length_take] at this; omega
     rw [List.getElem?_take_of_lt hjl] at hg
     have hjz : j < zs.length := (List.getElem?_eq_some_iff.1 hg).1
     rw [hcell j hjz, List.getD, hg]
     exact congrArg some (octet_of (hwz z (List.mem_of_getElem? hg)))
   refine ⟨_, .inr ⟨x, cap, by rw [hll], by rw [hll]; exact hl, ?_, hcl⟩⟩
   have h1 := hcell 0 (by omega)
   have h2 : (W.cell? x).isSome = true := by
    have e : x.add 0 = x := by unfold Addr.add; simp
    rw [e] at h1; rw [h1]; rfl
   unfold World.cell? at h2
   cases hh : W.heap[x.block]? with
   | none => rw [hh] at h2; simp at h2
   | some o => exact (Array.getElem?_eq_some_iff.1 hh).1
theorem el_ti {P : Program} {N : Nums} {fx : Bool} (B : Base P N) (F : Fns P N) (e : El) (h : e.okB P N fx = true) (hd : e.dfs P N) : ∃ d by' z, TI P (e.ty N) d e.sz by' z := by
 obtain ⟨d, by', z, h, _⟩ := (El.ok_of B F e h hd).2.1
 exact ⟨d, by', z, h⟩
end
end Go.Kf
