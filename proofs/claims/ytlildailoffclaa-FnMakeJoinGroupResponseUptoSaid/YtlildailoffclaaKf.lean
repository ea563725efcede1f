/- A part of the calculus by which the claim's proof goes: over any program and any numbering of its functions; no condition beyond those that each theorem names. -/
import Derived.Test.YtlildailoffclaaKe
set_option linter.unusedSimpArgs false
set_option linter.unusedVariables false
namespace Go.Kf
open Go Go.RowKit
section
variable {P : Program} {N : Nums} {M : zaz} {L : zen}
theorem zql {P : Program} (a b : List ROp) {ρ : Env} {w : World} {K : Env → World → Prop} (h : runR P a ρ w fun ρ w => runR P b ρ w K) : runR P (a ++ b) ρ w K := by rw [runR_app]; exact h
theorem W_setR (B : Base P N) (S : SpT P N M) (hI : zct P N N.zaa N.zcr N.zbh N.zbt) (G : SMg P N M L) {m : FM} {wS w0 w : World} {bT b off n pos i idx tt y sz by' : Nat} {Tt : TypeId} {d : TypeDesc} {zv : Value} {ct z rest : List Value} {t : Tr} {σ0 σ : Env} {vs : List Val} {loc : List Nat} {N' : Nat} {Q : Exit → Env → World → Prop}
  {mid : List ROp} {R : World → Value → World → Prop} (c : FC P N m wS w0 bT ct t b off n σ0) (h : FSt m wS w0 b off n σ0 vs pos (z ++ rest) σ w) (hT : HF P Tt idx pos) (ht : TI P tt d sz by' zv) (hzl : z.length = sz) (hmid : ∀ cx, MidR P mid m.x y wS cx (atT t i) R) (hy : m.x < y) (hy2 : y < 90)
  (hv : ∀ wa v w', R wa v w' → ∃ cs : List Value, v.cells = cs.toArray ∧ cs.length = sz ∧ ∀ c ∈ cs, c.oneCell' = true)
  (hQ : ∀ wa v w1 (cs : List Value), Mod w wa zw → R wa v w1 → Mod wa w1 zw → v.cells = cs.toArray → cs.length = sz → w1.there b pos sz → Q .normal σ (w1.setCells b pos cs)) :
  W P loc N' (.ops (m.pre N L i ++ (mid ++ m.post Tt idx tt y))) Q σ w := by
 obtain ⟨rT, mS⟩ := h.trw c
 have hlen := c.rep.len
 have f1 : σ m.tv = .pointer (some ⟨bT, 0, none⟩) := by rw [h.ag m.tv (by cases m <;> decide)]; exact c.tv
 have f2 : σ m.sv = .pointer (some ⟨b, 0, none⟩) := by rw [h.ag m.sv (by cases m <;> decide)]; exact c.sv
 have fin : ∀ (ρ : Env) (wa w1 : World) (v : Value), (∀ i, ρ (i + 100) = σ i) → ρ 0 = (match m with | .fill => .pointer (some ⟨b, 0, none⟩) | .mk => ρ 0) → ρ y = v → Mod w wa zw → Mod wa w1 zw → R wa v w1 → runR P (m.post Tt idx tt y) ρ w1 fun ρ w => Q .normal (locs ρ) w := by
  intro ρ wa w1 v hρ h0 hyv ma m1 hR
  obtain ⟨cs, hc, hl, h1⟩ := hv wa v w1 hR
  have hth : w1.there b pos sz := by
   rw [← hzl]
   obtain ⟨_, md, css, _, _, hp, hn⟩ := h
   rw [List.length_append] at hn
   have mw := (md.trans (ma.trans' m1) fun k o hk h => h.elim id fun h => h.elim : Mod w0 w1 _)
   have := mw.there c.b0 c.th
   intro j hj
   have := this (pos - off + j) (by omega)
   rwa [show off + (pos - off + j) = pos + j by omega] at this
  have st := ht.run_store (w := w1) (b := b) (o := pos) (v := v) hc hl hth h1
  have hloc : locs ρ = σ := funext hρ
  cases m with
  | fill =>
   have h0 : ρ 0 = .pointer (some ⟨b, 0, none⟩) := h0
   show zbk P ⟨some (y + 1), .nilCheck (T 0), 0, none, []⟩ ρ w1 _
   rw [zat (a := ⟨b, 0, none⟩) (by rw [ev_tmp, h0])]
   show zbk P ⟨some (y + 2), .fieldAddr Tt (T (y + 1)) idx, 0, none, []⟩ _ w1 _
   rw [zhf, ev_tmp, zgy, hT.run, stepV_ok, Nat.zero_add]
   show zbk P ⟨none, .store tt (T (y + 2)) (T y), 0, none, []⟩ _ w1 _
   rw [zjx, ev_tmp, ev_tmp, zgy, zft (by omega), zft (by omega), hyv, st, stepU_ok]
   show Q .normal (locs (put (put ρ (some (y + 1)) _) (some (y + 2)) _)) _
   rw [zei (by omega), zei (by omega), hloc]
   exact hQ wa v w1 cs ma hR m1 hc hl hth
  | mk =>
   show zbk P ⟨some (y + 1), .fieldAddr Tt (V 3) idx, 0, none, []⟩ ρ w1 _
   have e3 : ev ρ (V 3) = .pointer (some ⟨b, 0, none⟩) := by rw [show ev ρ (V 3) = ρ (3 + 100) from rfl, hρ]; exact f2
   rw [zhf, e3, hT.run, stepV_ok, Nat.zero_add]
   show zbk P ⟨none, .store tt (T (y + 1)) (T y), 0, none, []⟩ _ w1 _
   rw [zjx, ev_tmp, ev_tmp, zgy, zft (by omega), hyv, st, stepU_ok]
   show Q .normal (locs (put ρ (some (y + 1)) _)) _
   rw [zei (by omega), hloc]
   exact hQ wa v w1 cs ma hR m1 hc hl hth
 refine zn fun τ => ?_
 refine zql _ _ ?_
 cases m with
 | fill =>
  have f1 : σ 2 = .pointer (some ⟨bT, 0, none⟩) := f1
  have f2 : σ 0 = .pointer (some ⟨b, 0, none⟩) := f2
  unfold FM.pre
  simp +decide only [bK, bE, Nat.reduceBeqDiff, Nat.reduceAdd, Nat.zero_add, f1, f2, hI.loadT rT hlen]
  rw [zah G.at_.has]
  simp +decide only [bK, bE, BEq.rfl]
  refine (zqb B S hI G mS c.rep i).mono ?_
  rintro _ w1 ⟨cx, rfl, hx, m1⟩
  refine zql _ _ (hmid cx _ w1 _ (mS.trans' m1) hx (by simp +decide only [bE, decide_true]; rfl) ?_)
  intro ρ' w2 v hag hyv m2 hR
  refine fin ρ' w1 w2 v (fun i => ?_) ?_ hyv m1 m2 hR
  ·rw [hag _ (.inr (by omega))]
   simp +decide only [bE, Nat.reduceBeqDiff]
  ·show ρ' 0 = _
   rw [hag 0 (.inl (by decide))]
   simp +decide only [bE, Nat.reduceBeqDiff, BEq.rfl]
 | mk =>
  have f1 : σ 1 = .pointer (some ⟨bT, 0, none⟩) := f1
  unfold FM.pre
  simp +decide only [bK, bE, Nat.reduceAdd, f1, hI.loadT rT hlen]
  rw [zah G.at_.has]
  simp +decide only [bK, bE, BEq.rfl]
  refine (zqb B S hI G mS c.rep i).mono ?_
  rintro _ w1 ⟨cx, rfl, hx, m1⟩
  refine zql _ _ (hmid cx _ w1 _ (mS.trans' m1) hx (by simp +decide only [bE, decide_true]; rfl) ?_)
  intro ρ' w2 v hag hyv m2 hR
  refine fin ρ' w1 w2 v (fun i => ?_) rfl hyv m1 m2 hR
  rw [hag _ (.inr (by omega))]
  simp +decide only [bE, Nat.reduceBeqDiff]
def isV (v : Value) : World → Value → World → Prop := fun _ v' _ => v' = v
theorem mid_pr (B : Base P N) (F : TrF P N) (G : SMg P N M L) {k : PK} (hk : k = .uuid → L.ziy ≠ 0) (hu : k.nt N) (he : k.isEn = false) {x : Nat} (hx : x < 50) {wS : World} {cx : List Value} {tx : Tr} : MidR P (k.lf N L x) x (k.ly x) wS cx tx (isV (k.ofN tx)) := by
 intro ρ w K mS hr hρ hK
 obtain ⟨vs, vl, vu, hcx, h1, _⟩ := hr.out
 have hf0 : (Instr.field N.zaa (.agg cx.toArray) 0).run P w = .ok (.int .i64 tx.n) w := F.f0.run (by rw [hcx]; rfl)
 have hf1 : (Instr.field N.zaa (.agg cx.toArray) 1).run P w = .ok vs w := F.f1.run (by rw [hcx]; rfl)
 have g1 : ∀ (v : Value) (t : Nat), t ≤ x ∨ 100 ≤ t → put ρ (some (x + 1)) v t = ρ t := fun v t ht => zft (by omega)
 have g2 : ∀ (v u : Value) (t : Nat), t ≤ x ∨ 100 ≤ t → put (put ρ (some (x + 1)) v) (some (x + 2)) u t = ρ t := fun v u t ht => by rw [zft (by omega), zft (by omega)]
 have conv : ∀ (kk : IntKind) (tt : TypeId), TI P tt (.int kk) 1 (kk.bits / 8) (.int kk 0) → k.ofN tx = .int kk (kk.wrap tx.n) → k.ly x = x + 2 → runR P [⟨some (x + 1), .field N.zaa (T x) 0, 0, none, []⟩, ⟨some (x + 2), .convert N.zbn tt (T (x + 1)), 0, none, []⟩] ρ w K := by
  intro kk tt htt hv hly
  show zbk P _ ρ w _
  rw [zgi, ev_tmp, hρ, hf0, stepV_ok]
  show zbk P _ _ w _
  rw [zjh, ev_tmp, zgy, zax (k' := .i64) B.int64 htt ⟨_, rfl⟩, stepV_ok]
  refine hK _ w _ (g2 _ _) rfl (.refl _ _) ?_
  show put _ (some (x + 2)) _ (k.ly x) = _
  rw [hly, zgy, hv]
 cases k with
 | en t => cases he
 | i8 => exact conv .i8 _ (B.int8 (hu.2 rfl)) rfl rfl
 | i16 => exact conv .i16 _ B.int16 rfl rfl
 | u16 => exact conv .u16 _ B.uint16 rfl rfl
 | i32 => exact conv .i32 _ B.int32 rfl rfl
 | i64 =>
  show zbk P _ ρ w _
  rw [zgi, ev_tmp, hρ, hf0, stepV_ok]
  exact hK _ w _ (g1 _) rfl (.refl _ _) zgy
 | bool =>
  show zbk P _ ρ w _
  rw [zgi, ev_tmp, hρ, hf0, stepV_ok]
  show zbk P _ _ w _
  have hb : ∀ {a b : Operand}, (do eqGuard .and N.zbn a b (.int .i64 tx.n) (.int .i64 1); binOp .and N.zbn (.int .i64 tx.n) (.int .i64 1) : Sem Value).run P w = .ok (.int .i64 (tx.n % 2)) w := by
   intro a b
   rw [zto, band1]
  rw [zlz, ev_tmp, zgy, ev_const, hb, stepV_ok]
  show zbk P _ _ w _
  rw [zlz, ev_tmp, zgy, ev_const, ztm, stepV_ok]
  refine hK _ w _ (fun t ht => ?_) rfl (.refl _ _) ?_
  ·rw [zft (by omega), zft (by omega), zft (by omega)]
  ·show put _ (some (x + 3)) _ (x + 3) = _
   rw [zgy]
   show Value.bool (tx.n % 2 == 1) = .bool (decide (tx.n % 2 = 1))
   congr 1
 | uuid =>
  show zbk P _ ρ w _
  rw [zgi, ev_tmp, hρ, hf1, stepV_ok]
  show zbk P _ _ w _
  rw [zbb (G.sixteen (hk rfl)).2.has, ev_tmp, zgy]
  refine (zvv B G (hk rfl) mS h1).mono ?_
  rintro r w' ⟨rfl, m'⟩
  exact hK _ w' _ (g2 _ _) rfl m' zgy
theorem zxk (B : Base P N) (hI : zct P N N.zaa N.zcr N.zbh N.zbt) (F : TrF P N) (G : SMg P N M L) {k : Txt} (hk : k = .str ∨ k = .nstr ∧ L.zjk ≠ 0) {x : Nat} (hx : x < 50) {wS : World} {cx : List Value} {tx : Tr} :
  MidR P (k.lf N L x) x (k.ly x) wS cx tx (fun w v w' => v.oneCell' = true ∧ Rep w' (NB w.heap.size w'.heap.size) (k.ofT tx) [v]) := by
 intro ρ w K mS hr hρ hK
 obtain ⟨vs, vl, vu, hcx, h1, _⟩ := hr.out
 have hf1 : (Instr.field N.zaa (.agg cx.toArray) 1).run P w = .ok vs w := F.f1.run (by rw [hcx]; rfl)
 rcases hk with rfl | ⟨rfl, hN⟩
 ·show zbk P _ ρ w _
  rw [zgi, ev_tmp, hρ, hf1, stepV_ok]
  show zbk P _ _ w _
  rw [zjh, ev_tmp, zgy, (h1.stay mS).toStr B, stepV_ok]
  refine hK _ w _ (fun t ht => by rw [zft (by omega), zft (by omega)]) zgy (.refl _ _) ⟨rfl, ?_⟩
  show Rep w _ (.num (strV tx.s)) [strV tx.s]
  rfl
 ·show zbk P _ ρ w _
  rw [zbb (G.textOf hN).2.has, ev_tmp, hρ]
  refine (zxu B hI G hN mS hr).mono ?_
  rintro v w' ⟨ho, hrep, m'⟩
  exact hK _ w' _ (fun t ht => zft (by omega)) zgy m' ⟨ho, hrep⟩
end
theorem pk_ones {k : PK} {v : Value} (h : k.okV v) : ∀ c ∈ v.cells.toList, c.oneCell' = true := by
 cases k with
 | uuid =>
  obtain ⟨s, rfl, _⟩ := h
  intro c hc
  have : c ∈ s.map zam := by simpa [Value.cells] using hc
  exact zkh s c this
 | bool => obtain ⟨x, rfl⟩ := h; intro c hc; simp [Value.cells] at hc; subst hc; rfl
 | _ => obtain ⟨x, rfl, _⟩ := h; intro c hc; simp [Value.cells] at hc; subst hc; rfl
theorem txt_one {k : Txt} {v : Val} {w : World} {G : Nat → Prop} {cs : List Value} (h : k.okV v) (hr : Rep w G v cs) : ∀ c ∈ cs, c.oneCell' = true := by
 cases k with
 | str =>
  cases v <;> simp only [Txt.okV] at h
  obtain ⟨l, rfl, _⟩ := h
  simp only [Rep] at hr
  subst hr
  intro c hc; simp [Value.cells, strV] at hc; subst hc; rfl
 | nstr =>
  cases v <;> simp only [Txt.okV] at h
  rename_i o
  cases o with
  | none => simp only [Rep] at hr; subst hr; intro c hc; simp at hc; subst hc; rfl
  | some l => obtain ⟨b, rfl, _⟩ := hr; intro c hc; simp at hc; subst hc; rfl
 | byt =>
  cases v <;> simp only [Txt.okV] at h
  obtain ⟨v, rfl, ho⟩ := hr
  intro c hc; simp at hc; subst hc
  rename_i o
  cases o with
  | none => have ho : c = .slice none 0 0 := ho; rw [ho]; rfl
  | some l => obtain ⟨b, o, cc, rfl, _⟩ := ho; rfl
 | nbyt =>
  cases v <;> simp only [Txt.okV] at h
  obtain ⟨v, rfl, ho⟩ := hr
  intro c hc; simp at hc; subst hc
  rename_i o
  cases o with
  | none => have ho : c = .slice none 0 0 := ho; rw [ho]; rfl
  | some l => obtain ⟨b, o, cc, rfl, _⟩ := ho; rfl
mutual
theorem Ty.rep_one {w : World} {G : Nat → Prop} : ∀ (ty : Ty) (v : Val) {cs : List Value}, ty.okV v → Rep w G v cs → ∀ c ∈ cs, c.oneCell' = true
 | .pr k d, v, cs, h, hr => by
  cases v <;> simp only [Ty.okV] at h
  simp only [Rep] at hr
  subst hr
  exact pk_ones h
 | .txt k, v, cs, h, hr => txt_one (k := k) (by cases v <;> exact h) hr
 | .tv k, v, cs, h, hr => txt_one (k := .nstr) (by cases v <;> exact h) hr
 | .arr st nul e, v, cs, h, hr => by
  cases v <;> simp only [Ty.okV] at h
  ·simp only [Rep] at hr; subst hr; intro c hc; simp at hc; subst hc; rfl
  ·obtain ⟨b, c, css, rfl, _⟩ := hr
   intro c hc; simp at hc; subst hc; rfl
 | .row T pT d fs, v, cs, h, hr => by
  cases v <;> simp only [Ty.okV] at h
  obtain ⟨css, rfl, hrl⟩ := hr
  exact Fds.rep_one fs _ h hrl
theorem Fds.rep_one {w : World} {G : Nat → Prop} : ∀ (fs : Fds) (vs : List Val) {css : List (List Value)}, fs.okV vs → RepL w G vs css → ∀ c ∈ css.flatten, c.oneCell' = true
 | .nil, vs, css, h, hr => by
  have h : vs = [] := h
  subst h
  simp only [RepL] at hr
  subst hr
  intro c hc; simp at hc
 | .tags, vs, css, h, hr => by
  match vs, h with
  | [.tags u], h =>
   obtain ⟨c, r, rfl, r1, r2⟩ := hr
   simp only [RepL] at r2
   subst r2
   obtain ⟨v, rfl, ht⟩ := r1
   intro c hc
   simp at hc
   subst hc
   rcases ht with ⟨rfl, _⟩ | ⟨m, es, ck, rfl, _⟩ <;> rfl
 | .cons g ty r, vs, css, h, hr => by
  match vs, h with
  | v :: vs, h =>
   obtain ⟨c, q, rfl, r1, r2⟩ := hr
   intro x hx
   rw [List.flatten_cons, List.mem_append] at hx
   rcases hx with hx | hx
   ·exact Ty.rep_one ty v h.1 r1 x hx
   ·exact Fds.rep_one r vs h.2 r2 x hx
end
section
variable {P : Program} {N : Nums} {M : zaz} {L : zen}
theorem zxx {st et ty : TypeId} {a1 a2 sz by' : Nat} {z z' v6 u : Value} {d : TypeDesc} (hS : TI P st (.slice et) a1 a2 z') (ha1 : a1 = 1) (ht : TI P et d sz by' z) (hz : z.cells.size = sz) (hby : by' ≤ 128) (hs0 : 0 < sz) (hsz : sz ≤ 16777216) {w w6 : World} {lo b pos j a : Nat} {G : Nat → Prop} {ucs : List Value} {cs' : List Value}
  (hb : b < lo) (hG : ∀ k, G k → k < b) (hlo : lo ≤ w.heap.size) (m6 : Mod w w6 zw) (ha : w.heap.size ≤ a) (ho : Own w lo sz u j ucs) (hl : cs'.length = sz) (hv6 : v6.cells = cs'.toArray) (h1 : ∀ c ∈ cs', c.oneCell' = true) (h2 : ∀ c ∈ ucs, c.oneCell' = true) (hj : j + 1 < 1099511627776) (hth : w.there b pos 1) :
  ∃ w7 u' w8 w9, (Instr.buildSlice st 1 #[(0, v6)]).run P w6 = .ok (.slice (some ⟨w6.heap.size, 0, none⟩) 1 1) w7 ∧ (Builtin.append_ #[st, st] ty #[u, .slice (some ⟨w6.heap.size, 0, none⟩) 1 1]).run P w7 = .ok u' w8 ∧ (Instr.storeAt st (.pointer (some ⟨b, pos, none⟩)) u').run P w8 = .ok () w9 ∧
   Mod w w7 zw ∧ Mod w w8 (fun k _ => ¬ zaj u k) ∧ Mod w7 w8 (fun k _ => ¬ zaj u k) ∧ Mod w w9 (fun k o => ¬ zaj u k ∨ (k = b ∧ o = pos)) ∧ w9.cell? ⟨b, pos, none⟩ = some u' ∧ Own w9 lo sz u' (j + 1) (ucs ++ cs') ∧
   (∀ {vs : List Val} {css : List (List Value)}, RepL w (GX G lo w u) vs css → RepL w9 (GX G lo w9 u') vs css) ∧ (∀ {v : Val} {cs : List Value}, Rep w6 (GN G a w6.heap.size) v cs → Rep w9 (GX G lo w9 u') v cs) := by
 subst ha1
 have hv : ∀ k, ¬ zaj u k → lo ≤ k ∧ k < w.heap.size := fun k hk => ho.blk hk
 have s6 := m6.size
 have hbs := ziq (w := w6) (v := v6) (cs := cs') hS ht hv6 hl hs0 hsz
 obtain ⟨w7, hw7⟩ : ∃ w7, w7 = w6.alloc (.cells cs'.toArray et) := ⟨_, rfl⟩
 have m7 : Mod w6 w7 zw := by rw [hw7]; exact Mod.alloc _ _ _
 have s7 : w7.heap.size = w6.heap.size + 1 := by rw [hw7]; exact zae _ _
 have r7 : w7.rangeAt w6.heap.size 0 cs' := by rw [hw7]; exact zu w6 _ _ _
 rw [← hw7] at hbs
 clear hw7
 have m07 : Mod w w7 zw := m6.trans' m7
 have ho7 : Own w7 lo sz u j ucs := ho.stay m07 fun _ _ _ h => h
 obtain ⟨u', w8, happ, ho8, m8, hone', hnb⟩ := zgg (P := P) (ty := ty) (m := 1) (cb := 1) hS ht ho7 r7 (by rw [hl]; omega) h1 (by omega) hz h2 (by omega) hby (by decide)
 have s8 := m8.size
 have nb : ¬ ¬ zaj u b := fun h => by have := (hv b h).1; omega
 have t8 : w8.there b pos 1 := m8.there (by omega) (m07.there (by omega) hth)
 have hsto := hS.run_store1 (w := w8) (b := b) (o := pos) (v := u') hone' t8
 obtain ⟨w9, hw9⟩ : ∃ w9, w9 = w8.setCell ⟨b, pos, none⟩ u' := ⟨_, rfl⟩
 have m9 : Mod w8 w9 (fun k o => k = b ∧ o = pos) := by rw [hw9]; exact Mod.setCell fun _ => ⟨rfl, rfl⟩
 have c9 : w9.cell? ⟨b, pos, none⟩ = some u' := by
  have := (t8 0 (by decide)).1
  obtain ⟨x, hx⟩ := Option.isSome_iff_exists.1 this
  rw [hw9]
  exact World.cell?_setCell_same _ _ _ hx
 rw [← hw9] at hsto
 clear hw9
 have m08 : Mod w w8 (fun k _ => ¬ zaj u k) := (m07.mono fun _ _ _ h => h.elim).trans' m8
 obtain ⟨q1, q2, q3, q4⟩ := zni (w := w) (w6 := w6) (w7 := w7) (w8 := w8) (w9 := w9) (G := G) (lo := lo) (v := u) (v' := u') (b3 := b) (a := a) hG hb hlo m6 ha m7 m8 (m9.mono fun _ _ _ h => h.1) hv hnb
 refine ⟨w7, u', w8, w9, hbs, happ, hsto, m07, m08, m8, m08.trans m9 fun k o _ h => h.elim .inl .inr, c9, ?_, fun h => RepL.mod q1 q2 _ h, fun h => Rep.mod q3 q4 _ h⟩
 exact ho8.stay m9 (fun k o h e => by have : k = b := e.1; have := ho8.blk h; omega)
end
section
variable {P : Program} {N : Nums} {M : zaz} {L : zen}
theorem run_appB0 (B : Base P N) {w : World} {b : Nat} {src : Value} {ty : TypeId} (hs : OctA w src []) : (Builtin.append_ #[N.za, N.za] ty #[.slice (some ⟨b, 0, none⟩) 0 0, src]).run P w = .ok (.slice (some ⟨b, 0, none⟩) 0 0) w := by
 obtain ⟨i, hi, hsz, _, _⟩ := B.uint8.info
 have hsrc : Src P i.size N.za src 0 [] w := by
  rcases hs with ⟨ad, c, rfl, _⟩ | ⟨b, o, c, rfl, _, hr⟩
  ·cases ad with
   | none => exact Src.ofNil w B.Lu8.und c
   | some a => exact Src.ofSlice w B.Lu8.und a 0 c [] (by simp) (fun j u hj => by simp at hj) (fun u hu => by cases hu)
  ·exact Src.ofSlice w B.Lu8.und _ 0 c [] (by simp) (fun j u hj => by simp at hj) (fun u hu => by cases hu)
 have h := run_append_room_src (P := P) w N.za N.za ty N.zk i B.Lu8.und hi b 0 0 0 src 0 [] hsrc (by decide) (fun j hj => by simp at hj) (fun j hj => by simp at hj)
 exact h
theorem zua (B : Base P N) (hI : zct P N N.zaa N.zcr N.zbh N.zbt) (G : SMg P N M L) (hN : L.zhc ≠ 0) {wS w : World} {t : Tr} {cs : List Value} (mS : Mod wS w zw) (h : RepA wS t cs) (hs : t.s.length < 1099511627776) :
  Call P L.zhc #[.agg cs.toArray] w fun v w' => v.oneCell' = true ∧ Rep w' (NB w.heap.size w'.heap.size) (Txt.byt.ofT t) [v] ∧ Mod w w' zw := by
 refine (G.octetsOf hN).call rfl fun loc N' hlo => ?_
 unfold zsw
 obtain ⟨vs, vl, vu, rfl, h1, h2, h3⟩ := h.out
 refine zf fun K hK => zn fun τ => ?_
 simp +decide only [bK, bE, Nat.reduceAdd, Nat.zero_add]
 obtain ⟨w1, hw1⟩ : ∃ w1, w1 = w.alloc (.cells (Value.cells (.agg [.int .i64 t.n, vs, .bool t.nl, vl, vu].toArray)) N.zaa) := ⟨_, rfl⟩
 have m1 : Mod w w1 zw := by rw [hw1]; exact Mod.alloc _ _ _
 have s1 : w1.heap.size = w.heap.size + 1 := by rw [hw1]; exact zae _ _
 have r1 : w1.rangeAt w.heap.size 0 [.int .i64 t.n, vs, .bool t.nl, vl, vu] := by rw [hw1]; exact zu w _ _ _
 rw [← hw1]
 clear hw1
 refine hK _ _ (zd fun σ hσ => ?_)
 have f1 := hσ 1
 have f2 := hσ 2
 simp +decide only [bE, Nat.reduceBeqDiff, BEq.rfl, Nat.reduceAdd] at f1 f2
 clear hσ hK K
 have x1 := r1 1 _ rfl
 have x2 := r1 2 _ rfl
 refine zf fun K hK => zf fun K1 hK1 => zn fun τ => ?_
 simp +decide only [bK, bE, BEq.rfl, Nat.reduceAdd, Nat.zero_add, f1, hI.h2.run, B.bool.run_load1 rfl, x2]
 refine hK1 _ _ (zd fun σ1 hσ => ?_)
 have g1 := hσ 1
 have g3 := hσ 3
 simp +decide only [bE, Nat.reduceBeqDiff, BEq.rfl, Nat.reduceAdd, f1] at g1 g3
 clear hσ hK1 K1 f1 f2
 refine W_if hlo g3 ?_
 cases hnl : t.nl with
 | true =>
  simp only [if_true]
  refine zf fun K2 hK2 => zn fun τ => ?_
  simp +decide only [bK, Nat.reduceAdd]
  refine hK2 _ _ (zd fun σ2 hσ => zbl ⟨.inr rfl, _, rfl, ?_⟩)
  have q := hσ 2
  simp +decide only [bE, BEq.rfl, Nat.reduceAdd] at q
  rw [q]
  refine ⟨rfl, ?_, m1⟩
  simp only [Txt.ofT, hnl, if_true, Rep]
  exact ⟨_, rfl, rfl⟩
 | false =>
  simp only [Bool.false_eq_true, if_false]
  refine zbv (hK _ _ ?_)
  obtain ⟨w2, hb2, m2, s2, o2⟩ := run_bs0 B w1
  have e0 : ∀ ρ : Env, (#[] : Array (Nat × Operand)).map (fun p => (p.1, ev ρ p.2)) = #[] := fun ρ => by simp
  have m02 := m1.trans' m2
  have x1' := zh m2 r1 1 _ rfl
  have hA : OctA w2 vs t.s := (h1.stay mS).stay m02
  have main : ∃ v3 w3, (Builtin.append_ #[N.za, N.za] N.za #[.slice (some ⟨w1.heap.size, 0, none⟩) 0 0, vs]).run P w2 = .ok v3 w3 ∧ Mod w w3 zw ∧ v3.oneCell' = true ∧ OctG w3 (NB w.heap.size w3.heap.size) v3 (some t.s) := by
   by_cases h0 : t.s = []
   ·rw [h0] at hA ⊢
    exact ⟨_, _, run_appB0 B hA, m02, rfl, _, _, _, rfl, Nat.le_refl _, fun h => absurd rfl h, fun j x hj => by simp at hj⟩
   ·obtain ⟨v3, w3, ha3, o3, m3, _⟩ := zee (ty := N.za) B o2 hA (by omega) (by simpa using hs)
    have m03 : Mod w w3 zw := m02.fresh m3 fun k o h => by have := (o2.blk h).1; omega
    rw [List.nil_append] at o3
    rcases o3 with ⟨_, e, _⟩ | ⟨b, c, rfl, hb1, hb3, hc, _, hr, _⟩
    ·exact absurd (List.length_eq_zero_iff.1 e) h0
    ·exact ⟨_, _, ha3, m03, rfl, b, 0, c, rfl, hc, fun _ => ⟨by omega, hb3⟩, hr⟩
  obtain ⟨v3, w3, ha3, m03, hone, hoct⟩ := main
  refine zf fun K2 hK2 => zn fun τ => ?_
  simp +decide only [bK, bE, Nat.reduceBeqDiff, BEq.rfl, Nat.reduceAdd, Nat.zero_add, e0, hb2, g1, hI.h1.run, B.Lu8.run_load1 rfl, x1', ha3]
  refine hK2 _ _ (zd fun σ3 hσ => zbl ⟨.inr rfl, _, rfl, ?_⟩)
  have q := hσ 2
  simp +decide only [bE, BEq.rfl, Nat.reduceAdd] at q
  rw [q]
  refine ⟨hone, ?_, m03⟩
  simp only [Txt.ofT, hnl, Bool.false_eq_true, if_false, Rep]
  exact ⟨_, rfl, hoct⟩
theorem mid_byt (B : Base P N) (hI : zct P N N.zaa N.zcr N.zbh N.zbt) (G : SMg P N M L) (hN : L.zhc ≠ 0) {x : Nat} (hx : x < 50) {wS : World} {cx : List Value} {tx : Tr} (hs : tx.s.length < 1099511627776) :
  MidR P (Txt.byt.lf N L x) x (Txt.byt.ly x) wS cx tx (fun w v w' => v.oneCell' = true ∧ Rep w' (NB w.heap.size w'.heap.size) (Txt.byt.ofT tx) [v]) := by
 intro ρ w K mS hr hρ hK
 show zbk P _ ρ w _
 rw [zbb (G.octetsOf hN).has, ev_tmp, hρ]
 refine (zua B hI G hN mS hr hs).mono ?_
 rintro v w' ⟨ho, hrep, m'⟩
 exact hK _ w' _ (fun t ht => zft (by omega)) zgy m' ⟨ho, hrep⟩
end
section
variable (P : Program) (N : Nums) (L : zen) (mf : TypeId → FuncId) (m : FM)
def TyF (ty : Ty) : Prop := ∀ {wS w0 w : World} {bT b off n pos idx i q k : Nat} {Tt : TypeId} {ct : List Value} {t : Tr} {σ0 σ : Env} {vs : List Val} {rest : List Value} {loc : List Nat} {N' : Nat} {Q : Exit → Env → World → Prop},
 zhy loc N' → FC P N m wS w0 bT ct t b off n σ0 → bdT t → FSt m wS w0 b off n σ0 vs pos (ty.zero ++ rest) σ w → HF P Tt idx pos → m.q0 ≤ q →
 (∀ σ' w', FSt m wS w0 b off n σ0 (vs ++ [ty.ofT (atT t i)]) (pos + ty.sz) rest σ' w' → Q .normal σ' w') → W P loc N' (ty.fgen N L mf m Tt idx i q k) Q σ w
def MkRow (f : FuncId) (fs : Fds) : Prop := ∀ (wS w : World) (t : Tr) (ct : List Value), Mod wS w zw → RepA wS t ct → bdT t →
 Call P f #[.agg ct.toArray] w fun v w' => ∃ cs, v = .agg cs.toArray ∧ Rep w' (GN (GS wS) w.heap.size w'.heap.size) (.row (fs.ofT 0 t)) cs ∧ cs.length = fs.sz ∧ Mod w w' zw
def El.fok : El → Prop
 | .pr k => m = .mk ∧ k.isSg = true ∧ k ≠ .bool ∧ k ≠ .i64 ∧ k.nt N
 | .txt _ => False
 | .row T' _ _ fs => zdh P (mf T') ∧ MkRow P (mf T') fs
def Ty.fok : Ty → Prop
 | .pr k _ => (k = .uuid → L.ziy ≠ 0) ∧ k.nt N ∧ k.isEn = false
 | .txt t => (t = .str ∨ t = .nstr ∧ L.zjk ≠ 0 ∨ t = .byt ∧ L.zhc ≠ 0) ∧ (t = .nstr → N.zay ≠ 0)
 | .tv _ => L.zjk ≠ 0 ∧ N.zay ≠ 0
 | .arr st _ e => TI P st (.slice (e.ty N)) 1 24 (.slice none 0 0) ∧ (∃ d by' z, TI P (e.ty N) d e.sz by' z ∧ z.cells.size = e.sz ∧ by' ≤ 128) ∧ 0 < e.sz ∧ e.sz ≤ 16777216 ∧ e.fok P N mf m
 | .row .. => False
end
section
variable {P : Program} {N : Nums} {M : zaz} {L : zen} {mf : TypeId → FuncId} {m : FM}
theorem FM.xlt (m : FM) : m.x < 50 := by cases m <;> decide
theorem tyF_pr (B : Base P N) (S : SpT P N M) (hI : zct P N N.zaa N.zcr N.zbh N.zbt) (F : TrF P N) (G : SMg P N M L) {k : PK} {d : Option Value} (ho : (Ty.pr k d).fok P N L mf m) : TyF P N L mf m (.pr k d) := by
 intro wS w0 w bT b off n pos idx i q kk Tt ct t σ0 σ vs rest loc N' Q hlo c hb h hT hq hQ
 obtain ⟨h1, h2, h3⟩ := ho
 obtain ⟨dt, by', ht, _⟩ := pk_bytes B h2 (fun t e => by subst e; cases h3)
 have hbt := hb.at i
 have hok := zon k hbt
 have hx := FM.xlt m
 have hcl : ∀ v, k.okV v → v.cells.toList.length = k.sz := by
  intro v hv
  cases k with
  | uuid => obtain ⟨s, rfl, hs⟩ := hv; simp [Value.cells, PK.sz, hs]
  | bool => obtain ⟨x, rfl⟩ := hv; rfl
  | _ => obtain ⟨x, rfl, _⟩ := hv; rfl
 unfold Ty.fgen
 refine W_setR B S hI G c h hT ht (zis k) (fun cx => mid_pr B F G h1 h2 h3 hx) (by cases k <;> simp only [PK.ly] <;> omega) (by cases k <;> simp only [PK.ly] <;> omega) (fun wa v w' e => ?_) fun wa v w1 cs ma hR m1 hc hl hth => ?_
 ·have e : v = k.ofN (atT t i) := e
  rw [e]
  exact ⟨(k.ofN (atT t i)).cells.toList, by simp, hcl _ hok, pk_ones hok⟩
 ·have e : v = k.ofN (atT t i) := hR
  have hzl : (Ty.pr k d).zero.length = k.sz := zis k
  have := (FSt.put c h (ma.trans' m1) (cs := cs) (x := .num v) (by rw [hzl]; exact hl) (by simp only [Rep]; rw [hc])).2
  rw [hzl, e] at this
  exact hQ _ _ this
theorem zpr (B : Base P N) (S : SpT P N M) (hI : zct P N N.zaa N.zcr N.zbh N.zbt) (F : TrF P N) (G : SMg P N M L) {tk : Txt} (h2 : tk = .nstr → N.zay ≠ 0) {wS w0 w : World} {bT b off n pos idx i : Nat} {Tt : TypeId} {ct : List Value} {t : Tr} (hmid : ∀ cx : List Value, MidR P (tk.lf N L m.x) m.x (tk.ly m.x) wS cx (atT t i) (fun w v w' => v.oneCell' = true ∧ Rep w' (NB w.heap.size w'.heap.size) (tk.ofT (atT t i)) [v])) {σ0 σ : Env} {vs : List Val} {rest : List Value} {loc : List Nat} {N' : Nat} {Q : Exit → Env → World → Prop}
  (c : FC P N m wS w0 bT ct t b off n σ0) (h : FSt m wS w0 b off n σ0 vs pos ([tk.zero] ++ rest) σ w) (hT : HF P Tt idx pos)
  (hQ : ∀ σ' w', FSt m wS w0 b off n σ0 (vs ++ [tk.ofT (atT t i)]) (pos + 1) rest σ' w' → Q .normal σ' w') : W P loc N' (.ops (m.pre N L i ++ (tk.lf N L m.x ++ m.post Tt idx (tk.t N) (tk.ly m.x)))) Q σ w := by
 obtain ⟨dt, by', ht, _⟩ := tx_bytes B h2
 have hx := FM.xlt m
 refine W_setR B S hI G c h hT ht rfl (fun cx => hmid cx) (by cases tk <;> simp only [Txt.ly] <;> omega) (by cases tk <;> simp only [Txt.ly] <;> omega) (fun wa v w' e => ⟨[v], zcn e.1, rfl, fun c hc => by simp at hc; rw [hc]; exact e.1⟩) fun wa v w1 cs ma hR m1 hc hl hth => ?_
 have e : cs = [v] := by
  have := zcn hR.1
  rw [hc] at this
  simpa using congrArg Array.toList this
 rw [e]
 have s0 := h.mod.size
 have s1 := ma.size
 exact hQ _ _ (FSt.put c h (ma.trans' m1) (cs := [v]) (x := tk.ofT (atT t i)) rfl (Rep.mono (fun k hk => .inr ⟨by have := hk.1; omega, hk.2⟩) _ hR.2)).2
theorem tyF_txt (B : Base P N) (S : SpT P N M) (hI : zct P N N.zaa N.zcr N.zbh N.zbt) (F : TrF P N) (G : SMg P N M L) {tk : Txt} (ho : (Ty.txt tk).fok P N L mf m) : TyF P N L mf m (.txt tk) := by
 intro wS w0 w bT b off n pos idx i q kk Tt ct t σ0 σ vs rest loc N' Q hlo c hb h hT hq hQ
 have hx := FM.xlt m
 rcases ho.1 with e | e | ⟨rfl, hN⟩
 ·exact zpr B S hI F G ho.2 (fun cx => zxk B hI F G (.inl e) hx) c h hT hQ
 ·exact zpr B S hI F G ho.2 (fun cx => zxk B hI F G (.inr e) hx) c h hT hQ
 ·have hs := ((zgh _).1 (hb.at i)).2.1
  exact zpr B S hI F G ho.2 (fun cx => mid_byt B hI G hN hx (by omega)) c h hT hQ
theorem tyF_tv (B : Base P N) (S : SpT P N M) (hI : zct P N N.zaa N.zcr N.zbh N.zbt) (F : TrF P N) (G : SMg P N M L) {tk : Int} (ho : (Ty.tv tk).fok P N L mf m) : TyF P N L mf m (.tv tk) := by
 intro wS w0 w bT b off n pos idx i q kk Tt ct t σ0 σ vs rest loc N' Q hlo c hb h hT hq hQ
 exact zpr (tk := .nstr) B S hI F G (fun _ => ho.2) (fun cx => zxk B hI F G (.inr ⟨rfl, ho.1⟩) (FM.xlt m)) c h hT hQ
theorem FSt.skip {wS w0 w : World} {b off n pos : Nat} {σ0 σ : Env} {vs : List Val} {x : Val} {z rest : List Value} (h : FSt m wS w0 b off n σ0 vs pos (z ++ rest) σ w) (hx : Rep w (GV wS w0 w) x z) : FSt m wS w0 b off n σ0 (vs ++ [x]) (pos + z.length) rest σ w := by
 obtain ⟨ag, mod, css, hr, hrep, hp, hn⟩ := h
 refine ⟨ag, mod, css ++ [z], ?_, RepL.append hrep ⟨z, [], rfl, hx, rfl⟩, ?_, ?_⟩
 ·rw [List.flatten_append, List.flatten_cons, List.flatten_nil, List.append_nil, List.append_assoc]; exact hr
 ·rw [List.flatten_append, List.length_append, List.flatten_cons, List.flatten_nil, List.append_nil]; omega
 ·rw [List.flatten_append, List.length_append, List.flatten_cons, List.flatten_nil, List.append_nil]; rw [List.length_append] at hn; omega
theorem FSt.agr {wS w0 w : World} {b off n pos : Nat} {σ0 σ σ' : Env} {vs : List Val} {rest : List Value} (h : FSt m wS w0 b off n σ0 vs pos rest σ w) (e : ∀ i, i < m.q0 → σ' i = σ i) : FSt m wS w0 b off n σ0 vs pos rest σ' w :=
 ⟨fun i hi => (e i hi).trans (h.ag i hi), h.mod, h.ex⟩
theorem FSt.stay {wS w0 w w' : World} {b off n pos : Nat} {σ0 σ : Env} {vs : List Val} {rest : List Value} (h : FSt m wS w0 b off n σ0 vs pos rest σ w) (hS : wS.heap.size ≤ w0.heap.size) (hb : b < w0.heap.size) (m' : Mod w w' zw) : FSt m wS w0 b off n σ0 vs pos rest σ w' := by
 obtain ⟨ag, mod, css, hr, hrep, hp, hn⟩ := h
 have s := m'.size
 have s0 := mod.size
 refine ⟨ag, mod.trans m' fun k o _ h => h.elim id fun h => h.elim, css, zh m' hr, RepL.mod m' (fun k hk => ⟨?_, fun _ h => h, hk.imp id fun h => ⟨h.1, by have := h.2; omega⟩⟩) _ hrep, hp, hn⟩
 rcases hk with hk | hk
 ·have hk : k < wS.heap.size := hk
  omega
 ·exact hk.2
end
structure ArS (m : FM) (wS w0 : World) (b off n : Nat) (σ0 : Env) (vs : List Val) (pos : Nat) (rest : List Value) (lo q : Nat) (vL : Value) (Lc sz : Nat) (vals : List Val) (j : Nat) (σ : Env) (w : World) : Prop where
 ag : Ag m.q0 σ0 σ
 hL : σ (q + 1) = vL
 hn : σ (q + 2) = .int .i64 Lc
 hj : σ (q + 3) = .int .i64 j
 le : j ≤ Lc
 mod : Mod w0 w (fun k o => k = b ∧ off ≤ o)
 lo0 : w0.heap.size ≤ lo
 lo1 : lo ≤ w.heap.size
 ex : ∃ u css ucss, w.rangeAt b off (css.flatten ++ ([u] ++ rest)) ∧ RepL w (GN (GS wS) w0.heap.size lo) vs css ∧ off + css.flatten.length = pos ∧ css.flatten.length + (1 + rest.length) = n ∧ Own w lo sz u j ucss.flatten ∧ (∃ bl c, u = .slice (some ⟨bl, 0, none⟩) j c) ∧ (∀ x ∈ ucss, x.length = sz) ∧
  (∀ c ∈ ucss.flatten, c.oneCell' = true) ∧ RepL w (GX (GS wS) lo w u) (vals.take j) ucss
section
variable {P : Program} {N : Nums} {M : zaz} {L : zen} {mf : TypeId → FuncId} {m : FM}
theorem ArS.agr {wS w0 w : World} {b off n pos lo q Lc sz j : Nat} {σ0 σ σ' : Env} {vs vals : List Val} {rest : List Value} {vL : Value} (h : ArS m wS w0 b off n σ0 vs pos rest lo q vL Lc sz vals j σ w) (hq : m.q0 ≤ q) (e : ∀ i, i < q + 4 → σ' i = σ i) : ArS m wS w0 b off n σ0 vs pos rest lo q vL Lc sz vals j σ' w :=
 ⟨fun i hi => (e i (by omega)).trans (h.ag i hi), (e _ (by omega)).trans h.hL, (e _ (by omega)).trans h.hn, (e _ (by omega)).trans h.hj, h.le, h.mod, h.lo0, h.lo1, h.ex⟩
theorem ArS.cell {wS w0 w : World} {b off n pos lo q Lc sz j : Nat} {σ0 σ : Env} {vs vals : List Val} {rest : List Value} {vL u : Value} {css : List (List Value)} (hr : w.rangeAt b off (css.flatten ++ ([u] ++ rest))) (hp : off + css.flatten.length = pos) : w.cell? ⟨b, pos, none⟩ = some u := by
 rw [zx, hp] at hr
 exact hr.2 0 u rfl
theorem ArS.done {wS w0 w : World} {bT b off n pos lo q Lc sz : Nat} {ct : List Value} {t : Tr} {σ0 σ : Env} {vs vals : List Val} {rest : List Value} {vL : Value} (c : FC P N m wS w0 bT ct t b off n σ0) (h : ArS m wS w0 b off n σ0 vs pos rest lo q vL Lc sz vals Lc σ w) (hl : vals.length = Lc) : FSt m wS w0 b off n σ0 (vs ++ [.arr sz vals]) (pos + 1) rest σ w := by
 obtain ⟨ag, _, _, _, _, mod, lo0, lo1, u, css, ucss, hr, hrep, hp, hn, ho, ⟨bl, cc, hu⟩, hsz, _, hel⟩ := h
 rw [← hl, List.take_length] at hel
 refine ⟨ag, mod, css ++ [[u]], ?_, RepL.append (RepL.mono (fun k hk => hk.imp id fun h => ⟨h.1, by have := h.2; omega⟩) _ hrep) ⟨[u], [], rfl, ?_, rfl⟩, ?_, ?_⟩
 ·rw [List.flatten_append, List.flatten_cons, List.flatten_nil, List.append_nil, List.append_assoc]; exact hr
 ·rcases ho with ⟨e, _, _⟩ | ⟨b', c', e, g1, g2, g3, _, g5, _⟩
  ·rw [e] at hu; cases hu
  ·refine ⟨b', c', ucss, by rw [e, hl], by rw [hl]; exact g3, fun _ => .inr ⟨by omega, g2⟩, hsz, RepL.mono (fun k hk => hk.elim .inl fun h => .inr ⟨by have := h.1; omega, h.2.1⟩) _ hel, g5⟩
 ·rw [List.flatten_append, List.length_append, List.flatten_cons, List.flatten_nil, List.append_nil, List.length_singleton]; omega
 ·rw [List.flatten_append, List.length_append, List.flatten_cons, List.flatten_nil, List.append_nil, List.length_singleton]; omega
theorem ArS.next {wS w0 w w9 : World} {bT b off n pos lo q Lc sz j : Nat} {ct : List Value} {t : Tr} {σ0 σ' : Env} {vs vals : List Val} {rest cs' : List Value} {vL u u' : Value} {css ucss : List (List Value)} (c : FC P N m wS w0 bT ct t b off n σ0) (ag : Ag m.q0 σ0 σ') (hq : m.q0 ≤ q) (hL : σ' (q + 1) = vL) (hn : σ' (q + 2) = .int .i64 Lc) (hj : j < Lc) (hjv : j < vals.length)
  (mod : Mod w0 w (fun k o => k = b ∧ off ≤ o)) (lo0 : w0.heap.size ≤ lo) (lo1 : lo ≤ w.heap.size) (hr : w.rangeAt b off (css.flatten ++ ([u] ++ rest))) (hrep : RepL w (GN (GS wS) w0.heap.size lo) vs css) (hp : off + css.flatten.length = pos) (hnn : css.flatten.length + (1 + rest.length) = n) (ho : Own w lo sz u j ucss.flatten) (hsz : ∀ x ∈ ucss, x.length = sz) (h1 : ∀ c ∈ ucss.flatten, c.oneCell' = true)
  (m9 : Mod w w9 (fun k o => ¬ zaj u k ∨ (k = b ∧ o = pos))) (c9 : w9.cell? ⟨b, pos, none⟩ = some u') (ho9 : Own w9 lo sz u' (j + 1) (ucss.flatten ++ cs')) (hl : cs'.length = sz) (h1' : ∀ c ∈ cs', c.oneCell' = true) (hel : RepL w9 (GX (GS wS) lo w9 u') (vals.take j) ucss) (hx : Rep w9 (GX (GS wS) lo w9 u') vals[j] cs') :
  ArS m wS w0 b off n σ0 vs pos rest lo q vL Lc sz vals (j + 1) (upd σ' (q + 3) (.int .i64 ((j + 1 : Nat) : Int))) w9 := by
 have hb0 := c.b0
 have hbS := c.bS
 have s9 := m9.size
 have s0 := mod.size
 have hv : ∀ k, ¬ zaj u k → lo ≤ k := fun k hk => (ho.blk hk).1
 rw [zx, hp] at hr
 refine ⟨fun i hi => by rw [zq (by omega)]; exact ag i hi, by rw [zq (by omega)]; exact hL, by rw [zq (by omega)]; exact hn, upd_same _ _ _, hj, mod.trans m9 fun k o hk h => h.elim id fun h => h.elim (fun h => by have := hv k h; omega) fun h => ⟨h.1, by have := h.2; omega⟩, lo0, by omega, u', css, ucss ++ [cs'], ?_, ?_, hp, hnn, ?_, ?_, ?_, ?_, ?_⟩
 ·rw [zx, hp]
  refine ⟨m9.rangeAt (by omega) (fun i h1 h2 h => by
   rcases h with h | h
   ·have := hv b h; omega
   ·omega) hr.1, ?_⟩
  refine (zx (cs := [u']) (ds := rest)).2 ⟨zha.2 c9, m9.rangeAt (by omega) (fun i h1 h2 h => by
   simp at h1
   rcases h with h | h
   ·have := hv b h; omega
   ·omega) ((zx (cs := [u]) (ds := rest)).1 hr.2).2⟩
 ·refine RepL.mod m9 (fun k hk => ⟨?_, fun o h => ?_, hk⟩) _ hrep
  ·rcases hk with hk | hk
   ·have hk : k < wS.heap.size := hk
    omega
   ·have := hk.2; omega
  ·rcases hk with hk | hk
   ·have hk : k < wS.heap.size := hk
    rcases h with h | h
    ·have := hv k h; omega
    ·omega
   ·have := hk.1
    have := hk.2
    rcases h with h | h
    ·have := hv k h; omega
    ·omega
 ·rw [List.flatten_append, List.flatten_cons, List.flatten_nil, List.append_nil]; exact ho9
 ·rcases ho9 with ⟨_, e, _⟩ | ⟨b', c', e, _⟩
  ·omega
  ·exact ⟨b', c', e⟩
 ·intro x hx
  rcases List.mem_append.1 hx with hx | hx
  ·exact hsz x hx
  ·simp at hx; rw [hx]; exact hl
 ·intro x hx
  rw [List.flatten_append, List.flatten_cons, List.flatten_nil, List.append_nil, List.mem_append] at hx
  exact hx.elim (h1 x) (h1' x)
 ·rw [List.take_add_one, List.getElem?_eq_getElem hjv]
  exact RepL.append hel ⟨cs', [], rfl, hx, rfl⟩
theorem W_e1 (hI : zct P N N.zaa N.zcr N.zbh N.zbt) {loc : List Nat} {N' : Nat} {Q : Exit → Env → World → Prop} {σ : Env} {wS w : World} {q j : Nat} {vL : Value} {l : List Tr} (mS : Mod wS w zw) (hL : σ (q + 1) = vL) (hj : σ (q + 3) = .int .i64 j) (hvL : zgb wS vL l) (hjl : j < l.length)
  (hQ : ∀ σ' w' cx, (∀ i, i ≠ q + 5 → σ' i = σ i) → σ' (q + 5) = .pointer (some ⟨w.heap.size, 0, none⟩) → RepA wS l[j] cx → w'.rangeAt w.heap.size 0 cx → Mod w w' zw → w'.heap.size = w.heap.size + 1 → Q .normal σ' w') :
  W P loc N' (.ops [⟨some 0, .indexAddr N.zbh (V (q + 1)) (V (q + 3)), 0, none, []⟩, ⟨some 1, .load N.zaa (T 0), 0, none, []⟩, ⟨some (q + 5 + 100), .alloc N.zaa, 0, none, []⟩, ⟨none, .store N.zaa (V (q + 5)) (T 1), 0, none, []⟩]) Q σ w := by
 obtain ⟨fs, hti⟩ := hI.ti
 obtain ⟨bl, ol, cl, cx, hv1, hx, hg⟩ := hvL.get (List.getElem?_eq_getElem hjl)
 have hgw := zh mS hg
 have hld := hI.loadT hgw hx.len
 have hix := fun {w : World} => zbf (P := P) (w := w) hI.lt hti (bl := bl) (o := ol) (n := l.length) (c := cl) (i := j) (k := .i64) hjl
 obtain ⟨wa, w5, hal, hst, _, m5, s5, r5, _⟩ := zgs (cs := cx) hti (by decide) rfl hx.len hx.ones w
 refine zn fun τ => ?_
 simp +decide (disch := omega) only [bK, bE, Nat.reduceBeqDiff, BEq.rfl, hL, hj]
 rw [hv1]
 simp +decide (disch := omega) only [bK, hix, hld, hal, hst]
 refine zd (K := fun σ' w' => Q .normal σ' w') fun σ5 hσ => hQ σ5 w5 cx (fun i hi => ?_) ?_ hx r5 m5 s5
 ·rw [hσ i]
  have e1 : (i + 100 == q + 5 + 100) = false := beq_eq_false_iff_ne.2 (by omega)
  simp +decide (disch := omega) only [bE, Nat.reduceBeqDiff, e1]
 ·rw [hσ (q + 5)]
  simp +decide (disch := omega) only [bE, BEq.rfl]
end
section
variable {P : Program} {N : Nums} {M : zaz} {L : zen} {mf : TypeId → FuncId} {m : FM}
def ElF (P : Program) (N : Nums) (mf : TypeId → FuncId) (m : FM) (e : El) : Prop := ∀ {wS w0 w : World} {bT b off n pos idx q lo Lc j : Nat} {Tt st : TypeId} {ct cx : List Value} {t x : Tr} {σ0 σ σ1 : Env} {w1 : World} {vs vals : List Val} {rest : List Value} {vL : Value} {loc : List Nat} {N' : Nat} {Q : Exit → Env → World → Prop},
 FC P N m wS w0 bT ct t b off n σ0 → HF P Tt idx pos → TI P st (.slice (e.ty N)) 1 24 (.slice none 0 0) → (∃ d by' z, TI P (e.ty N) d e.sz by' z ∧ z.cells.size = e.sz ∧ by' ≤ 128) → 0 < e.sz → e.sz ≤ 16777216 → m.q0 ≤ q → Lc < 1099511627776 - 1 → b < lo → bdT x →
 ArS m wS w0 b off n σ0 vs pos rest lo q vL Lc e.sz vals j σ w → j < Lc → (hjv : j < vals.length) → vals[j] = e.ofT x → (∀ i, i ≠ q + 5 → σ1 i = σ i) → σ1 (q + 5) = .pointer (some ⟨w.heap.size, 0, none⟩) → RepA wS x cx → w1.rangeAt w.heap.size 0 cx → Mod w w1 zw → w1.heap.size = w.heap.size + 1 →
 (∀ σ' w', σ' (q + 3) = .int .i64 j → ArS m wS w0 b off n σ0 vs pos rest lo q vL Lc e.sz vals (j + 1) (upd σ' (q + 3) (.int .i64 ((j + 1 : Nat) : Int))) w' → Q .normal σ' w') → W P loc N' (e.fe N mf m Tt idx st q) Q σ1 w1
theorem zvs (B : Base P N) (hI : zct P N N.zaa N.zcr N.zbh N.zbt) {T' pT df : Nat} {fs : Fds} (ho : (El.row T' pT df fs).fok P N mf .fill) : ElF P N mf .fill (.row T' pT df fs) := by
 intro wS w0 w bT b off n pos idx q lo Lc j Tt st ct cx t x σ0 σ σ1 w1 vs vals rest vL loc N' Q c hT hS hE hs0 hsm hq hLc hblo hbx h hjL hjv hval hag h5 hx r1 m1 s1 hQ
 obtain ⟨hf, hmk⟩ := ho
 obtain ⟨d, by', z, ht, hz, hby⟩ := hE
 obtain ⟨ag, hL, hn, hj, le, mod, lo0, lo1, u, css, ucss, hr, hrep, hp, hnn, hO, hu, hsz, hon, hel⟩ := h
 obtain ⟨q', rfl⟩ : ∃ q', q = q' + 1 := ⟨q - 1, by have : 3 ≤ q := hq; omega⟩
 have hb0 := c.b0
 have hbS := c.bS
 have hq3 : 3 ≤ q' + 1 := hq
 have mSw : Mod wS w zw := c.mS.fresh mod fun k o e => by have := e.1; omega
 have hcell : w.cell? ⟨b, pos, none⟩ = some u := ArS.cell (σ0 := σ0) (σ := σ) (vs := vs) (vals := vals) (vL := vL) (wS := wS) (w0 := w0) (off := off) (n := n) (lo := lo) (q := q') (Lc := Lc) (sz := 0) (j := j) hr hp
 have f0 : σ1 0 = .pointer (some ⟨b, 0, none⟩) := by rw [hag 0 (by omega), ag 0 (by decide)]; exact c.sv
 have hv : ∀ k, ¬ zaj u k → lo ≤ k ∧ k < w.heap.size := fun k hk => hO.blk hk
 have md : Mod w w1.drew zw := m1.trans' (Mod.drew _ _)
 have keepb : ∀ {w' : World}, Mod w w' (fun k _ => ¬ zaj u k) → w'.cell? ⟨b, pos, none⟩ = some u := fun mm => by
  rw [mm.cell _ _ (zfc (by rw [hcell]; rfl)) (fun hn => by have := (hv b hn).1; omega)]; exact hcell
 show W P loc N' (.draw (lFr N .fill Tt idx st T' (mf T') (q' + 1))) Q σ1 w1
 refine zul B.mixed [true, true, true, true, true, true, false, false, false, false, false, false] rfl (ztq (l0 := lFr N .fill Tt idx st T' (mf T') 1) q' (by kernel_rfl) rfl) (fun w' => Mod w w' (fun k _ => ¬ zaj u k) ∧ w'.rangeAt w.heap.size 0 cx) ⟨md.mono fun _ _ _ h => h.elim, zh (Mod.drew _ _) r1⟩ fun τ => ?_
 have e0 : zia σ1 τ 100 = .pointer (some ⟨b, 0, none⟩) := by rw [← f0]; exact envOf_var σ1 τ 0
 have e5 : zia σ1 τ (q' + 1 + 5 + 100) = .pointer (some ⟨w.heap.size, 0, none⟩) := by rw [← h5]; exact envOf_var σ1 τ (q' + 1 + 5)
 refine zp (.pointer (some ⟨b, 0, none⟩)) (fun w' _ => by rw [zby, ev_tmp, e0]) rfl ?_
 refine zp (.pointer (some ⟨b, 0, none⟩)) (fun w' _ => by rw [zby, ev_tmp]; simp +decide (disch := omega) only [zjr, e0]) rfl ?_
 refine zp (.pointer (some ⟨b, 0, none⟩)) (fun w' hw => rfl) rfl ?_
 refine zp (.pointer (some ⟨b, pos, none⟩)) (fun w' _ => zap (by simp +decide only [bE, BEq.rfl, Nat.zero_add, ev_tmp, hT.run])) rfl ?_
 refine zp u (fun w' hw => zap (by simp +decide only [bE, BEq.rfl, ev_tmp, hS.run_load1 rfl, keepb hw.1, ldc_some])) rfl ?_
 refine zp (.agg cx.toArray) (fun w' hw => zap (by
  simp +decide (disch := omega) only [ev_tmp, zjr, e5]
  exact hI.loadT hw.2 hx.len)) rfl ?_
 simp only []
 show anyC P _ _ _ _ [6, 7, 8, 9, 10, 11].length [6, 7, 8, 9, 10, 11] _ _
 refine zgu _ _ _ (by kernel_rfl) (by decide) (fun k hk => by simp at hk; subst hk; kernel_rfl) ?_
 simp only [lFr, List.map, List.getD_cons_zero, List.getD_cons_succ, zgq]
 rw [zbb hf]
 simp +decide only [bK, bE, Nat.reduceBeqDiff, BEq.rfl]
 refine (hmk wS w1.drew x cx (mSw.trans' md) hx hbx).mono ?_
 rintro _ w6 ⟨cs', rfl, hrep6, hl6, m6d⟩
 have m6 : Mod w w6 zw := md.trans' m6d
 have r6 : w6.rangeAt w.heap.size 0 cx := zh m6d (zh (Mod.drew _ _) r1)
 have hok := El.ofOk (.row T' pT df fs) hbx
 have hon' : ∀ c ∈ cs', c.oneCell' = true := by
  have h1 := hok.1
  obtain ⟨css', rfl, hrl⟩ := hrep6
  exact Fds.rep_one fs _ h1 hrl
 obtain ⟨w7, u', w8, w9, hbs, happ, hsto, m7, m08, m78, m9, c9, ho9, tr1, tr2⟩ := zxx (ty := st) (v6 := .agg cs'.toArray) (G := GS wS) (a := w1.heap.size) hS rfl ht hz hby hs0 hsm (b := b) (pos := pos) hblo (fun k (hk : k < wS.heap.size) => by omega) lo1 m6 m1.size hO hl6 rfl hon' hon (by omega) (by
  intro i hi
  obtain rfl : i = 0 := by omega
  have hth := mod.there c.b0 c.th (pos - off) (by omega)
  rw [show off + (pos - off) = pos + 0 by omega] at hth
  exact hth)
 have e9 : ∀ ρ : Env, (#[(0, T 6)] : Array (Nat × Operand)).map (fun p => (p.1, ev ρ p.2)) = #[(0, ρ 6)] := fun ρ => by simp
 have nb : ¬ ¬ zaj u w.heap.size := fun h => by have := (hv _ h).2; omega
 have s6 := m6d.size
 have sd : w1.drew.heap.size = w1.heap.size := rfl
 have s7 := m7.size
 have r7 : w7.rangeAt w.heap.size 0 cx := by
  obtain ⟨i, hi, _⟩ := ht.info
  have hm67 : Mod w6 w7 zw := by
   have := ziq (w := w6) (v := .agg cs'.toArray) (cs := cs') hS ht rfl hl6 hs0 hsm
   rw [this] at hbs
   injection hbs with _ hbs
   rw [← hbs]; exact Mod.alloc _ _ _
  exact zh hm67 r6
 have r8 : w8.rangeAt w.heap.size 0 cx := m78.rangeAt (zfc (by
  obtain ⟨_, _, _, ecx, _⟩ := hx.out
  have := r7 0 (.int .i64 x.n) (by rw [ecx]; rfl)
  rw [this]; rfl)) (fun _ _ _ => nb) r7
 refine ⟨⟨m6.mono fun _ _ _ h => h.elim, r6⟩, ?_⟩
 simp +decide only [bK, bE, BEq.rfl, e9, hbs]
 refine ⟨⟨m7.mono fun _ _ _ h => h.elim, r7⟩, ?_⟩
 simp +decide only [bK, happ]
 refine ⟨⟨m08, r8⟩, ?_⟩
 rw [zat (a := ⟨b, 0, none⟩) (by simp +decide only [bE, Nat.reduceBeqDiff, BEq.rfl, ev_tmp])]
 refine ⟨⟨m08, r8⟩, ?_⟩
 simp +decide only [bK, bE, Nat.reduceBeqDiff, BEq.rfl, Nat.zero_add, hT.run]
 refine ⟨⟨m08, r8⟩, ?_⟩
 simp +decide only [bK, hsto]
 refine zd (K := fun σ' w' => Q .normal σ' w') fun σ9 hσ => ?_
 have e : ∀ k, σ9 k = σ1 k := fun k => by
  rw [hσ k]
  simp +decide (disch := omega) only [zjr, envOf_var]
 have hval' : Rep w6 (GN (GS wS) w1.heap.size w6.heap.size) vals[j] cs' := by rw [hval]; exact hrep6
 refine hQ σ9 w9 (by rw [e, hag _ (by omega)]; exact hj) ?_
 exact ArS.next c (fun i hi => by rw [e, hag _ (by have : i < 3 := hi; omega)]; exact ag i hi) hq (by rw [e, hag _ (by omega)]; exact hL) (by rw [e, hag _ (by omega)]; exact hn) hjL hjv mod lo0 lo1 hr hrep hp hnn hO hsz hon m9 c9 ho9 hl6 hon' (tr1 hel) (tr2 hval')
theorem elF_row_mk (B : Base P N) (hI : zct P N N.zaa N.zcr N.zbh N.zbt) {T' pT df : Nat} {fs : Fds} (ho : (El.row T' pT df fs).fok P N mf .mk) : ElF P N mf .mk (.row T' pT df fs) := by
 intro wS w0 w bT b off n pos idx q lo Lc j Tt st ct cx t x σ0 σ σ1 w1 vs vals rest vL loc N' Q c hT hS hE hs0 hsm hq hLc hblo hbx h hjL hjv hval hag h5 hx r1 m1 s1 hQ
 obtain ⟨hf, hmk⟩ := ho
 obtain ⟨d, by', z, ht, hz, hby⟩ := hE
 obtain ⟨ag, hL, hn, hj, le, mod, lo0, lo1, u, css, ucss, hr, hrep, hp, hnn, hO, hu, hsz, hon, hel⟩ := h
 obtain ⟨q', rfl⟩ : ∃ q', q = q' + 1 := ⟨q - 1, by have : 4 ≤ q := hq; omega⟩
 have hb0 := c.b0
 have hbS := c.bS
 have hq3 : 4 ≤ q' + 1 := hq
 have mSw : Mod wS w zw := c.mS.fresh mod fun k o e => by have := e.1; omega
 have hcell : w.cell? ⟨b, pos, none⟩ = some u := ArS.cell (σ0 := σ0) (σ := σ) (vs := vs) (vals := vals) (vL := vL) (wS := wS) (w0 := w0) (off := off) (n := n) (lo := lo) (q := q') (Lc := Lc) (sz := 0) (j := j) hr hp
 have f3 : σ1 3 = .pointer (some ⟨b, 0, none⟩) := by rw [hag 3 (by omega), ag 3 (by decide)]; exact c.sv
 have hv : ∀ k, ¬ zaj u k → lo ≤ k ∧ k < w.heap.size := fun k hk => hO.blk hk
 have md : Mod w w1.drew zw := m1.trans' (Mod.drew _ _)
 have keepb : ∀ {w' : World}, Mod w w' (fun k _ => ¬ zaj u k) → w'.cell? ⟨b, pos, none⟩ = some u := fun mm => by
  rw [mm.cell _ _ (zfc (by rw [hcell]; rfl)) (fun hn => by have := (hv b hn).1; omega)]; exact hcell
 show W P loc N' (.draw (lFr N .mk Tt idx st T' (mf T') (q' + 1))) Q σ1 w1
 refine zul B.mixed [true, true, true, false, false, false, false, false] rfl (ztq (l0 := lFr N .mk Tt idx st T' (mf T') 1) q' (by kernel_rfl) rfl) (fun w' => Mod w w' (fun k _ => ¬ zaj u k) ∧ w'.rangeAt w.heap.size 0 cx) ⟨md.mono fun _ _ _ h => h.elim, zh (Mod.drew _ _) r1⟩ fun τ => ?_
 have e3 : zia σ1 τ 103 = .pointer (some ⟨b, 0, none⟩) := by rw [← f3]; exact envOf_var σ1 τ 3
 have e5 : zia σ1 τ (q' + 1 + 5 + 100) = .pointer (some ⟨w.heap.size, 0, none⟩) := by rw [← h5]; exact envOf_var σ1 τ (q' + 1 + 5)
 refine zp (.pointer (some ⟨b, pos, none⟩)) (fun w' _ => zap (by simp +decide only [ev_tmp, e3, hT.run, Nat.zero_add])) rfl ?_
 refine zp u (fun w' hw => zap (by simp +decide only [bE, BEq.rfl, ev_tmp, hS.run_load1 rfl, keepb hw.1, ldc_some])) rfl ?_
 refine zp (.agg cx.toArray) (fun w' hw => zap (by
  simp +decide (disch := omega) only [ev_tmp, zjr, e5]
  exact hI.loadT hw.2 hx.len)) rfl ?_
 simp only []
 show anyC P _ _ _ _ [3, 4, 5, 6, 7].length [3, 4, 5, 6, 7] _ _
 refine zgu _ _ _ (by kernel_rfl) (by decide) (fun k hk => by simp at hk; subst hk; kernel_rfl) ?_
 simp only [lFr, List.map, List.getD_cons_zero, List.getD_cons_succ, zgq]
 rw [zbb hf]
 simp +decide only [bK, bE, Nat.reduceBeqDiff, BEq.rfl, Nat.reduceAdd]
 refine (hmk wS w1.drew x cx (mSw.trans' md) hx hbx).mono ?_
 rintro _ w6 ⟨cs', rfl, hrep6, hl6, m6d⟩
 have m6 : Mod w w6 zw := md.trans' m6d
 have r6 : w6.rangeAt w.heap.size 0 cx := zh m6d (zh (Mod.drew _ _) r1)
 have hok := El.ofOk (.row T' pT df fs) hbx
 have hon' : ∀ c ∈ cs', c.oneCell' = true := by
  have h1 := hok.1
  obtain ⟨css', rfl, hrl⟩ := hrep6
  exact Fds.rep_one fs _ h1 hrl
 obtain ⟨w7, u', w8, w9, hbs, happ, hsto, m7, m08, m78, m9, c9, ho9, tr1, tr2⟩ := zxx (ty := st) (v6 := .agg cs'.toArray) (G := GS wS) (a := w1.heap.size) hS rfl ht hz hby hs0 hsm (b := b) (pos := pos) hblo (fun k (hk : k < wS.heap.size) => by omega) lo1 m6 m1.size hO hl6 rfl hon' hon (by omega) (by
  intro i hi
  obtain rfl : i = 0 := by omega
  have hth := mod.there c.b0 c.th (pos - off) (by omega)
  rw [show off + (pos - off) = pos + 0 by omega] at hth
  exact hth)
 have e9 : ∀ ρ : Env, (#[(0, T 3)] : Array (Nat × Operand)).map (fun p => (p.1, ev ρ p.2)) = #[(0, ρ 3)] := fun ρ => by simp
 have nb : ¬ ¬ zaj u w.heap.size := fun h => by have := (hv _ h).2; omega
 have s6 := m6d.size
 have sd : w1.drew.heap.size = w1.heap.size := rfl
 have s7 := m7.size
 have r7 : w7.rangeAt w.heap.size 0 cx := by
  have hm67 : Mod w6 w7 zw := by
   have := ziq (w := w6) (v := .agg cs'.toArray) (cs := cs') hS ht rfl hl6 hs0 hsm
   rw [this] at hbs
   injection hbs with _ hbs
   rw [← hbs]; exact Mod.alloc _ _ _
  exact zh hm67 r6
 have r8 : w8.rangeAt w.heap.size 0 cx := m78.rangeAt (zfc (by
  obtain ⟨_, _, _, ecx, _⟩ := hx.out
  have := r7 0 (.int .i64 x.n) (by rw [ecx]; rfl)
  rw [this]; rfl)) (fun _ _ _ => nb) r7
 refine ⟨⟨m6.mono fun _ _ _ h => h.elim, r6⟩, ?_⟩
 simp +decide only [bK, bE, BEq.rfl, e9, hbs]
 refine ⟨⟨m7.mono fun _ _ _ h => h.elim, r7⟩, ?_⟩
 simp +decide only [bK, happ]
 refine ⟨⟨m08, r8⟩, ?_⟩
 have e3' : ∀ (ρ : Env), ρ 103 = .pointer (some ⟨b, 0, none⟩) → ev ρ (V 3) = .pointer (some ⟨b, 0, none⟩) := fun ρ h => h
 simp +decide only [bK, Nat.zero_add, f3, hT.run]
 refine ⟨⟨m08, r8⟩, ?_⟩
 simp +decide only [bK, hsto]
 refine zd (K := fun σ' w' => Q .normal σ' w') fun σ9 hσ => ?_
 have e : ∀ k, σ9 k = σ1 k := fun k => by
  rw [hσ k]
  simp +decide (disch := omega) only [zjr, envOf_var]
 have hval' : Rep w6 (GN (GS wS) w1.heap.size w6.heap.size) vals[j] cs' := by rw [hval]; exact hrep6
 refine hQ σ9 w9 (by rw [e, hag _ (by omega)]; exact hj) ?_
 exact ArS.next c (fun i hi => by rw [e, hag _ (by have : i < 4 := hi; omega)]; exact ag i hi) hq (by rw [e, hag _ (by omega)]; exact hL) (by rw [e, hag _ (by omega)]; exact hn) hjL hjv mod lo0 lo1 hr hrep hp hnn hO hsz hon m9 c9 ho9 hl6 hon' (tr1 hel) (tr2 hval')
end
section
variable {P : Program} {N : Nums} {M : zaz} {L : zen} {mf : TypeId → FuncId} {m : FM}
theorem elF_pr (B : Base P N) (hI : zct P N N.zaa N.zcr N.zbh N.zbt) {k : PK} (ho : (El.pr k).fok P N mf m) : ElF P N mf m (.pr k) := by
 obtain ⟨rfl, hsg, hnb, hn6, hnt⟩ := ho
 intro wS w0 w bT b off n pos idx q lo Lc j Tt st ct cx t x σ0 σ σ1 w1 vs vals rest vL loc N' Q c hT hS hE hs0 hsm hq hLc hblo hbx h hjL hjv hval hag h5 hx r1 m1 s1 hQ
 obtain ⟨d, by', z, ht, hz, hby⟩ := hE
 obtain ⟨ag, hL, hn, hj, le, mod, lo0, lo1, u, css, ucss, hr, hrep, hp, hnn, hO, hu, hsz, hon, hel⟩ := h
 have hb0 := c.b0
 have hbS := c.bS
 have hq3 : 4 ≤ q := hq
 have hcell : w.cell? ⟨b, pos, none⟩ = some u := ArS.cell (σ0 := σ0) (σ := σ) (vs := vs) (vals := vals) (vL := vL) (wS := wS) (w0 := w0) (off := off) (n := n) (lo := lo) (q := q) (Lc := Lc) (sz := 0) (j := j) hr hp
 have hcell1 : w1.cell? ⟨b, pos, none⟩ = some u := by rw [m1.cell _ _ (zfc (by rw [hcell]; rfl)) fun h => h]; exact hcell
 have f3 : σ1 3 = .pointer (some ⟨b, 0, none⟩) := by rw [hag 3 (by omega), ag 3 (by decide)]; exact c.sv
 have hok := zon k hbx
 obtain ⟨vs0, vl0, vu0, hcx, _⟩ := hx.out
 have x0 : w1.cell? ⟨w.heap.size, 0, none⟩ = some (.int .i64 x.n) := r1 0 _ (by rw [hcx]; rfl)
 have hone : k.sz = 1 := by cases k <;> first | rfl | cases hsg
 have hcs : (k.ofN x).oneCell' = true := by
  cases k <;> first | (cases hsg; done) | rfl
 have hcv : ∀ {w : World}, (convert N.zbn (k.t N) (.int .i64 x.n)).run P w = .ok (k.ofN x) w := by
  intro w
  cases k with
  | i8 => exact zax (k' := .i64) B.int64 (B.int8 (hnt.2 rfl)) ⟨_, rfl⟩
  | i16 => exact zax (k' := .i64) B.int64 B.int16 ⟨_, rfl⟩
  | u16 => exact zax (k' := .i64) B.int64 B.uint16 ⟨_, rfl⟩
  | i32 => exact zax (k' := .i64) B.int64 B.int32 ⟨_, rfl⟩
  | bool => exact absurd rfl hnb
  | i64 => exact absurd rfl hn6
  | uuid => cases hsg
  | en t => cases hsg
 obtain ⟨w7, u', w8, w9, hbs, happ, hsto, m7, m08, m78, m9, c9, ho9, tr1, tr2⟩ := zxx (ty := st) (v6 := k.ofN x) (G := GS wS) (a := w1.heap.size) hS rfl ht hz hby hs0 hsm (b := b) (pos := pos) (cs' := [k.ofN x]) hblo (fun k (hk : k < wS.heap.size) => by omega) lo1 m1 m1.size hO (by show 1 = k.sz; rw [hone]) (zcn hcs) (by intro c hc; simp at hc; rw [hc]; exact hcs) hon (by omega) (by
  intro i hi
  obtain rfl : i = 0 := by omega
  have hth := mod.there c.b0 c.th (pos - off) (by omega)
  rw [show off + (pos - off) = pos + 0 by omega] at hth
  exact hth)
 have e5 : ∀ ρ : Env, (#[(0, T 4)] : Array (Nat × Operand)).map (fun p => (p.1, ev ρ p.2)) = #[(0, ρ 4)] := fun ρ => by simp
 have hf0 := hI.h0
 show W P loc N' (.ops (lFn N Tt idx st (k.t N) q)) Q σ1 w1
 unfold lFn
 refine zn fun τ => ?_
 simp +decide (disch := omega) only [bK, bE, Nat.reduceBeqDiff, BEq.rfl, Nat.reduceAdd, Nat.add_zero, Nat.zero_add, f3, h5, hT.run, hS.run_load1 rfl, hcell1, hf0.run, B.int64.run_load1 rfl, x0, hcv, e5, hbs, happ, hsto]
 refine zd (K := fun σ' w' => Q .normal σ' w') fun σ9 hσ => ?_
 have e : ∀ k, σ9 k = σ1 k := fun k => by
  rw [hσ k]
  simp +decide (disch := omega) only [zjr, envOf_var]
 have hval' : Rep w1 (GN (GS wS) w1.heap.size w1.heap.size) vals[j] [k.ofN x] := by
  rw [hval]
  show Rep w1 _ (.num (k.ofN x)) [k.ofN x]
  simp only [Rep]
  rw [zcn hcs]
 refine hQ σ9 w9 (by rw [e, hag _ (by omega)]; exact hj) ?_
 exact ArS.next c (fun i hi => by rw [e, hag _ (by have : i < 4 := hi; omega)]; exact ag i hi) hq (by rw [e, hag _ (by omega)]; exact hL) (by rw [e, hag _ (by omega)]; exact hn) hjL hjv mod lo0 lo1 hr hrep hp hnn hO hsz hon m9 c9 ho9 (by show 1 = k.sz; rw [hone]) (by intro c hc; simp at hc; rw [hc]; exact hcs) (tr1 hel) (tr2 hval')
theorem elF_of (B : Base P N) (hI : zct P N N.zaa N.zcr N.zbh N.zbt) {e : El} (ho : e.fok P N mf m) : ElF P N mf m e := by
 cases e with
 | pr k => exact elF_pr B hI ho
 | txt k => exact ho.elim
 | row T' pT df fs =>
  cases m with
  | fill => exact zvs B hI ho
  | mk => exact elF_row_mk B hI ho
theorem mid_make (B : Base P N) (hI : zct P N N.zaa N.zcr N.zbh N.zbt) (F : TrF P N) {st et sz by' : Nat} {d : TypeDesc} {z : Value} (hS : TI P st (.slice et) 1 24 (.slice none 0 0)) (ht : TI P et d sz by' z) (hz : z.cells.size = sz) (hby : by' ≤ 128) {x : Nat} (hx : x < 50) {wS : World} {cx : List Value} {tx : Tr} (hl : tx.l.length ≤ 1048576) :
  MidR P [⟨some (x + 1), .field N.zaa (T x) 3, 0, none, []⟩, ⟨some (x + 2), .call ⟨.builtin .len, #[T (x + 1)], #[N.zbh]⟩, N.ze, none, []⟩, ⟨some (x + 3), .makeSlice st (.const (.int .i64 0)) (T (x + 2)), 0, none, []⟩] x (x + 3) wS cx tx
   (fun w v w' => ∃ bl, v = .slice (some ⟨bl, 0, none⟩) 0 tx.l.length ∧ w.heap.size ≤ bl ∧ bl < w'.heap.size ∧ w'.there bl 0 (tx.l.length * sz)) := by
 intro ρ w K mS hr hρ hK
 obtain ⟨vs, vl, vu, hcx, _, h2, _⟩ := hr.out
 have hf3 : (Instr.field N.zaa (.agg cx.toArray) 3).run P w = .ok vl w := F.f3.run (by rw [hcx]; rfl)
 have hln : (Builtin.len_ #[N.zbh] N.ze #[vl]).run P w = .ok (.int .i64 tx.l.length) w := by
  rcases h2 with ⟨ad, c, e, e2⟩ | ⟨b, o, c, css, e, _⟩
  ·rw [e, e2]; exact hI.lt.run_len
  ·rw [e]; exact hI.lt.run_len
 obtain ⟨i, hi, hsz, hbytes, hzero⟩ := ht.info
 have hmk := run_make (P := P) w st et i z hS.und hi hzero .i64 .i64 0 tx.l.length (by decide) (by omega) (by
  rw [hbytes]
  have : (by' : Int) * (tx.l.length : Int) ≤ 128 * 1048576 := Int.mul_le_mul (by omega) (by omega) (by omega) (by decide)
  omega) (by omega)
 show zbk P _ ρ w _
 rw [zgi, ev_tmp, hρ, hf3, stepV_ok]
 show zbk P _ _ w _
 rw [ztg, ev_tmp, zgy, hln, stepV_ok]
 show zbk P _ _ w _
 rw [zjq, ev_const, ev_tmp, zgy, hmk, stepV_ok]
 have s1 : (w.alloc (.cells (madeCells z.cells ((tx.l.length : Int).toNat * i.size)) et)).heap.size = w.heap.size + 1 := zae _ _
 refine hK _ _ (.slice (some ⟨w.heap.size, 0, none⟩) 0 tx.l.length) (fun t ht => by rw [zft (by omega), zft (by omega), zft (by omega)]) zgy (Mod.alloc _ _ _) ⟨w.heap.size, rfl, Nat.le_refl _, by rw [s1]; omega, ?_⟩
 have := zbe w (madeCells z.cells ((tx.l.length : Int).toNat * i.size)) et
 rw [size_madeCells] at this
 rw [hsz] at this ⊢
 simpa using this
theorem tyF_arr (B : Base P N) (S : SpT P N M) (hI : zct P N N.zaa N.zcr N.zbh N.zbt) (F : TrF P N) (G : SMg P N M L) {st : Nat} {nul : Option Int} {e : El} (ho : (Ty.arr st nul e).fok P N L mf m) : TyF P N L mf m (.arr st nul e) := by
 intro wS w0 w bT b off n pos idx i q kk Tt ct t σ0 σ vs rest loc N' Q hlo c hb h hT hq hQ
 obtain ⟨hS, hE, hs0, hsm, hfe⟩ := ho
 obtain ⟨d, by', z, ht, hz, hby⟩ := hE
 have hbt := hb.at i
 have hll : (atT t i).l.length ≤ 1048576 := ((zgh _).1 hbt).2.2.1
 obtain ⟨rT, mS⟩ := h.trw c
 have hlen := c.rep.len
 have hwS := c.mS.size
 have ftv : ∀ {σ' : Env}, Ag m.q0 σ0 σ' → σ' m.tv = .pointer (some ⟨bT, 0, none⟩) := fun a => by rw [a m.tv (by cases m <;> decide)]; exact c.tv
 have htq : m.tv < q := by
  have : m.tv < m.q0 := by cases m <;> decide
  omega
 unfold Ty.fgen cFarr
 refine zf fun K hK => zn fun τ => ?_
 have f1 := ftv h.ag
 simp +decide (disch := omega) only [bK, bE, BEq.rfl, f1, hI.loadT rT hlen]
 rw [zah G.at_.has]
 simp +decide only [bK, bE, BEq.rfl]
 refine (zqb B S hI G mS c.rep i).mono ?_
 rintro _ w1 ⟨cx, rfl, hx, m1⟩
 obtain ⟨vs1, vl1, vu1, hcx, _, hvl, _⟩ := hx.out
 have hf2 : ∀ {w : World}, (Instr.field N.zaa (.agg cx.toArray) 2).run P w = .ok (.bool (atT t i).nl) w := F.f2.run (by rw [hcx]; rfl)
 have hf3 : ∀ {w : World}, (Instr.field N.zaa (.agg cx.toArray) 3).run P w = .ok vl1 w := F.f3.run (by rw [hcx]; rfl)
 simp +decide (disch := omega) only [bK, hf2]
 refine hK _ _ (zd fun σ1 hσ => ?_)
 have a1 : ∀ j, j ≠ q → σ1 j = σ j := fun j hj => by
  rw [hσ j]
  have e1 : (j + 100 == q + 100) = false := beq_eq_false_iff_ne.2 (by omega)
  simp +decide (disch := omega) only [bE, Nat.reduceBeqDiff, e1]
 have aq : σ1 q = .bool (!(atT t i).nl) := by
  rw [hσ q]
  simp +decide (disch := omega) only [bE, BEq.rfl]
 clear hσ hK K
 have h1 : FSt m wS w0 b off n σ0 vs pos ((Ty.arr st nul e).zero ++ rest) σ1 w1 := (h.stay hwS c.b0 m1).agr fun j hj => a1 j (by omega)
 refine W_if hlo aq ?_
 cases hnl : (atT t i).nl with
 | true =>
  simp only [Bool.not_true, Bool.false_eq_true, if_false]
  refine zbv (hQ _ _ ?_)
  have := FSt.skip (x := .nilA) h1 (by show Rep w1 _ .nilA [.slice none 0 0]; simp only [Rep])
  have e1 : (Ty.arr st nul e).ofT (atT t i) = .nilA := by simp only [Ty.ofT, hnl, if_true]
  rw [e1]; exact this
 | false =>
  simp only [Bool.not_false, if_true]
  have e1 : (Ty.arr st nul e).ofT (atT t i) = .arr e.sz ((atT t i).l.map e.ofT) := by simp only [Ty.ofT, hnl, Bool.false_eq_true, if_false]
  rw [e1] at hQ
  refine zf fun K hK => W_setR B S hI G c h1 hT hS rfl (fun cx => mid_make B hI F hS ht hz hby (FM.xlt m) hll) (by omega) (by have := FM.xlt m; omega) (fun wa v w' hv => ?_) fun wa v w2 cs ma hR m2 hc hl hth => hK _ _ ?_
  ·obtain ⟨bl, rfl, _⟩ := hv
   exact ⟨[.slice (some ⟨bl, 0, none⟩) 0 (atT t i).l.length], rfl, rfl, fun c hc => by simp at hc; rw [hc]; rfl⟩
  clear hK K
  obtain ⟨bl, rfl, hbl1, hbl2, hbth⟩ := hR
  have hcs : cs = [.slice (some ⟨bl, 0, none⟩) 0 (atT t i).l.length] := by simpa [Value.cells] using (congrArg Array.toList hc).symm
  subst hcs
  obtain ⟨u0, hu0⟩ : ∃ u, u = Value.slice (some ⟨bl, 0, none⟩) 0 (atT t i).l.length := ⟨_, rfl⟩
  rw [← hu0]
  obtain ⟨w3, hw3⟩ : ∃ w3, w3 = w2.setCells b pos [u0] := ⟨_, rfl⟩
  obtain ⟨ag, modA, css, hrA, hrep, hp, hn⟩ := h1.stay hwS c.b0 ma
  have hr := zh m2 hrA
  have mod : Mod w0 w2 (fun k o => k = b ∧ off ≤ o) := modA.trans m2 fun k o _ h => h.elim id fun h => h.elim
  have sa := ma.size
  have s2 := m2.size
  have m3 : Mod w2 w3 (fun k o => k = b ∧ o = pos) := by rw [hw3]; exact Mod.setCells _ _ _ fun _ j h1 h2 => ⟨rfl, by simp at h2; omega⟩
  have s3 : w3.heap.size = w2.heap.size := by rw [hw3]; exact zco _ _ _
  have hb0 := c.b0
  have hbS := c.bS
  have s01 := (h1.mod).size
  have c3 : w3.cell? ⟨b, pos, none⟩ = some u0 := by
   have := (hth 0 (by decide)).1
   obtain ⟨x, hx⟩ := Option.isSome_iff_exists.1 this
   rw [hw3]
   exact World.cell?_setCell_same _ _ _ hx
  rw [← hw3]
  clear hw3
  have mod3 : Mod w0 w3 (fun k o => k = b ∧ off ≤ o) := mod.trans m3 fun k o _ h => h.elim id fun h => ⟨h.1, by omega⟩
  have mS3 : Mod wS w3 zw := c.mS.fresh mod3 fun k o e => by have := e.1; omega
  have rT3 : w3.rangeAt bT 0 ct := mod3.rangeAt c.lT (fun _ _ _ e => c.ne e.1) c.tr
  refine zf fun K hK => zn fun τ => ?_
  have f2 := ftv h1.ag
  simp +decide (disch := omega) only [bK, bE, BEq.rfl, f2, hI.loadT rT3 hlen]
  rw [zah G.at_.has]
  simp +decide only [bK, bE, BEq.rfl]
  refine (zqb B S hI G mS3 c.rep i).mono ?_
  rintro _ w4 ⟨cx', rfl, hx', m4⟩
  obtain ⟨vs2, vL, vu2, hcx', _, hvL, _⟩ := hx'.out
  have hf3' : ∀ {w : World}, (Instr.field N.zaa (.agg cx'.toArray) 3).run P w = .ok vL w := F.f3.run (by rw [hcx']; rfl)
  have hln : ∀ {w : World}, (Builtin.len_ #[N.zbh] N.ze #[vL]).run P w = .ok (.int .i64 (atT t i).l.length) w := fun {w} => by
   rcases hvL with ⟨ad, c, e, e2⟩ | ⟨b, o, c, css, e, _⟩
   ·rw [e, e2]; exact hI.lt.run_len
   ·rw [e]; exact hI.lt.run_len
  simp +decide (disch := omega) only [bK, hf3', hln]
  refine hK _ _ (zd fun σ3 hσ => ?_)
  have b1 : ∀ j, j < q + 1 → σ3 j = σ1 j := fun j hj => by
   rw [hσ j]
   have e1 : (j + 100 == q + 1 + 100) = false := beq_eq_false_iff_ne.2 (by omega)
   have e2 : (j + 100 == q + 2 + 100) = false := beq_eq_false_iff_ne.2 (by omega)
   have e3 : (j + 100 == q + 3 + 100) = false := beq_eq_false_iff_ne.2 (by omega)
   simp +decide (disch := omega) only [bE, Nat.reduceBeqDiff, e1, e2, e3]
  have bL : σ3 (q + 1) = vL := by
   rw [hσ (q + 1)]
   have e2 : (q + 1 + 100 == q + 2 + 100) = false := beq_eq_false_iff_ne.2 (by omega)
   have e3 : (q + 1 + 100 == q + 3 + 100) = false := beq_eq_false_iff_ne.2 (by omega)
   simp +decide (disch := omega) only [bE, BEq.rfl, e2, e3]
  have bn : σ3 (q + 2) = .int .i64 (atT t i).l.length := by
   rw [hσ (q + 2)]
   have e3 : (q + 2 + 100 == q + 3 + 100) = false := beq_eq_false_iff_ne.2 (by omega)
   simp +decide (disch := omega) only [bE, BEq.rfl, e3]
  have bj : σ3 (q + 3) = .int .i64 ((0 : Nat) : Int) := by
   rw [hσ (q + 3)]
   simp +decide (disch := omega) only [bE, BEq.rfl]
   rfl
  clear hσ hK K
  have s4 := m4.size
  have init : ArS m wS w0 b off n σ0 vs pos rest wa.heap.size q vL (atT t i).l.length e.sz ((atT t i).l.map e.ofT) 0 σ3 w4 := by
   have hr3 : w3.rangeAt b off (css.flatten ++ ([u0] ++ rest)) := by
    have hr' : w2.rangeAt b off (css.flatten ++ ([Value.slice none 0 0] ++ rest)) := hr
    rw [zx, hp] at hr' ⊢
    refine ⟨m3.rangeAt (by omega) (fun j h1 h2 e => by have := e.2; omega) hr'.1, (zx (cs := [u0]) (ds := rest)).2 ⟨zha.2 c3, m3.rangeAt (by omega) (fun j h1 h2 e => by have := e.2; simp at h1; omega) ((zx (cs := [Value.slice none 0 0]) (ds := rest)).1 hr'.2).2⟩⟩
   refine ⟨fun j hj => by rw [b1 j (by omega)]; exact h1.ag j hj, bL, bn, bj, Nat.zero_le _, mod3.trans m4 fun k o _ h => h.elim id fun h => h.elim, by omega, by omega, u0, css, [], zh m4 hr3, ?_, hp, ?_, ?_, ⟨bl, _, hu0⟩, fun x hx => by simp at hx, fun x hx => by simp at hx, by simp only [List.take_zero, RepL]⟩
   ·
    have mA4 : Mod wa w4 (fun k o => k = b ∧ o = pos) := ((m2.mono fun _ _ _ h => h.elim).trans' m3).trans' (m4.mono fun _ _ _ h => h.elim)
    refine RepL.mod mA4 (fun k hk => ⟨?_, fun o e => ?_, hk⟩) _ hrep
    ·rcases hk with hk | hk
     ·have hk : k < wS.heap.size := hk
      omega
     ·exact hk.2
    ·rcases hk with hk | hk
     ·have hk : k < wS.heap.size := hk
      omega
     ·have := hk.1; have := e.1; omega
   ·have : (Ty.arr st nul e).zero.length = 1 := rfl
    rw [List.length_append, this] at hn; omega
   ·rw [hu0]
    refine .inr ⟨bl, (atT t i).l.length, rfl, hbl1, by omega, Nat.zero_le _, ?_, fun j v hj => by simp at hj, by simp⟩
    exact m4.there (by omega) (m3.there (by omega) hbth)
  refine zgv hlo (L := (atT t i).l.length) (by omega) (fun j σ w => ArS m wS w0 b off n σ0 vs pos rest wa.heap.size q vL (atT t i).l.length e.sz ((atT t i).l.map e.ofT) j σ w) (fun j σ w h => ⟨h.hj, h.hn, h.le⟩) (fun j σ w bb h => h.agr hq fun i hi => zq (by omega)) init (fun σ' w' h => hQ _ _ (ArS.done c h (List.length_map _))) (fun j σ' w' hj h => ?_)
  have mSw' : Mod wS w' zw := c.mS.fresh h.mod fun k o e => by have := e.1; omega
  refine zf fun K hK => W_e1 hI mSw' h.hL h.hj hvL hj fun σ5 w5 cx5 hag5 h55 hx5 r5 m5 s5 => hK _ _ ?_
  have hjv : j < ((atT t i).l.map e.ofT).length := by rw [List.length_map]; exact hj
  refine elF_of B hI hfe c hT hS ⟨d, by', z, ht, hz, hby⟩ hs0 hsm hq (by omega) (by omega) (((zgh _).1 hbt).2.2.2.2.2 _ (List.getElem_mem hj)) h hj hjv (by rw [List.getElem_map]) hag5 h55 hx5 r5 m5 s5 fun σ6 w6 g1 g2 => ⟨g1, g2⟩
end
structure TgS (m : FM) (wS w0 : World) (b off n : Nat) (σ0 : Env) (vs : List Val) (pos : Nat) (rest : List Value) (lo q : Nat) (vu : Value) (u : List (Nat × List UInt8)) (j : Nat) (σ : Env) (w : World) : Prop where
 ag : Ag m.q0 σ0 σ
 hu : σ q = vu
 hn : σ (q + 1) = .int .i64 u.length
 hj : σ (q + 2) = .int .i64 j
 le : j ≤ u.length
 mod : Mod w0 w (fun k o => k = b ∧ off ≤ o)
 lo0 : w0.heap.size ≤ lo
 lo1 : lo ≤ w.heap.size
 ex : ∃ mv css, w.rangeAt b off (css.flatten ++ ([mv] ++ rest)) ∧ RepL w (GN (GS wS) w0.heap.size lo) vs css ∧ off + css.flatten.length = pos ∧ css.flatten.length + (1 + rest.length) = n ∧ zrj w (GS wS) lo mv (zmo (u.take j))
theorem zrj.tagsG {w : World} {G G' : Nat → Prop} {c : Nat} {v : Value} {l : List (Nat × List UInt8)} (h : zrj w G c v l) (hG : ∀ k, G k → G' k) (hn : ∀ k, c ≤ k → k < w.heap.size → G' k) : zoe w G' v l := by
 rcases h with h | ⟨m, es, ck, h1, h2, h3, h4, h5, h6, h7, h8⟩
 ·exact .inl h
 ·exact .inr ⟨m, es, ck, h1, hn m h2 h3, h4, h5, h6, h7.mono hG, h8⟩
theorem tputs_snoc (u : List (Nat × List UInt8)) {j : Nat} (hj : j < u.length) : zmo (u.take (j + 1)) = tput (zmo (u.take j)) u[j].1 u[j].2 := by
 unfold zmo
 rw [← List.take_append_getElem hj, List.foldl_append]; rfl
section
variable {P : Program} {N : Nums} {M : zaz} {L : zen} {mf : TypeId → FuncId} {m : FM}
theorem TgS.agr {wS w0 w : World} {b off n pos lo q j : Nat} {σ0 σ σ' : Env} {vs : List Val} {rest : List Value} {vu : Value} {u : List (Nat × List UInt8)} (h : TgS m wS w0 b off n σ0 vs pos rest lo q vu u j σ w) (hq : m.q0 ≤ q) (e : ∀ i, i < q + 3 → σ' i = σ i) : TgS m wS w0 b off n σ0 vs pos rest lo q vu u j σ' w :=
 ⟨fun i hi => (e i (by omega)).trans (h.ag i hi), (e _ (by omega)).trans h.hu, (e _ (by omega)).trans h.hn, (e _ (by omega)).trans h.hj, h.le, h.mod, h.lo0, h.lo1, h.ex⟩
theorem TgS.done {wS w0 w : World} {b off n pos lo q : Nat} {σ0 σ : Env} {vs : List Val} {rest : List Value} {vu : Value} {u : List (Nat × List UInt8)} (h : TgS m wS w0 b off n σ0 vs pos rest lo q vu u u.length σ w) : FSt m wS w0 b off n σ0 (vs ++ [.tags (zmo u)]) (pos + 1) rest σ w := by
 obtain ⟨ag, _, _, _, _, mod, lo0, lo1, mv, css, hr, hrep, hp, hn, ht⟩ := h
 rw [List.take_length] at ht
 refine ⟨ag, mod, css ++ [[mv]], ?_, RepL.append (RepL.mono (fun k hk => hk.imp id fun h => ⟨h.1, by have := h.2; omega⟩) _ hrep) ⟨[mv], [], rfl, ⟨mv, rfl, ht.tagsG (fun k h => .inl h) fun k h1 h2 => .inr ⟨by omega, h2⟩⟩, rfl⟩, ?_, ?_⟩
 ·rw [List.flatten_append, List.flatten_cons, List.flatten_nil, List.append_nil, List.append_assoc]; exact hr
 ·rw [List.flatten_append, List.length_append, List.flatten_cons, List.flatten_nil, List.append_nil, List.length_singleton]; omega
 ·rw [List.flatten_append, List.length_append, List.flatten_cons, List.flatten_nil, List.append_nil, List.length_singleton]; omega
theorem TgS.next {wS w0 w w9 : World} {bT b off n pos lo q j : Nat} {ct : List Value} {t : Tr} {σ0 σ' : Env} {vs : List Val} {rest : List Value} {vu mv mv' : Value} {u : List (Nat × List UInt8)} {css : List (List Value)} (c : FC P N m wS w0 bT ct t b off n σ0) (ag : Ag m.q0 σ0 σ') (hq : m.q0 ≤ q) (hu : σ' q = vu) (hn : σ' (q + 1) = .int .i64 u.length) (hj : j < u.length)
  (mod : Mod w0 w (fun k o => k = b ∧ off ≤ o)) (lo0 : w0.heap.size ≤ lo) (lo1 : lo ≤ w.heap.size) (hr : w.rangeAt b off (css.flatten ++ ([mv] ++ rest))) (hrep : RepL w (GN (GS wS) w0.heap.size lo) vs css) (hp : off + css.flatten.length = pos) (hnn : css.flatten.length + (1 + rest.length) = n)
  (m9 : Mod w w9 (fun k o => (k = b ∧ o = pos) ∨ lo ≤ k)) (c9 : w9.cell? ⟨b, pos, none⟩ = some mv') (htg : zrj w9 (GS wS) lo mv' (zmo (u.take (j + 1)))) :
  TgS m wS w0 b off n σ0 vs pos rest lo q vu u (j + 1) (upd σ' (q + 2) (.int .i64 ((j + 1 : Nat) : Int))) w9 := by
 have hb0 := c.b0
 have hbS := c.bS
 have s9 := m9.size
 have s0 := mod.size
 rw [zx, hp] at hr
 refine ⟨fun i hi => by rw [zq (by omega)]; exact ag i hi, by rw [zq (by omega)]; exact hu, by rw [zq (by omega)]; exact hn, upd_same _ _ _, hj, mod.trans m9 fun k o hk h => h.elim id fun h => h.elim (fun h => ⟨h.1, by have := h.2; omega⟩) fun h => by omega, lo0, by omega, mv', css, ?_, ?_, hp, hnn, htg⟩
 ·rw [zx, hp]
  refine ⟨m9.rangeAt (by omega) (fun i h1 h2 h => by
   rcases h with h | h
   ·have := h.2; omega
   ·omega) hr.1, ?_⟩
  refine (zx (cs := [mv']) (ds := rest)).2 ⟨zha.2 c9, m9.rangeAt (by omega) (fun i h1 h2 h => by
   simp at h1
   rcases h with h | h
   ·have := h.2; omega
   ·omega) ((zx (cs := [mv]) (ds := rest)).1 hr.2).2⟩
 ·refine RepL.mod m9 (fun k hk => ⟨?_, fun o h => ?_, hk⟩) _ hrep
  ·rcases hk with hk | hk
   ·have hk : k < wS.heap.size := hk
    omega
   ·have := hk.2; omega
  ·rcases hk with hk | hk
   ·have hk : k < wS.heap.size := hk
    rcases h with h | h
    ·have := h.1; omega
    ·omega
   ·have := hk.1
    have := hk.2
    rcases h with h | h
    ·have := h.1; omega
    ·omega
theorem fg_reg (B : Base P N) (Fn : Fns P N) (hI : zct P N N.zaa N.zcr N.zbh N.zbt) (G : SMg P N M L) {wS w0 w w1 : World} {bT b off n pos idx lo q j : Nat} {Tt : TypeId} {ct : List Value} {t : Tr} {σ0 σ σ1 : Env} {vs : List Val} {rest : List Value} {vu s : Value} {u : List (Nat × List UInt8)} {loc : List Nat} {N' : Nat} {Q : Exit → Env → World → Prop}
  (c : FC P N m wS w0 bT ct t b off n σ0) (hT : HF P Tt idx pos) (hq : m.q0 ≤ q) (hblo : b < lo) (h : TgS m wS w0 b off n σ0 vs pos rest lo q vu u j σ w) (hj : j < u.length) (hk : (u[j]).1 < 4294967296) (hs : OctA wS s (u[j]).2) (hag : ∀ i, i ≠ q + 4 → σ1 i = σ i) (h5 : σ1 (q + 4) = .pointer (some ⟨w.heap.size, 0, none⟩)) (r1 : w1.rangeAt w.heap.size 0 [.int .u32 (u[j]).1, s]) (m1 : Mod w w1 zw)
  (hQ : ∀ σ' w', σ' (q + 2) = .int .i64 j → TgS m wS w0 b off n σ0 vs pos rest lo q vu u (j + 1) (upd σ' (q + 2) (.int .i64 ((j + 1 : Nat) : Int))) w' → Q .normal σ' w') : W P loc N' (lFg N m Tt idx q) Q σ1 w1 := by
 obtain ⟨ag, hu, hn, hjj, le, mod, lo0, lo1, mv, css, hr, hrep, hp, hnn, htg⟩ := h
 obtain ⟨hN, hNT⟩ := G.set
 have hb0 := c.b0
 have hbS := c.bS
 have s0 := mod.size
 have s1 := m1.size
 have mSw : Mod wS w zw := c.mS.fresh mod fun k o e => by have := e.1; omega
 have hcell : w.cell? ⟨b, pos, none⟩ = some mv := by
  rw [zx, hp] at hr
  exact hr.2 0 mv rfl
 have hth : w.there b pos 1 := by
  intro i hi
  obtain rfl : i = 0 := by omega
  have hth := mod.there c.b0 c.th (pos - off) (by omega)
  rw [show off + (pos - off) = pos + 0 by omega] at hth
  exact hth
 have k0 : ∀ {w' : World}, w'.rangeAt w.heap.size 0 [.int .u32 (u[j]).1, s] → w'.cell? ⟨w.heap.size, 0, none⟩ = some (.int .u32 (u[j]).1) ∧ w'.cell? ⟨w.heap.size, 1, none⟩ = some s := fun h => ⟨h 0 _ rfl, h 1 _ rfl⟩
 have call : ∀ {w2 : World} {Rt : Value → World → Prop}, Mod w w2 zw → (∀ v w9 mv', Mod w w9 (fun k o => (k = b ∧ o = pos) ∨ lo ≤ k) → w9.cell? ⟨b, pos, none⟩ = some mv' → zrj w9 (GS wS) lo mv' (zmo (u.take (j + 1))) → Rt v w9) → Call P N.zdn #[.pointer (some ⟨b, pos, none⟩), .int .u32 (u[j]).1, s] w2 Rt := by
  intro w2 Rt m2 hK
  have s2 := m2.size
  have htg2 : zrj w2 (GS wS) lo mv (zmo (u.take j)) := by
   rcases htg with h | ⟨mm, es, ck, e1, e2, e3, e4, e5, e6, e7, e8⟩
   ·exact .inl h
   ·refine .inr ⟨mm, es, ck, e1, e2, by omega, by rw [m2.block mm e3 fun _ h => h]; exact e4, e5, e6, e7.mod m2 fun k hk => ⟨?_, fun _ h => h, hk⟩, e8⟩
    have hk : k < wS.heap.size := hk
    omega
  refine (call_SetO B Fn hN hNT (G := GS wS) (c := lo) (q := pos) (vl := (u[j]).2) (by rw [m2.cell _ _ (by omega) fun h => h]; exact hcell) (m2.there (by omega) hth) htg2 hblo (by omega) (fun i hi => by have hi : i < wS.heap.size := hi; omega) (hs.tagS (mSw.trans' m2) fun k h => h) hk).mono ?_
  rintro v9 w9 ⟨mv', h1, _, h3, h4⟩
  exact hK v9 w9 mv' (m2.trans h4 fun k o _ h => h.elim False.elim id) h1 (by rw [tputs_snoc u hj]; exact h3)
 have fin : ∀ {σ9 : Env} {w9 : World} {mv' : Value}, (∀ k, σ9 k = σ1 k) → Mod w w9 (fun k o => (k = b ∧ o = pos) ∨ lo ≤ k) → w9.cell? ⟨b, pos, none⟩ = some mv' → zrj w9 (GS wS) lo mv' (zmo (u.take (j + 1))) → Q .normal σ9 w9 := by
  intro σ9 w9 mv' e m9 c9 t9
  refine hQ σ9 w9 (by rw [e, hag _ (by omega)]; exact hjj) ?_
  exact TgS.next c (fun i hi => by rw [e, hag _ (by omega)]; exact ag i hi) hq (by rw [e, hag _ (by omega)]; exact hu) (by rw [e, hag _ (by omega)]; exact hn) hj mod lo0 lo1 hr hrep hp hnn m9 c9 t9
 cases m with
 | mk =>
  have hq4 : 4 ≤ q := hq
  have f3 : σ1 3 = .pointer (some ⟨b, 0, none⟩) := by rw [hag 3 (by omega), ag 3 (by decide)]; exact c.sv
  obtain ⟨c0, c1⟩ := k0 r1
  unfold lFg
  refine zn fun τ => ?_
  simp +decide (disch := omega) only [bK, bE, Nat.reduceBeqDiff, BEq.rfl, Nat.reduceAdd, Nat.add_zero, Nat.zero_add, f3, h5, hT.run, hI.g0.run, hI.g1.run, B.uint32.run_load1 rfl, B.Lu8.run_load1 rfl, c0, c1]
  rw [zdy (Fn.PTags_Set hN).has]
  simp +decide only [bK, bE, Nat.reduceBeqDiff, BEq.rfl]
  refine call m1 fun v9 w9 mv' m9 c9 t9 => ?_
  refine zd (K := fun σ' w' => Q .normal σ' w') fun σ9 hσ => fin (fun k => ?_) m9 c9 t9
  rw [hσ k]
  simp +decide (disch := omega) only [zjr, envOf_var]
 | fill =>
  have hq3 : 3 ≤ q := hq
  obtain ⟨q', rfl⟩ : ∃ q', q = q' + 2 := ⟨q - 2, by omega⟩
  have f0 : σ1 0 = .pointer (some ⟨b, 0, none⟩) := by rw [hag 0 (by omega), ag 0 (by decide)]; exact c.sv
  have md : Mod w w1.drew zw := m1.trans' (Mod.drew _ _)
  show W P loc N' (.draw [⟨some 0, .move (V 0), 0, none, []⟩, ⟨some 1, .nilCheck (T 0), 0, none, [0]⟩, ⟨some 2, .fieldAddr Tt (T 1) idx, 0, none, [1]⟩, ⟨some 3, .fieldAddr N.zcr (V (q' + 2 + 4)) 0, 0, none, []⟩, ⟨some 4, .load N.zc (T 3), 0, none, [3]⟩, ⟨some 5, .fieldAddr N.zcr (V (q' + 2 + 4)) 1, 0, none, []⟩, ⟨some 6, .load N.za (T 5), 0, none, [5]⟩,
   ⟨some 7, .call ⟨.value (.func N.zdn), #[T 2, T 4, T 6], #[N.zcq, N.zc, N.za]⟩, N.t_, none, [2, 4, 6]⟩]) Q σ1 w1
  refine zul B.mixed [true, true, true, true, true, true, true, false] rfl (ztq (l0 := [⟨some 0, .move (V 0), 0, none, []⟩, ⟨some 1, .nilCheck (T 0), 0, none, [0]⟩, ⟨some 2, .fieldAddr Tt (T 1) idx, 0, none, [1]⟩, ⟨some 3, .fieldAddr N.zcr (V 6) 0, 0, none, []⟩, ⟨some 4, .load N.zc (T 3), 0, none, [3]⟩, ⟨some 5, .fieldAddr N.zcr (V 6) 1, 0, none, []⟩, ⟨some 6, .load N.za (T 5), 0, none, [5]⟩,
   ⟨some 7, .call ⟨.value (.func N.zdn), #[T 2, T 4, T 6], #[N.zcq, N.zc, N.za]⟩, N.t_, none, [2, 4, 6]⟩]) q' (by kernel_rfl) rfl) (fun w' => w'.rangeAt w.heap.size 0 [.int .u32 (u[j]).1, s]) (zh (Mod.drew _ _) r1) fun τ => ?_
  have e0 : zia σ1 τ 100 = .pointer (some ⟨b, 0, none⟩) := by rw [← f0]; exact envOf_var σ1 τ 0
  have e5 : zia σ1 τ (q' + 2 + 4 + 100) = .pointer (some ⟨w.heap.size, 0, none⟩) := by rw [← h5]; exact envOf_var σ1 τ (q' + 2 + 4)
  refine zp (.pointer (some ⟨b, 0, none⟩)) (fun w' _ => by rw [zby, ev_tmp, e0]) rfl ?_
  refine zp (.pointer (some ⟨b, 0, none⟩)) (fun w' hw => rfl) rfl ?_
  refine zp (.pointer (some ⟨b, pos, none⟩)) (fun w' _ => zap (by simp +decide only [bE, BEq.rfl, Nat.zero_add, ev_tmp, hT.run])) rfl ?_
  refine zp (.pointer (some ⟨w.heap.size, 0, none⟩)) (fun w' hw => zap (by simp +decide (disch := omega) only [ev_tmp, zjr, e5, hI.g0.run, Nat.zero_add])) rfl ?_
  refine zp (.int .u32 (u[j]).1) (fun w' hw => zap (by simp +decide only [bE, BEq.rfl, ev_tmp, B.uint32.run_load1 rfl, (k0 hw).1, ldc_some])) rfl ?_
  refine zp (.pointer (some ⟨w.heap.size, 1, none⟩)) (fun w' hw => zap (by simp +decide (disch := omega) only [ev_tmp, zjr, e5, hI.g1.run, Nat.zero_add])) rfl ?_
  refine zp s (fun w' hw => zap (by simp +decide only [bE, BEq.rfl, ev_tmp, B.Lu8.run_load1 rfl, (k0 hw).2, ldc_some])) rfl ?_
  simp only []
  show anyC P _ _ _ _ [7].length [7] _ _
  refine zgu _ _ _ (by kernel_rfl) (by decide) (fun k hk => by simp at hk; subst hk; kernel_rfl) ?_
  simp only [List.map, List.getD_cons_zero, List.getD_cons_succ, zgq]
  rw [zdy (Fn.PTags_Set hN).has]
  simp +decide only [bK, bE, Nat.reduceBeqDiff, BEq.rfl]
  refine call md fun v9 w9 mv' m9 c9 t9 => ?_
  refine zd (K := fun σ' w' => Q .normal σ' w') fun σ9 hσ => fin (fun k => ?_) m9 c9 t9
  rw [hσ k]
  simp +decide (disch := omega) only [zjr, envOf_var]
end
section
variable (P : Program) (N : Nums) (L : zen) (mf : TypeId → FuncId) (m : FM)
def FdsF (fs : Fds) : Prop := ∀ {wS w0 w : World} {bT b off n pos idx i q k : Nat} {Tt : TypeId} {ct : List Value} {t : Tr} {σ0 σ : Env} {vs : List Val} {rest : List Value} {loc : List Nat} {N' : Nat} {Q : Exit → Env → World → Prop} {tl : List C},
 zhy loc N' → FC P N m wS w0 bT ct t b off n σ0 → bdT t → FSt m wS w0 b off n σ0 vs pos (fs.zero ++ rest) σ w → fs.hf P Tt idx pos → m.q0 ≤ q →
 (∀ σ' w', FSt m wS w0 b off n σ0 (vs ++ fs.ofT i t) (pos + fs.sz) rest σ' w' → WL P loc N' tl Q σ' w') → WL P loc N' (fs.fgen N L mf m Tt idx i q k ++ tl) Q σ w
def Fds.fok : Fds → Prop
 | .cons _ ty r => ty.fok P N L mf m ∧ r.fok
 | _ => True
end
section
variable {P : Program} {N : Nums} {M : zaz} {L : zen} {mf : TypeId → FuncId} {m : FM}
theorem fdsF_tags (B : Base P N) (Fn : Fns P N) (S : SpT P N M) (hI : zct P N N.zaa N.zcr N.zbh N.zbt) (G : SMg P N M L) : FdsF P N L mf m .tags := by
 intro wS w0 w bT b off n pos idx i q kk Tt ct t σ0 σ vs rest loc N' Q tl hlo c hb h hT hq hQ
 have hT : HF P Tt idx pos := hT
 obtain ⟨rT, mS⟩ := h.trw c
 obtain ⟨fs, hti⟩ := hI.tu
 obtain ⟨tvs, tvl, vu, hct, _, _, hU⟩ := c.rep.out
 have hwS := c.mS.size
 have hb0 := c.b0
 have f1 : σ m.tv = .pointer (some ⟨bT, 0, none⟩) := by rw [h.ag m.tv (by cases m <;> decide)]; exact c.tv
 have htq : m.tv < q := by
  have : m.tv < m.q0 := by cases m <;> decide
  omega
 have c4 : w.cell? ⟨bT, 4, none⟩ = some vu := rT 4 _ (by rw [hct]; rfl)
 have hul : t.u.length ≤ 1048576 := ((zgh _).1 hb).2.2.2.1
 have hln : ∀ {w : World}, (Builtin.len_ #[N.zbt] N.ze #[vu]).run P w = .ok (.int .i64 t.u.length) w := fun {w} => by
  rcases hU with ⟨ad, c, e, e2⟩ | ⟨b, o, c, css, e, _⟩
  ·rw [e, e2]; exact hI.lg.run_len
  ·rw [e]; exact hI.lg.run_len
 rw [Fds.fgen]
 refine WL_one ?_
 unfold cFtag
 refine zf fun K hK => zn fun τ => ?_
 simp +decide (disch := omega) only [bK, bE, BEq.rfl, Nat.zero_add, f1, hI.h4.run, hI.lg.run_load1 rfl, c4, hln]
 refine hK _ _ (zd fun σ1 hσ => ?_)
 have a1 : ∀ j, j < q → σ1 j = σ j := fun j hj => by
  rw [hσ j]
  have e1 : (j + 100 == q + 100) = false := beq_eq_false_iff_ne.2 (by omega)
  have e2 : (j + 100 == q + 1 + 100) = false := beq_eq_false_iff_ne.2 (by omega)
  have e3 : (j + 100 == q + 2 + 100) = false := beq_eq_false_iff_ne.2 (by omega)
  simp +decide (disch := omega) only [bE, Nat.reduceBeqDiff, e1, e2, e3]
 have aq : σ1 q = vu := by
  rw [hσ q]
  have e2 : (q + 100 == q + 1 + 100) = false := beq_eq_false_iff_ne.2 (by omega)
  have e3 : (q + 100 == q + 2 + 100) = false := beq_eq_false_iff_ne.2 (by omega)
  simp +decide (disch := omega) only [bE, BEq.rfl, e2, e3]
 have an : σ1 (q + 1) = .int .i64 t.u.length := by
  rw [hσ (q + 1)]
  have e3 : (q + 1 + 100 == q + 2 + 100) = false := beq_eq_false_iff_ne.2 (by omega)
  simp +decide (disch := omega) only [bE, BEq.rfl, e3]
 have aj : σ1 (q + 2) = .int .i64 ((0 : Nat) : Int) := by
  rw [hσ (q + 2)]
  simp +decide (disch := omega) only [bE, BEq.rfl]
  rfl
 clear hσ hK K
 have hs := h.mod.size
 obtain ⟨ag, mod, css, hr, hrep, hp, hn⟩ := h
 refine zgv hlo (L := t.u.length) (by omega) (fun j σ w' => TgS m wS w0 b off n σ0 vs pos rest w.heap.size q vu t.u j σ w') (fun j σ w h => ⟨h.hj, h.hn, h.le⟩) (fun j σ w bb h => h.agr hq fun i hi => zq (by omega)) ?_ (fun σ' w' h => hQ _ _ h.done) (fun j σ' w' hj h => ?_)
 ·refine ⟨fun j hj => by rw [a1 j (by omega)]; exact ag j hj, aq, an, aj, Nat.zero_le _, mod, hs, Nat.le_refl _, .map none, css, hr, hrep, hp, ?_, .inl ⟨rfl, rfl⟩⟩
  rw [List.length_append] at hn
  exact hn
 ·have mSw' : Mod wS w' zw := c.mS.fresh h.mod fun k o e => by have := e.1; have := c.bS; omega
  obtain ⟨bb, oo, cc, s, hvb, hs1, hr1⟩ := hU.get (List.getElem?_eq_getElem hj)
  have hr' := zh mSw' hr1
  have hix := fun {w : World} => zbf (P := P) (w := w) hI.lg hti (bl := bb) (o := oo) (n := t.u.length) (c := cc) (i := j) (k := .i64) hj
  have hld := hti.run_load (w := w') (b := bb) (o := oo + j * 2) hr' rfl (fun h => by cases h)
  have hlv : ldv (.struct fs) [.int .u32 (t.u[j]).1, s] = .agg [.int .u32 (t.u[j]).1, s].toArray := rfl
  rw [hlv] at hld
  obtain ⟨wa, w5, hal, hst, _, m5, s5, r5, _⟩ := zgs (cs := [.int .u32 (t.u[j]).1, s]) hti (by decide) rfl rfl (by
   intro c hc; simp at hc; rcases hc with rfl | rfl
   ·rfl
   ·exact hs1.one) w'
  have hu := h.hu
  have hjj := h.hj
  refine zf fun K hK => zn fun τ => ?_
  simp +decide (disch := omega) only [bK, bE, Nat.reduceBeqDiff, BEq.rfl, hu, hjj]
  rw [hvb]
  simp +decide (disch := omega) only [bK, hix, hld, hal, hst]
  refine hK _ _ (zd fun σ5 hσ => ?_)
  have b1 : ∀ i, i ≠ q + 4 → σ5 i = σ' i := fun i hi => by
   rw [hσ i]
   have e1 : (i + 100 == q + 4 + 100) = false := beq_eq_false_iff_ne.2 (by omega)
   simp +decide (disch := omega) only [bE, Nat.reduceBeqDiff, e1]
  have b5 : σ5 (q + 4) = .pointer (some ⟨w'.heap.size, 0, none⟩) := by
   rw [hσ (q + 4)]
   simp +decide (disch := omega) only [bE, BEq.rfl]
  clear hσ hK K
  exact fg_reg B Fn hI G c hT hq (by omega) h hj (((zgh _).1 hb).2.2.2.2.1 _ (List.getElem_mem hj)).1 hs1 b1 b5 r5 m5 fun σ6 w6 g1 g2 => ⟨g1, g2⟩
theorem tyF_of (B : Base P N) (S : SpT P N M) (hI : zct P N N.zaa N.zcr N.zbh N.zbt) (F : TrF P N) (G : SMg P N M L) : ∀ (ty : Ty), ty.fok P N L mf m → TyF P N L mf m ty
 | .pr k d, h => tyF_pr B S hI F G h
 | .txt k, h => tyF_txt B S hI F G h
 | .tv k, h => tyF_tv B S hI F G h
 | .arr st nul e, h => tyF_arr B S hI F G h
 | .row .., h => h.elim
theorem fdsF_nil : FdsF P N L mf m .nil := by
 intro wS w0 w bT b off n pos idx i q kk Tt ct t σ0 σ vs rest loc N' Q tl hlo c hb h hT hq hQ
 refine hQ σ w ?_
 rw [show Fds.ofT .nil i t = [] from rfl, List.append_nil]
 exact h
theorem fdsF_cons {g : Gd} {ty : Ty} {r : Fds} (h1 : TyF P N L mf m ty) (h2 : FdsF P N L mf m r) : FdsF P N L mf m (.cons g ty r) := by
 intro wS w0 w bT b off n pos idx i q kk Tt ct t σ0 σ vs rest loc N' Q tl hlo c hb h hT hq hQ
 rw [Fds.fgen, List.cons_append]
 have h' : FSt m wS w0 b off n σ0 vs pos (ty.zero ++ (r.zero ++ rest)) σ w := by rw [← List.append_assoc]; exact h
 refine WL_one (h1 hlo c hb h' hT.1 hq fun σ' w' h3 => ?_)
 refine h2 hlo c hb h3 hT.2 (by omega) fun σ3 w3 h4 => hQ σ3 w3 ?_
 rw [show Fds.ofT (.cons g ty r) i t = ty.ofT (atT t i) :: r.ofT (i + 1) t from rfl, show (Fds.cons g ty r).sz = ty.sz + r.sz from rfl, ← Nat.add_assoc]
 rw [List.append_assoc] at h4
 exact h4
theorem zxs (B : Base P N) (Fn : Fns P N) (S : SpT P N M) (hI : zct P N N.zaa N.zcr N.zbh N.zbt) (F : TrF P N) (G : SMg P N M L) : ∀ (fs : Fds), fs.fok P N L mf m → FdsF P N L mf m fs
 | .nil, _ => fdsF_nil
 | .tags, _ => fdsF_tags B Fn S hI G
 | .cons g ty r, ho => fdsF_cons (tyF_of B S hI F G ty ho.1) (zxs B Fn S hI F G r ho.2)
theorem mkRow_of (B : Base P N) (Fn : Fns P N) (S : SpT P N M) (hI : zct P N N.zaa N.zcr N.zbh N.zbt) (F : TrF P N) (G : SMg P N M L) {f T' by' : Nat} {fs : Fds} {fds : Array Field} (ho : fs.fok P N L mf .mk) (hF : FOk P f 1 (fs.mkC N L mf T') [.cell 2 T']) (ht : TI P T' (.struct fds) fs.sz by' (.agg fs.zero.toArray)) (hhf : fs.hf P T' 0 0) (hz1 : ∀ c ∈ fs.zero, c.oneCell' = true) : MkRow P f fs := by
 intro wS w t ct mS hr hb
 have hzl : fs.zero.length = fs.sz := Fds.zero_length fs
 refine hF.call rfl fun loc N' hlo => ?_
 unfold Fds.mkC
 simp only [List.cons_append, List.nil_append]
 refine zif (by simp) ?_
 obtain ⟨w1, hw1⟩ : ∃ w1, w1 = w.alloc (.cells (Value.cells (.agg ct.toArray)) N.zaa) := ⟨_, rfl⟩
 have m1 : Mod w w1 zw := by rw [hw1]; exact Mod.alloc _ _ _
 have s1 : w1.heap.size = w.heap.size + 1 := by rw [hw1]; exact zae _ _
 have r1 : w1.rangeAt w.heap.size 0 ct := by rw [hw1]; exact zu w _ _ _
 obtain ⟨w2, hw2⟩ : ∃ w2, w2 = w1.alloc (.cells (Value.cells (.agg fs.zero.toArray)) T') := ⟨_, rfl⟩
 have hal2 := ht.run_alloc (w := w1) (.tuple #[])
 have m2 : Mod w1 w2 zw := by rw [hw2]; exact Mod.alloc _ _ _
 have s2 : w2.heap.size = w1.heap.size + 1 := by rw [hw2]; exact zae _ _
 have r2 : w2.rangeAt w1.heap.size 0 fs.zero := by rw [hw2]; exact zu w1 fs.zero.toArray _ _
 have t2 : w2.there w1.heap.size 0 fs.sz := by rw [hw2, ← hzl]; exact zbe w1 fs.zero.toArray T'
 rw [← hw2] at hal2
 refine zau fun K hK => zn fun τ => ?_
 simp +decide only [bK, bE, Nat.zero_add]
 rw [← hw1]
 simp +decide only [bK, hal2]
 refine hK _ _ (zd fun σ1 hσ => ?_)
 have f1 := hσ 1
 have f2 := hσ 2
 simp +decide only [bE, Nat.reduceBeqDiff, BEq.rfl, Nat.reduceAdd] at f1 f2
 clear hσ hK K hal2 hw1 hw2
 obtain ⟨w3, hw3⟩ : ∃ w3, w3 = w2.alloc (.cells (Value.cells (.agg fs.zero.toArray)) T') := ⟨_, rfl⟩
 have hal3 := ht.run_alloc (w := w2) (.tuple #[])
 have m3 : Mod w2 w3 zw := by rw [hw3]; exact Mod.alloc _ _ _
 have s3 : w3.heap.size = w2.heap.size + 1 := by rw [hw3]; exact zae _ _
 have r3 : w3.rangeAt w2.heap.size 0 fs.zero := by rw [hw3]; exact zu w2 fs.zero.toArray _ _
 have t3 : w3.there w2.heap.size 0 fs.sz := by rw [hw3, ← hzl]; exact zbe w2 fs.zero.toArray T'
 rw [← hw3] at hal3
 refine zau fun K hK => zn fun τ => ?_
 simp +decide only [bK, hal3]
 refine hK _ _ (zd fun σ2 hσ => ?_)
 have g1 := hσ 1
 have g2 := hσ 2
 have g3 := hσ 3
 simp +decide only [bE, Nat.reduceBeqDiff, BEq.rfl, Nat.reduceAdd, f1, f2] at g1 g2 g3
 clear hσ hK K hal3 hw3
 have m03 := (m1.trans' m2).trans' m3
 have hSw := mS.size
 have c : FC P N .mk wS w3 w.heap.size ct t w2.heap.size 0 fs.sz σ2 := ⟨g1, g3, zh (m2.trans' m3) r1, by omega, by omega, hr, mS.trans' m03, by omega, by omega, t3⟩
 have h0 : FSt .mk wS w3 w2.heap.size 0 fs.sz σ2 [] 0 (fs.zero ++ []) σ2 w3 := ⟨Ag.refl _ _, .refl _ _, [], by simpa using r3, rfl, rfl, by simp [hzl]⟩
 refine zxs B Fn S hI F G fs ho hlo c hb h0 hhf (by decide) fun σ4 w4 h4 => ?_
 obtain ⟨ag, mod, css, hr4, hrep, _, hn4⟩ := h4
 rw [List.append_nil] at hr4
 rw [List.nil_append] at hrep
 have hcl : css.flatten.length = fs.sz := by simpa using hn4
 have hok := Fds.ofOk fs 0 hb
 have hones := Fds.rep_one fs _ hok.1 hrep
 have s4 := mod.size
 have hld := ht.run_load (w := w4) (b := w2.heap.size) (o := 0) hr4 hcl (fun h => by cases h)
 have hlv : ldv (.struct fds) css.flatten = .agg css.flatten.toArray := rfl
 rw [hlv] at hld
 have m34 : Mod w3 w4 (blk w2.heap.size) := mod.mono fun _ _ _ h => h.1
 have t2' : w4.there w1.heap.size 0 fs.sz := m34.there (by omega) (m3.there (by omega) t2)
 have r2' : w4.rangeAt w1.heap.size 0 fs.zero := m34.rangeAt (by omega) (fun _ _ _ e => by have : w1.heap.size = w2.heap.size := e; omega) (zh m3 r2)
 have hst := ht.run_store (w := w4) (b := w1.heap.size) (o := 0) (v := .agg css.flatten.toArray) (cs := css.flatten) rfl hcl t2' hones
 obtain ⟨w5, hw5⟩ : ∃ w5, w5 = w4.setCells w1.heap.size 0 css.flatten := ⟨_, rfl⟩
 have m5 : Mod w4 w5 (blk w1.heap.size) := by rw [hw5]; exact Mod.setCells _ 0 _ fun _ _ _ _ => rfl
 have s5 : w5.heap.size = w4.heap.size := by rw [hw5]; exact zco _ _ _
 have r5 : w5.rangeAt w1.heap.size 0 css.flatten := by
  have := zar css.flatten 0 w4 _ r2' (by omega)
  rw [List.drop_of_length_le (by omega), List.append_nil] at this
  rw [hw5]; exact this
 rw [← hw5] at hst
 clear hw5
 have k2 : σ4 2 = .pointer (some ⟨w1.heap.size, 0, none⟩) := by rw [ag 2 (by decide)]; exact g2
 have k3 : σ4 3 = .pointer (some ⟨w2.heap.size, 0, none⟩) := by rw [ag 3 (by decide)]; exact g3
 refine zau fun K hK => zn fun τ => ?_
 simp +decide only [bK, bE, Nat.reduceBeqDiff, BEq.rfl, Nat.reduceAdd, k2, k3, hld, hst]
 refine hK _ _ (zd fun σ5 hσ => zau fun K2 hK2 => zbl ⟨.inr rfl, .agg css.flatten.toArray, ?_, css.flatten, rfl, ⟨css, rfl, ?_⟩, hcl, ?_⟩)
 ·have q := hσ 2
  simp +decide only [bE, Nat.reduceBeqDiff, Nat.reduceAdd, k2] at q
  refine ⟨_, q, ?_⟩
  have hl5 := ht.run_load (w := w5) (b := w1.heap.size) (o := 0) r5 hcl (fun h => by cases h)
  rw [hlv] at hl5
  simpa [Instr.loadAt, Instr.sureAddr, Sem.run_bind] using hl5
 ·refine RepL.mod m5 (fun k hk => ⟨?_, fun o e => ?_, hk.imp id fun h => ⟨by have := h.1; omega, by have := h.2; omega⟩⟩) _ hrep
  ·rcases hk with hk | hk
   ·have hk : k < wS.heap.size := hk
    omega
   ·exact hk.2
  ·have e : k = w1.heap.size := e
   rcases hk with hk | hk
   ·have hk : k < wS.heap.size := hk
    omega
   ·have := hk.1; omega
 ·exact (m03.fresh m34 fun k o e => by have : k = w2.heap.size := e; omega).fresh m5 fun k o e => by have : k = w1.heap.size := e; omega
theorem zvx (B : Base P N) (Fn : Fns P N) (S : SpT P N M) (hI : zct P N N.zaa N.zcr N.zbh N.zbt) (F : TrF P N) (G : SMg P N M L) {f : Nat} {g : Msg} (ho : g.fs.fok P N L mf .fill) (hF : FOk P f 2 (g.fillC N L mf) []) (hhf : g.fs.hf P g.tT 1 1) {wS w : World} {t : Tr} {ct : List Value} {b : Nat} (mS : Mod wS w zw) (hr : RepA wS t ct) (hb : bdT t)
  (hbS : wS.heap.size ≤ b) (hb0 : b < w.heap.size) (hth : w.there b 1 g.fs.sz) (hz : w.rangeAt b 1 g.fs.zero) :
  Call P f #[.pointer (some ⟨b, 0, none⟩), .agg ct.toArray] w fun _ w' => ∃ css, RepL w' (GV wS w w') (g.fs.ofT 0 t) css ∧ w'.rangeAt b 1 css.flatten ∧ Mod w w' (fun k o => k = b ∧ 1 ≤ o) := by
 have hzl : g.fs.zero.length = g.fs.sz := Fds.zero_length g.fs
 refine hF.call rfl fun loc N' hlo => ?_
 unfold Msg.fillC
 refine zif (by simp) ?_
 obtain ⟨w1, hw1⟩ : ∃ w1, w1 = w.alloc (.cells (Value.cells (.agg ct.toArray)) N.zaa) := ⟨_, rfl⟩
 have m1 : Mod w w1 zw := by rw [hw1]; exact Mod.alloc _ _ _
 have s1 : w1.heap.size = w.heap.size + 1 := by rw [hw1]; exact zae _ _
 have r1 : w1.rangeAt w.heap.size 0 ct := by rw [hw1]; exact zu w _ _ _
 refine zau fun K hK => zn fun τ => ?_
 simp +decide only [bK, bE, Nat.reduceAdd]
 rw [← hw1]
 refine hK _ _ (zd fun σ1 hσ => ?_)
 have f0 := hσ 0
 have f2 := hσ 2
 simp +decide only [bE, Nat.reduceBeqDiff, BEq.rfl, Nat.reduceAdd, Nat.zero_add, zbm] at f0 f2
 clear hσ hK K hw1
 have c : FC P N .fill wS w1 w.heap.size ct t b 1 g.fs.sz σ1 := ⟨f2, f0, r1, by omega, by omega, hr, mS.trans' m1, hbS, by omega, m1.there hb0 hth⟩
 have h0 : FSt .fill wS w1 b 1 g.fs.sz σ1 [] 1 (g.fs.zero ++ []) σ1 w1 := ⟨Ag.refl _ _, .refl _ _, [], by simpa using zh m1 hz, rfl, rfl, by simp [hzl]⟩
 have key := zxs B Fn S hI F G g.fs ho (tl := []) (Q := retQ P [] fun _ w' => ∃ css, RepL w' (GV wS w w') (g.fs.ofT 0 t) css ∧ w'.rangeAt b 1 css.flatten ∧ Mod w w' (fun k o => k = b ∧ 1 ≤ o)) (idx := 1) (i := 0) (q := 3) (k := 0) hlo c hb h0 hhf (by decide) fun σ4 w4 h4 => ?_
 ·rwa [List.append_nil] at key
 obtain ⟨ag, mod, css, hr4, hrep, _, hn4⟩ := h4
 rw [List.append_nil] at hr4
 rw [List.nil_append] at hrep
 refine ⟨.inl rfl, .tuple #[], rfl, css, RepL.mono (fun k hk => hk.imp id fun h => ⟨by have := h.1; omega, h.2⟩) _ hrep, hr4, m1.trans mod fun k o _ h => h.elim False.elim id⟩
end
def Fds.hfBs (P : Program) (Tt : TypeId) : Fds → Nat → Nat → Bool
 | .nil, _, _ => true
 | .tags, idx, off => hfB P Tt idx off
 | .cons _ t r, idx, off => hfB P Tt idx off && r.hfBs P Tt (idx + 1) (off + t.sz)
theorem Fds.hfBs_ok {P : Program} {Tt : TypeId} : ∀ {fs : Fds} {idx off : Nat}, fs.hfBs P Tt idx off = true → fs.hf P Tt idx off
 | .nil, _, _, _ => trivial
 | .tags, _, _, h => zvm h
 | .cons _ t r, idx, off, h => by
  simp only [Fds.hfBs, Bool.and_eq_true] at h
  exact ⟨zvm h.1, Fds.hfBs_ok h.2⟩
structure MkN where
 newP : Nat := 0
 setV : Nat := 0
 maxV : Nat := 0
 maxI : Nat := 0
 fillI : Nat := 0
 app : Nat := 0
 mkI : Nat := 0
section
variable (N : Nums)
def c_doorM (tT pT setV fill app : Nat) : C := seqs [.ops [⟨some 102, .box N.zaa (V 1), 0, none, []⟩, ⟨some 103, .assign (.const (.slice none 0 0)), 0, none, []⟩],
 .ops [⟨some 0, .build tT #[], 0, none, []⟩, ⟨some 1, .box tT (T 0), 0, none, []⟩, ⟨some 104, .assign (T 1), 0, none, []⟩],
 .ops [⟨some 0, .move (V 4), 0, none, []⟩, ⟨some 1, .move (V 0), 0, none, []⟩, ⟨some 2, .convert N.ze N.zbd (T 1), 0, none, []⟩, ⟨some 3, .call ⟨.value (.func setV), #[T 0, T 2], #[pT, N.zbd]⟩, N.t_, none, []⟩],
 .ops [⟨some 0, .move (V 4), 0, none, []⟩, ⟨some 1, .load N.zaa (V 2), 0, none, []⟩, ⟨some 2, .call ⟨.value (.func fill), #[T 0, T 1], #[pT, N.zaa]⟩, N.t_, none, []⟩],
 .ops [⟨some 0, .move (V 4), 0, none, []⟩, ⟨some 1, .call ⟨.value (.func app), #[T 0, .const (.slice none 0 0)], #[pT, N.za]⟩, N.za, none, []⟩, ⟨some 103, .assign (T 1), 0, none, []⟩], .ret]
end
structure MkD (P : Program) (N : Nums) (M : zaz) (A : zck) (L : zen) (mf : TypeId → FuncId) (m : Msg) (d : MkN) : Prop where
 ti : ∃ pl by', SF P m.tT pl by' (.int .i16 0 :: m.fs.zero)
 z1 : ∀ c ∈ m.fs.zero, c.oneCell' = true
 hf : m.fs.hf P m.tT 1 1
 v0 : HF P m.tT 0 0
 plain : m.fs.plain N
 dflt : FOk P m.dflt 1 (seqs (m.fs.dfl N m.tT 1)) []
 newP : FOk P d.newP 0 (c_new N m.tT m.dflt) [.var 0]
 setV : FOk P d.setV 2 (c_set N m.tT) []
 fill : FOk P d.fillI 2 (m.fillC N L mf) []
 fok : m.fs.fok P N L mf .fill
 app : FOk P d.app 2 (m.appC N A) [.var 2]
 aok : m.fs.aok P N A
 door : FOk P d.mkI 2 (c_doorM N m.tT m.pT d.setV d.fillI d.app) [.var 3]
section
variable {P : Program} {N : Nums} {M : zaz} {A : zck} {L : zen} {mf : TypeId → FuncId}
theorem MkD.tiS {m : Msg} {d : MkN} (D : MkD P N M A L mf m d) : ∃ fs by', TI P m.tT (.struct fs) (m.fs.sz + 1) by' (.agg (.int .i16 0 :: m.fs.zero).toArray) := by
 obtain ⟨pl, by', h⟩ := D.ti
 obtain ⟨fs, h, _⟩ := h.out
 refine ⟨fs, by', ?_⟩
 have e : (Value.int .i16 0 :: m.fs.zero).length = m.fs.sz + 1 := by rw [List.length_cons, Fds.zero_length]
 rw [e] at h
 exact h
theorem msg_dfltD (B : Base P N) {m : Msg} {d : MkN} (hm : MkD P N M A L mf m d) {w : World} {Mb : Nat} (ht : w.there Mb 0 (m.fs.sz + 1)) (hM : Mb < w.heap.size) {zs : List Value} (hz : w.rangeAt Mb 1 zs) (hp : m.fs.pre zs) :
  Call P m.dflt #[.pointer (some ⟨Mb, 0, none⟩)] w fun _ w' => Mod w w' (rng Mb 1 m.fs.sz) ∧ w'.rangeAt Mb 1 m.fs.ini := by
 refine hm.dflt.call rfl fun loc N' hlo => ?_
 have fin : ∀ (σ' : Env) w', Mod w w' (rng Mb (0 + 1) m.fs.sz) → w'.rangeAt Mb (0 + 1) m.fs.ini → retQ P [] (fun _ w' => Mod w w' (rng Mb 1 m.fs.sz) ∧ w'.rangeAt Mb 1 m.fs.ini) .normal σ' w' :=
  fun σ' w' hm hr => ⟨.inl rfl, .tuple #[], rfl, hm, hr⟩
 have key := WL_dfl B (loc := loc) (N' := N') (Q := retQ P [] (fun _ w' => Mod w w' (rng Mb 1 m.fs.sz) ∧ w'.rangeAt Mb 1 m.fs.ini)) (Tt := m.tT) (b := Mb) (o := 0) m.fs 1 (zef #[.pointer (some ⟨Mb, 0, none⟩)]) 1 1 w _ (by decide) (zkj _) hm.plain hm.hf
  (fun j hj => by have := ht (1 + j) (by omega); simpa [Nat.add_assoc] using this) hM hz hp fin
 change WL P loc N' (m.fs.dfl N m.tT 1) _ _ _ at key
 cases hl : m.fs.dfl N m.tT 1 with
 | nil => rw [hl] at key; exact zbv key
 | cons x l => rw [hl] at key; exact zif (by simp) key
theorem call_newD (B : Base P N) {m : Msg} {d : MkN} (D : MkD P N M A L mf m d) (w : World) :
  Call P d.newP #[] w fun v w' => v = .pointer (some ⟨w.heap.size, 0, none⟩) ∧ Mod w w' zw ∧ w'.there w.heap.size 0 (m.fs.sz + 1) ∧ (∃ x, w'.cell? ⟨w.heap.size, 0, none⟩ = some x) ∧ w'.rangeAt w.heap.size 1 m.fs.ini ∧ w.heap.size < w'.heap.size := by
 obtain ⟨fs, by', hT⟩ := D.tiS
 refine D.newP.call rfl fun loc N' hlo => ?_
 unfold c_new
 refine zif (by simp) ?_
 refine zau fun K hK => zcy (hK _ _ ?_)
 clear hK K
 obtain ⟨w1, hw1⟩ : ∃ w1, w1 = w.alloc (.cells (Value.cells (.agg (.int .i16 0 :: m.fs.zero).toArray)) m.tT) := ⟨_, rfl⟩
 have m1 : Mod w w1 zw := by rw [hw1]; exact Mod.alloc _ _ _
 have s1 : w1.heap.size = w.heap.size + 1 := by rw [hw1]; exact zae _ _
 have r1 : w1.rangeAt w.heap.size 0 ([.int .i16 0] ++ m.fs.zero) := by rw [hw1]; exact zu w (.int .i16 0 :: m.fs.zero).toArray m.tT (0, 0)
 have t1 : w1.there w.heap.size 0 (m.fs.sz + 1) := by
  have := zbe w (.int .i16 0 :: m.fs.zero).toArray m.tT
  have e : (Value.int .i16 0 :: m.fs.zero).toArray.size = m.fs.sz + 1 := by simp [Fds.zero_length]
  rw [e] at this
  rw [hw1]; exact this
 refine zau fun K hK => zn fun τ => ?_
 have hal := hT.run_alloc (w := w) (.tuple #[])
 rw [← hw1] at hal
 simp +decide only [bK, hal]
 refine hK _ _ (zd fun σ1 hσ => ?_)
 have g1 := hσ 1
 simp +decide only [bE, BEq.rfl, Nat.reduceAdd] at g1
 clear hσ hK K hal hw1
 have q1 := zx.1 r1
 refine zau fun K hK => zn fun τ => ?_
 simp +decide only [bK]
 rw [zbb D.dflt.has]
 simp +decide only [bK, bE, Nat.reduceAdd, g1]
 refine (msg_dfltD B D t1 (by omega) (by simpa using q1.2) (zkn _ D.plain)).mono ?_
 rintro _ w2 ⟨m2, r2⟩
 refine zd (K := fun σ' w' => zgw K _ .normal σ' w') fun σ2 hσ => hK _ _ ?_
 have g2 := hσ 1
 simp +decide only [bE, Nat.reduceBeqDiff, Nat.reduceAdd, g1] at g2
 clear hσ hK K
 refine zau fun K hK => zn fun τ => ?_
 simp +decide only [bK, bE, Nat.reduceAdd, g2]
 refine hK _ _ (zd fun σ3 hσ => zau fun K2 hK2 => zbl ⟨.inr rfl, _, rfl, ?_⟩)
 have g3 := hσ 0
 simp +decide only [bE, BEq.rfl, Nat.zero_add] at g3
 have s2 := m2.size
 refine ⟨g3, m1.fresh m2 fun k o e => by have := e.1; omega, m2.there (by omega) t1, ⟨.int .i16 0, ?_⟩, r2, by omega⟩
 rw [m2.cell _ _ (by omega) (fun e => by have := e.2.1; omega)]
 exact q1.1 0 _ rfl
theorem call_maxID (B : Base P N) {m : Msg} {d : MkN} (D : MkD P N M A L mf m d) {f mx k : Nat} (hmf : FOk P mx 1 (c_max k) [.var 1]) (hf : FOk P f 0 (c_maxI N m.pT d.newP mx) [.var 0]) (w : World) :
  Call P f #[] w fun v w' => v = .int .i64 (IntKind.i64.wrap k) ∧ Mod w w' zw := by
 refine hf.call rfl fun loc N' hlo => ?_
 unfold c_maxI
 refine zif (by simp) ?_
 refine zau fun K hK => zcy (hK _ _ ?_)
 clear hK K
 refine zau fun K hK => zn fun τ => ?_
 simp +decide only [bK, bE, BEq.rfl]
 rw [zjy D.newP.has]
 refine (call_newD B D w).mono ?_
 rintro v w1 ⟨rfl, m1, _⟩
 have hcv := fun {w : World} => zax (P := P) (w := w) (k' := .i16) B.int16 B.int (n := k) ⟨_, rfl⟩
 rw [zbb hmf.has]
 simp +decide only [bK, bE, BEq.rfl]
 refine (call_max hmf w1 _).mono ?_
 rintro _ _ ⟨rfl, rfl⟩
 simp +decide only [bK, hcv]
 refine hK _ _ (zd fun σ3 hσ => zau fun K2 hK2 => zbl ⟨.inr rfl, _, rfl, ?_⟩)
 have g2 := hσ 0
 simp +decide only [bE, BEq.rfl, Nat.zero_add] at g2
 exact ⟨g2, m1⟩
theorem call_setD (B : Base P N) {m : Msg} {d : MkN} (D : MkD P N M A L mf m d) {w : World} {b : Nat} (x : Int) (ht : w.there b 0 (m.fs.sz + 1)) {u : Value} (hu : w.cell? ⟨b, 0, none⟩ = some u) :
  Call P d.setV #[.pointer (some ⟨b, 0, none⟩), .int .i16 x] w fun _ w' => Mod w w' (rng b 0 1) ∧ w'.cell? ⟨b, 0, none⟩ = some (.int .i16 x) ∧ w'.heap.size = w.heap.size := by
 refine D.setV.call rfl fun loc N' hlo => ?_
 unfold c_set
 refine zn fun τ => ?_
 have hst := B.int16.run_store1 (w := w) (b := b) (o := 0) (v := .int .i16 x) rfl (fun j hj => ht j (by omega))
 simp +decide only [bK, bE, Nat.reduceBeqDiff, BEq.rfl, Nat.reduceAdd, Nat.zero_add]
 rw [zat rfl]
 simp +decide only [bK, bE, Nat.reduceBeqDiff, BEq.rfl, Nat.add_zero, D.v0.run, hst]
 exact ⟨.inl rfl, .tuple #[], rfl, Mod.setCell fun _ => ⟨rfl, Nat.le_refl _, by omega⟩, World.cell?_setCell_same _ _ _ hu, by simp [World.setCell]⟩
theorem call_doorM (B : Base P N) (F : Fns P N) (S : SpT P N M) (hI : zct P N N.zaa N.zcr N.zbh N.zbt) (T : TrF P N) (G : SMg P N M L) (C : ApC P N A) {m : Msg} {d : MkN} (D : MkD P N M A L mf m d) {w : World} {t : Tr} {ct : List Value} {n : Int} (hr : RepA w t ct) (hb : bdT t) (hver : 0 ≤ IntKind.i16.wrap n)
  (hlen : (m.fs.wr (IntKind.i16.wrap n) (decide (IntKind.i16.wrap n ≥ m.fl)) (m.fs.ofT 0 t)).length < 1099511627776) :
  Call P d.mkI #[.int .i64 n, .agg ct.toArray] w fun r w' => OctA w' r (m.fs.wr (IntKind.i16.wrap n) (decide (IntKind.i16.wrap n ≥ m.fl)) (m.fs.ofT 0 t)) ∧ Mod w w' zw := by
 obtain ⟨pl, by', hSF⟩ := D.ti
 have hzl := Fds.zero_length m.fs
 refine D.door.call rfl fun loc N' hlo => ?_
 unfold c_doorM
 refine zif (by simp) ?_
 obtain ⟨w1, hw1⟩ : ∃ w1, w1 = w.alloc (.cells (Value.cells (.agg ct.toArray)) N.zaa) := ⟨_, rfl⟩
 have m1 : Mod w w1 zw := by rw [hw1]; exact Mod.alloc _ _ _
 have s1 : w1.heap.size = w.heap.size + 1 := by rw [hw1]; exact zae _ _
 have r1 : w1.rangeAt w.heap.size 0 ct := by rw [hw1]; exact zu w _ _ _
 refine zau fun K hK => zn fun τ => ?_
 simp +decide only [bK, bE, Nat.reduceAdd]
 rw [← hw1]
 refine hK _ _ (zd fun σ1 hσ => ?_)
 have a0 := hσ 0
 have a2 := hσ 2
 simp +decide only [bE, Nat.reduceBeqDiff, BEq.rfl, Nat.reduceAdd, Nat.zero_add, zbm] at a0 a2
 clear hσ hK K hw1
 have hbu : (Instr.build m.tT #[]).run P w1 = .ok (.agg (.int .i16 0 :: m.fs.zero).toArray) w1 := hSF.run_build (by simp [Instr.fill])
 have e0 : ∀ ρ : Env, (#[] : Array (Nat × Operand)).map (fun p => (p.1, ev ρ p.2)) = #[] := fun ρ => by simp
 obtain ⟨w2, hw2⟩ : ∃ w2, w2 = w1.alloc (.cells (Value.cells (.agg (.int .i16 0 :: m.fs.zero).toArray)) m.tT) := ⟨_, rfl⟩
 have m2 : Mod w1 w2 zw := by rw [hw2]; exact Mod.alloc _ _ _
 have s2 : w2.heap.size = w1.heap.size + 1 := by rw [hw2]; exact zae _ _
 have r2 : w2.rangeAt w1.heap.size 0 ([.int .i16 0] ++ m.fs.zero) := by rw [hw2]; exact zu w1 (.int .i16 0 :: m.fs.zero).toArray _ _
 have t2 : w2.there w1.heap.size 0 (m.fs.sz + 1) := by
  have := zbe w1 (.int .i16 0 :: m.fs.zero).toArray m.tT
  have e : (Value.int .i16 0 :: m.fs.zero).toArray.size = m.fs.sz + 1 := by simp [Fds.zero_length]
  rw [e] at this
  rw [hw2]; exact this
 refine zau fun K hK => zn fun τ => ?_
 simp +decide only [bK, bE, BEq.rfl, e0, hbu]
 rw [← hw2]
 refine hK _ _ (zd fun σ2 hσ => ?_)
 have b0 := hσ 0
 have b2 := hσ 2
 have b4 := hσ 4
 simp +decide only [bE, Nat.reduceBeqDiff, BEq.rfl, Nat.reduceAdd, Nat.zero_add, a0, a2] at b0 b2 b4
 clear hσ hK K a0 a2 hw2 hbu
 obtain ⟨Mb, hMb⟩ : ∃ M, M = w1.heap.size := ⟨_, rfl⟩
 rw [← hMb] at r2 t2 b4
 have q2 := zx.1 r2
 have lM : Mb < w2.heap.size := by omega
 refine zau fun K hK => zn fun τ => ?_
 have hcv := fun {w : World} => zax (P := P) (w := w) (k' := .i64) B.int B.int16 (n := n) ⟨_, rfl⟩
 simp +decide only [bK, bE, Nat.reduceBeqDiff, BEq.rfl, Nat.reduceAdd, Nat.zero_add, b0, b4, hcv]
 rw [zah D.setV.has]
 simp +decide only [bK, bE, Nat.reduceBeqDiff, BEq.rfl]
 refine (call_setD B D (IntKind.i16.wrap n) t2 (q2.1 0 _ rfl)).mono ?_
 rintro v3 w3 ⟨m3, hv3, s3⟩
 refine hK _ _ (zd fun σ3 hσ => ?_)
 have c2 := hσ 2
 have c4 := hσ 4
 simp +decide only [bE, Nat.reduceBeqDiff, Nat.reduceAdd, b2, b4] at c2 c4
 clear hσ hK K b0 b2 b4
 have m02 := m1.trans' m2
 have m03 : Mod w w3 zw := m02.fresh m3 fun k o h => by have := h.1; omega
 have t3 := m3.there lM t2
 have r3 : w3.rangeAt Mb 1 m.fs.zero := m3.rangeAt lM (fun i h1 _ h => by have := h.2.2; omega) (by simpa using q2.2)
 have rT3 : w3.rangeAt w.heap.size 0 ct := m3.rangeAt (by omega) (fun i _ _ h => by have := h.1; omega) (zh m2 r1)
 refine zau fun K hK => zn fun τ => ?_
 simp +decide only [bK, bE, Nat.reduceBeqDiff, Nat.reduceAdd, c2, c4, hI.loadT rT3 hr.len]
 rw [zah D.fill.has]
 simp +decide only [bK, bE, Nat.reduceBeqDiff, BEq.rfl]
 refine (zvx B F S hI T G D.fok D.fill D.hf m03 hr hb (b := Mb) (by omega) (by omega) (fun j hj => by
  have := t3 (1 + j) (by omega)
  rwa [Nat.zero_add] at this) r3).mono ?_
 rintro v4 w4 ⟨css, hrep, r4, m4⟩
 refine hK _ _ (zd fun σ4 hσ => ?_)
 have d4 := hσ 4
 simp +decide only [bE, Nat.reduceBeqDiff, Nat.reduceAdd, c4] at d4
 clear hσ hK K c2 c4
 have s4 := m4.size
 have s03 := m03.size
 have m04 : Mod w w4 zw := m03.fresh m4 fun k o h => by have := h.1; omega
 have hv4 : w4.cell? ⟨Mb, 0, none⟩ = some (.int .i16 (IntKind.i16.wrap n)) := by rw [m4.cell _ _ (by omega) (fun h => by have := h.2; omega)]; exact hv3
 have hok := Fds.ofOk m.fs 0 hb
 refine zau fun K hK => zn fun τ => ?_
 simp +decide only [bK, bE, Nat.reduceAdd, d4]
 rw [zah D.app.has]
 simp +decide only [bK, bE, BEq.rfl]
 refine (zuc B F C D.aok D.hf D.v0 D.app (G := GV w w3 w4) (lo := w4.heap.size) (l := []) (d := .slice none 0 0) hver hv4 hok.1 hok.2 hrep r4 (fun k hk => by
  rcases hk with hk | hk
  ·have hk : k < w.heap.size := hk
   omega
  ·exact hk.2) (by omega) (Nat.le_refl _) zkp (by simpa using hlen)).mono ?_
 rintro v5 w5 ⟨ho5, m5⟩
 rw [List.nil_append] at ho5
 refine hK _ _ (zd fun σ5 hσ => zau fun K2 hK2 => zbl ⟨.inr rfl, _, rfl, ?_⟩)
 have g3 := hσ 3
 simp +decide only [bE, BEq.rfl, Nat.reduceAdd] at g3
 rw [g3]
 exact ⟨ho5.octA, m04.fresh m5 fun k o h => by have := m04.size; omega⟩
end
def verW (m : Msg) (sf : List Fld) (fl : Int) (k : Nat) : Bool :=
 (List.range (k + 1)).all fun v => m.fs.matW (true && decide ((v : Int) ≥ m.fl)) v sf && (zkc fl v == (true && decide ((v : Int) ≥ m.fl)))
theorem verW_at {m : Msg} {sf : List Fld} {fl : Int} {k : Nat} (h : verW m sf fl k = true) {v : Nat} (hv : v ≤ k) : m.fs.matW (true && decide ((v : Int) ≥ m.fl)) v sf = true ∧ zkc fl v = (true && decide ((v : Int) ≥ m.fl)) := by
 unfold verW at h
 rw [List.all_eq_true] at h
 have := h v (List.mem_range.2 (by omega))
 rw [Bool.and_eq_true, beq_iff_eq] at this
 exact this
structure LawMM (P : Program) (N : Nums) (M : zaz) (A : zck) (L : zen) (mf : TypeId → FuncId) (m : Msg) (d : MkN) (k : Nat) (mk : Nat) (sc : List SC) (fl : Int) : Prop where
 D : MkD P N M A L mf m d
 mv : FOk P d.maxV 1 (c_max k) [.var 1]
 mi : FOk P d.maxI 0 (c_maxI N m.pT d.newP d.maxV) [.var 0]
 k1 : IntKind.i64.wrap k = k
 k2 : IntKind.i64.wrap (k + 1) = k + 1
 kk : k < 32767
 md : FOk P mk 0 (c_msg M sc fl) [.cell 0 M.zac]
 scb : scB sc = true
 sco : scOk P sc
 okf : zkq (SC.flds sc) = true
 ofb : zxj (SC.flds sc) = true
 ver : verW m (SC.flds sc) fl k = true
def dMake (N : Nums) (M : zaz) (L : zen) (mkI : Nat) : List ROp := [
 ⟨some 0, .move (V 8), 0, none, []⟩, ⟨some 1, .fieldAddr M.zac (V 7) 0, 0, none, []⟩, ⟨some 2, .load M.zab (T 1), 0, none, [1]⟩, ⟨some 3, .move (V 8), 0, none, []⟩, ⟨some 4, .load N.zb (V 2), 0, none, []⟩,
 ⟨some 5, .call ⟨.value (.func L.zkf), #[T 2, T 3, T 4], #[M.zab, N.ze, N.zb]⟩, N.zb, none, [2, 3, 4]⟩, ⟨some 6, .call ⟨.value (.func L.zll), #[T 5], #[N.zb]⟩, N.zaa, none, [5, 5]⟩,
 ⟨some 7, .call ⟨.value (.func mkI), #[T 0, T 6], #[N.ze, N.zaa]⟩, N.za, none, [0, 6, 6]⟩, ⟨some 8, .load M.zac (V 7), 0, none, []⟩, ⟨some 9, .move (V 8), 0, none, []⟩, ⟨some 10, .load N.zb (V 2), 0, none, []⟩,
 ⟨some 11, .call ⟨.value (.func M.zjm), #[T 8, T 9, T 10], #[M.zac, N.ze, N.zb]⟩, N.za, none, [8, 9, 10, 7]⟩, ⟨some 12, .call ⟨.value (.func N.zec), #[T 7, T 11], #[N.za, N.za]⟩, N.zaq, none, [7, 11, 11]⟩,
 ⟨some 103, .assign (T 12), 0, none, [12, 12, 0, 1, 2, 3, 4, 5, 6, 7, 8, 9, 10, 11, 12]⟩]
def c_lawM (N : Nums) (M : zaz) (L : zen) (maxI mkI mk : Nat) : C := seqs [
 .ops [⟨some 102, .box N.zb (V 1), 0, none, []⟩, ⟨some 103, .assign (.const (.bool false)), 0, none, []⟩],
 .seq (.ops [⟨some 0, .load N.zb (V 2), 0, none, []⟩, ⟨some 1, .call ⟨.value (.func M.znn), #[T 0], #[N.zb]⟩, N.zaq, none, []⟩, ⟨some 104, .unOp .not N.zaq (T 1), 0, none, []⟩]) (.cond 4 (.seq (zgr 3 (.bool true)) .ret) .skip),
 .ops [⟨some 0, .call ⟨.value (.func maxI), #[], #[]⟩, N.ze, none, []⟩, ⟨some 105, .assign (T 0), 0, none, []⟩],
 .seq (.ops [⟨some 0, .move (V 5), 0, none, []⟩, ⟨some 106, .binOp .lss N.ze (T 0) (.const (.int .i64 0)) N.ze, 0, none, []⟩]) (.cond 6 (.seq (zgr 3 (.bool false)) .ret) .skip),
 .ops [⟨some 0, .call ⟨.value (.func mk), #[], #[]⟩, M.zac, none, []⟩, ⟨some 1, .move (V 0), 0, none, []⟩, ⟨some 2, .move (V 5), 0, none, []⟩, ⟨some 3, .call ⟨.value (.func N.zke), #[T 1, T 2], #[N.zk, N.ze]⟩, N.ze, none, []⟩,
  ⟨some 107, .alloc M.zac, 0, none, []⟩, ⟨none, .store M.zac (V 7) (T 0), 0, none, []⟩, ⟨some 108, .assign (T 3), 0, none, []⟩],
 .draw (dMake N M L mkI), .ret]
mutual
theorem zqn : ∀ t : Tr, bdT t → okS t
 | .mk n s nl l u, h => by
  simp only [bdT] at h
  exact ⟨⟨by omega, by omega⟩, zsk l h.2.2.2.2.2⟩
theorem zsk : ∀ l : List Tr, bdTs l → okSs l
 | [], _ => trivial
 | t :: l, h => by
  simp only [bdTs] at h
  exact ⟨zqn t h.1, zsk l h.2⟩
end
section
variable {P : Program} {N : Nums} {M : zaz} {A : zck} {L : zen} {mf : TypeId → FuncId}
theorem call_lawM (B : Base P N) (F : Fns P N) (S : SpT P N M) (hI : zct P N N.zaa N.zcr N.zbh N.zbt) (T : TrF P N) (hZ : SZ P N M) (hW : SW P N M) (C : ApC P N A) (hL : SMk P N M L) (G : SMg P N M L) (hgv : L.zll ≠ 0) (hN : N.zec ≠ 0) (hV : N.zke ≠ 0) {m : Msg} {d : MkN} {k mk : Nat} {sc : List SC} {fl : Int} (Lw : LawMM P N M A L mf m d k mk sc fl) {f : Nat}
  (hf : FOk P f 2 (c_lawM N M L d.maxI d.mkI mk) [.var 3]) {w : World} {t : Tr} {ct : List Value} {n : Int} (hn : 0 ≤ n ∧ n ≤ 255) (ht : RepA w t ct) (hwf : wfT t) (hsz : szT t ≤ 1048576) :
  Call P f #[.int .u8 n, .agg ct.toArray] w fun v' w' => v' = .bool true ∧ Mod w w' zw := by
 refine hf.call rfl fun loc N' hlo => ?_
 unfold c_lawM
 refine zif (by simp) ?_
 refine zau fun K hK => zn fun τ => ?_
 simp +decide only [bK, bE, Nat.reduceAdd]
 obtain ⟨w1, hw1⟩ : ∃ w1, w1 = w.alloc (.cells (Value.cells (.agg ct.toArray)) N.zb) := ⟨_, rfl⟩
 have m1 : Mod w w1 zw := by rw [hw1]; exact Mod.alloc _ _ _
 have r1 : w1.rangeAt w.heap.size 0 ct := by rw [hw1]; exact zu w _ _ _
 have s1 : w1.heap.size = w.heap.size + 1 := by rw [hw1]; exact zae _ _
 rw [← hw1]
 clear hw1
 refine hK _ _ (zd fun σ1 hσ => ?_)
 have a0 := hσ 0
 have a2 := hσ 2
 simp +decide only [bE, Nat.reduceBeqDiff, BEq.rfl, Nat.reduceAdd, Nat.zero_add, zbm] at a0 a2
 clear hσ hK K
 obtain ⟨bT, hbT⟩ : ∃ b, b = w.heap.size := ⟨_, rfl⟩
 rw [← hbT] at a2 r1
 have ht1 := RepA.stay m1 _ ht
 refine zau fun K hK => zf fun K1 hK1 => zn fun τ => ?_
 simp +decide only [bK, bE, Nat.reduceAdd, a2, zbo S.tr r1 ht.len]
 rw [zbb hZ.zzFits1.has]
 simp +decide only [bK, bE, BEq.rfl]
 refine (sp_fits1 B S hZ ht1 (fits_of hsz)).mono ?_
 rintro _ w2 ⟨rfl, m2⟩
 simp +decide only [bK]
 refine hK1 _ _ (zd fun σ2 hσ => ?_)
 have b0 := hσ 0
 have b2 := hσ 2
 have b4 := hσ 4
 simp +decide only [bE, Nat.reduceBeqDiff, BEq.rfl, Nat.reduceAdd, Nat.zero_add, a0, a2] at b0 b2 b4
 clear hσ hK1 K1 a0 a2
 refine W_if hlo b4 ?_
 simp only [Bool.not_true, Bool.false_eq_true, if_false]
 refine zbv (hK _ _ ?_)
 clear hK K b4
 have m02 := m1.trans' m2
 refine zau fun K hK => zn fun τ => ?_
 simp +decide only [bK]
 rw [zjy Lw.mi.has]
 refine (call_maxID B Lw.D Lw.mv Lw.mi w2).mono ?_
 rw [Lw.k1]
 rintro _ w3 ⟨rfl, m3⟩
 simp +decide only [bE, BEq.rfl]
 refine hK _ _ (zd fun σ3 hσ => ?_)
 have c0 := hσ 0
 have c2 := hσ 2
 have c5 := hσ 5
 simp +decide only [bE, Nat.reduceBeqDiff, BEq.rfl, Nat.reduceAdd, Nat.zero_add, b0, b2] at c0 c2 c5
 clear hσ hK K b0 b2
 have m03 := m02.trans' m3
 refine zau fun K hK => zf fun K1 hK1 => zn fun τ => ?_
 simp +decide only [bK, bE, BEq.rfl, Nat.reduceAdd, c5]
 refine hK1 _ _ (zd fun σ4 hσ => ?_)
 have d0 := hσ 0
 have d2 := hσ 2
 have d5 := hσ 5
 have d6 := hσ 6
 simp +decide only [bE, Nat.reduceBeqDiff, BEq.rfl, Nat.reduceAdd, Nat.zero_add, c0, c2, c5] at d0 d2 d5 d6
 clear hσ hK1 K1 c0 c2 c5
 refine W_if hlo d6 ?_
 have hk0 : ¬ (k : Int) < 0 := by omega
 simp only [hk0, decide_false, Bool.false_eq_true, if_false]
 refine zbv (hK _ _ ?_)
 clear hK K d6
 obtain ⟨v, hv⟩ : ∃ v : Nat, (IntKind.i64.wrap n).tmod (IntKind.i64.wrap (k + 1)) = (v : Int) ∧ v ≤ k := by
  rw [Lw.k2, zge (by omega) (by omega)]
  have h1 := Int.tmod_nonneg (k + 1 : Int) hn.1
  have h2 := Int.tmod_lt_of_pos n (show (0 : Int) < k + 1 by omega)
  exact ⟨(n.tmod (k + 1)).toNat, by omega, by omega⟩
 obtain ⟨fsM, htM, _⟩ := S.msg.out
 refine zau fun K hK => zn fun τ => ?_
 simp +decide only [bK, bE, Nat.reduceBeqDiff, BEq.rfl, Nat.reduceAdd, Nat.zero_add]
 rw [zjy Lw.md.has]
 refine (mk_msg S Lw.scb Lw.sco Lw.md w3).mono ?_
 rintro _ w4 ⟨fv, rfl, hfv, m4⟩
 simp +decide only [bE, Nat.reduceBeqDiff, d0, d5]
 rw [zah (F.version hV).has]
 simp +decide only [bK, bE, Nat.reduceBeqDiff, BEq.rfl]
 refine (zvu B F hV w4 n k (by rw [Lw.k2]; omega)).mono ?_
 rintro _ w4' ⟨rfl, hw4⟩
 obtain rfl := hw4.symm
 clear hw4
 rw [hv.1]
 obtain ⟨w5, w6, hal, hst, _, m46, s6, r6, _⟩ := zgs (cs := [fv, .int .i64 fl]) htM (by decide) rfl rfl (by
  intro c hc; simp at hc; rcases hc with rfl | rfl
  ·exact hfv.one
  ·rfl) w4
 simp +decide only [bK, hal, hst]
 refine hK _ _ (zd fun σ5 hσ => ?_)
 have e2 := hσ 2
 have e7 := hσ 7
 have e8 := hσ 8
 simp +decide only [bE, Nat.reduceBeqDiff, BEq.rfl, Nat.reduceAdd, d2] at e2 e7 e8
 clear hσ hK K d0 d2 d5 hal hst
 obtain ⟨bM, hbM⟩ : ∃ b, b = w4.heap.size := ⟨_, rfl⟩
 rw [← hbM] at e7 r6
 have m06 := (m03.trans' m4).trans' m46
 have m16 := ((m2.trans' m3).trans' m4).trans' m46
 have hf6 := hfv.stay m46
 have rT6 := zh m16 r1
 obtain ⟨g1, g3⟩ := verW_at Lw.ver hv.2
 have hfl : (SC.flds sc).length < 1000 := by rw [SC.flds_len]; exact (ztk Lw.scb).2.2.2
 have hbl : (zeh (zkc fl v) v (SC.flds sc) t).length ≤ K0 * szT t := zvh Lw.okf hfl hwf
 have hK0 : K0 * szT t ≤ 40000 * 1048576 := Nat.mul_le_mul (Nat.le_refl _) hsz
 have hbl2 : (zeh (zkc fl v) v (SC.flds sc) t).length < 549755813888 := by omega
 have hbd := fitP_bd (v := v) Lw.okf hfl (bdT_of t hwf hsz)
 have hi16 : IntKind.i16.wrap (v : Int) = v := zuo (by have := Lw.kk; omega)
 have hfx : zkc fl v = decide ((v : Int) ≥ m.fl) := by rw [g3, Bool.true_and]
 have hwr := msg_wrF (m := m) (t := t) g1
 rw [Bool.true_and, ← hfx] at hwr
 have md : Mod w6 w6.drew zw := Mod.drew _ _
 refine zau fun K hK => zky B.mixed [true, true, true, true, true, false, false, false, true, true, true, false, false, false] (by kernel_rfl) (fun w' => Mod w6 w' zw) md fun τ => ?_
 have hlM : bM < w6.heap.size := by omega
 have q8 : zia σ5 τ 108 = .int .i64 v := by rw [← e8]; exact envOf_var σ5 τ 8
 refine zp (.int .i64 v) (fun w' _ => by rw [zby, ev_tmp, q8]) rfl ?_
 refine zp (.pointer (some ⟨bM, 0, none⟩)) (fun w' _ => zap (by simp +decide only [bE, Nat.reduceBeqDiff, Nat.reduceAdd, Nat.zero_add, ev_tmp, e7, S.m0.run])) rfl ?_
 refine zp fv (fun w' hw => zap (by
  have : w'.cell? ⟨bM, 0, none⟩ = some fv := zh hw r6 0 _ rfl
  simp +decide only [bE, BEq.rfl, ev_tmp, S.lf.run_load1 rfl, this, ldc_some])) rfl ?_
 refine zp (.int .i64 v) (fun w' _ => by
  rw [zby, ev_tmp]
  simp +decide only [bE, Nat.reduceBeqDiff, Nat.reduceAdd, e8]) rfl ?_
 refine zp (.agg ct.toArray) (fun w' hw => zap (by
  simp +decide only [bE, Nat.reduceBeqDiff, Nat.reduceAdd, ev_tmp, e2]
  exact zbo S.tr (zh hw rT6) ht.len)) rfl ?_
 show zeb P _ _ ((_, false) :: (_, false) :: (_, false) :: _) _
 rw [zeb, zeb, zeb]
 refine zp (.agg [fv, .int .i64 fl].toArray) (fun w' hw => zap (by
  have hld := htM.run_load (w := w') (b := bM) (o := 0) (zh hw r6) rfl (fun h => by cases h)
  have hlv : ldv (.struct fsM) [fv, .int .i64 fl] = .agg [fv, .int .i64 fl].toArray := rfl
  rw [hlv] at hld
  simp +decide only [bE, Nat.reduceBeqDiff, Nat.reduceAdd, ev_tmp, e7, hld])) rfl ?_
 refine zp (.int .i64 v) (fun w' _ => by
  rw [zby, ev_tmp]
  simp +decide only [bE, Nat.reduceBeqDiff, Nat.reduceAdd, e8]) rfl ?_
 refine zp (.agg ct.toArray) (fun w' hw => zap (by
  simp +decide only [bE, Nat.reduceBeqDiff, Nat.reduceAdd, ev_tmp, e2]
  exact zbo S.tr (zh hw rT6) ht.len)) rfl ?_
 simp only [zeb, dMake, zer, List.zip_cons_cons, List.zip_nil_right, List.zipWith_cons_cons, List.zipWith_nil_right, List.filter, Bool.not_true, Bool.not_false, List.map, zgq]
 rw [zdy hL.fit.has]
 simp +decide only [bK, bE, Nat.reduceBeqDiff, BEq.rfl]
 refine (fitP_of B S hW hL hfl Lw.okf Lw.ofb w w6.drew fv t ct (m06.trans' md) (hf6.stay md) ht).mono ?_
 rintro _ w7 ⟨c7, rfl, hr7, m7⟩
 have m67 := md.trans' m7
 refine ⟨m67, ?_⟩
 rw [zbb G.given.has]
 simp +decide only [bK, bE, BEq.rfl]
 have s7 := m7.size
 have s06 := m06.size
 refine (zst B S hI G hgv (zqn _ hbd) (fun k hk => by
  rcases hk with hk | hk
  ·have hk : k < w.heap.size := hk
   have : w6.drew.heap.size = w6.heap.size := rfl
   omega
  ·exact hk.2) hr7).mono ?_
 rintro _ w8 ⟨c8, rfl, hr8, m8⟩
 have m68 := m67.trans' m8
 refine ⟨m68, ?_⟩
 rw [zah Lw.D.door.has]
 simp +decide only [bK, bE, Nat.reduceBeqDiff, BEq.rfl]
 refine (call_doorM B F S hI T G C Lw.D (n := v) hr8 hbd (by rw [hi16]; omega) (by rw [hi16, ← hfx, hwr]; omega)).mono ?_
 rintro v9 w9 ⟨ho9, m9⟩
 rw [hi16, ← hfx, hwr] at ho9
 have m69 := m68.trans' m9
 refine ⟨m69, ?_⟩
 rw [zdy hW.Write.has]
 simp +decide only [bK, bE, Nat.reduceBeqDiff, BEq.rfl]
 refine (sp_Write B S hW hfl Lw.okf (hf6.stay m69) (RepA.stay (m06.trans' m69) _ ht) hwf hbl2).mono ?_
 rintro r w10 ⟨ho10, m10⟩
 have m610 := m69.trans' m10
 refine ⟨m610, ?_⟩
 rw [zah (F.spec_Same hN).has]
 simp +decide only [bK, bE, Nat.reduceBeqDiff, BEq.rfl]
 refine (zsu B F hN (ho9.stay m10) ho10.octA (by omega)).mono ?_
 rintro _ w11 ⟨rfl, m11⟩
 have m611 := m610.trans' m11
 refine ⟨m611, ?_⟩
 refine zd (K := fun σ' w' => zgw K _ .normal σ' w') fun σ9 hσ => hK _ _ ?_
 have q3 := hσ 3
 simp +decide only [bE, BEq.rfl, Nat.reduceAdd] at q3
 exact zau fun K2 hK2 => zbl ⟨.inr rfl, _, rfl, q3, m06.trans' m611⟩
end
section
variable (N : Nums)
end
section
variable {P : Program} {N : Nums}
end
def dKept (N : Nums) (M : zaz) : List ROp := [
 ⟨some 0, .move (V 1), 0, none, []⟩,
 ⟨some 1, .call ⟨.value (.func M.zdv), #[T 0, .const (.int .i64 2)], #[N.zbn, N.ze]⟩, N.za, none, [0]⟩,
 ⟨some 2, .load M.zac (V 3), 0, none, []⟩,
 ⟨some 3, .move (V 1), 0, none, []⟩,
 ⟨some 4, .load N.zb (V 4), 0, none, []⟩,
 ⟨some 5, .call ⟨.value (.func M.zjm), #[T 2, T 3, T 4], #[M.zac, N.ze, N.zb]⟩, N.za, none, [2, 3, 4, 1]⟩,
 ⟨some 6, .call ⟨.builtin .append, #[T 1, T 5], #[N.za, N.za]⟩, N.za, none, [1, 5, 5]⟩,
 ⟨some 105, .assign (T 6), 0, none, [6, 6, 0, 1, 2, 3, 4, 5, 6]⟩]
def c_Kept (N : Nums) (M : zaz) : C := seqs [.ops [⟨some 103, .box M.zac (V 0), 0, none, []⟩, ⟨some 104, .box N.zb (V 2), 0, none, []⟩, ⟨some 105, .assign (.const (.slice none 0 0)), 0, none, []⟩], .draw (dKept N M), .ret]
section
variable {P : Program} {N : Nums} {M : zaz}
theorem W_kept (B : Base P N) (S : SpT P N M) (hW : SW P N M) {loc : List Nat} {N' : Nat} {Q : Exit → Env → World → Prop} {σ : Env} {w : World} {b3 b4 : Nat} {fv : Value} {fl v : Int} {fs : List Fld} {t : Tr} {cs : List Value} (h1 : fs.length < 1000) (hok : zkq fs = true)
  (s1 : σ 1 = .int .i64 v) (s3 : σ 3 = .pointer (some ⟨b3, 0, none⟩)) (s4 : σ 4 = .pointer (some ⟨b4, 0, none⟩)) (r3 : w.rangeAt b3 0 [fv, .int .i64 fl]) (r4 : w.rangeAt b4 0 cs) (hf : zgd w fv fs) (ht : RepA w t cs) (hwf : wfT t)
  (hbig : (zeh (zkc fl v) v fs t).length < 549755813888) (hQ : ∀ (σ' : Env) (w' : World), Gave w (fixB v 2 ++ zeh (zkc fl v) v fs t) (σ' 5) w' → Q .normal σ' w') : W P loc N' (.draw (dKept N M)) Q σ w := by
 have md : Mod w w.drew zw := Mod.drew _ _
 obtain ⟨fsM, htM, _⟩ := S.msg.out
 have hlv : ∀ (f : Array Field) (x : List Value), ldv (.struct f) x = .agg x.toArray := fun _ _ => rfl
 refine zky B.mixed [true, false, true, true, true, false, false, false] (by kernel_rfl) (fun w' => Mod w w' zw) md fun τ => ?_
 unfold dKept
 refine zp (.int .i64 v) (fun w' hw => by
  rw [zby, ev_tmp]
  simp +decide only [bE, Nat.reduceAdd, s1]) rfl ?_
 simp only []
 refine zp (.agg [fv, .int .i64 fl].toArray) (fun w' hw => zap (by
  simp +decide only [bE, Nat.reduceBeqDiff, Nat.reduceAdd, ev_tmp, s3]
  have := htM.run_load (w := w') (b := b3) (o := 0) (zh hw r3) rfl (fun h => by cases h)
  rw [this]; rfl)) rfl ?_
 refine zp (.int .i64 v) (fun w' hw => by
  rw [zby, ev_tmp]
  simp +decide only [bE, Nat.reduceBeqDiff, Nat.reduceAdd, s1]) rfl ?_
 refine zp (.agg cs.toArray) (fun w' hw => zap (by
  simp +decide only [bE, Nat.reduceBeqDiff, Nat.reduceAdd, ev_tmp, s4]
  exact zbo S.tr (zh hw r4) ht.len)) rfl ?_
 simp only [zeb, zer, List.zip_cons_cons, List.zip_nil_right, List.zipWith_cons_cons, List.zipWith_nil_right, List.filter, Bool.not_true, Bool.not_false, List.map, zgq]
 rw [zah hW.Fixed.has]
 simp +decide only [bK, bE, Nat.reduceBeqDiff, BEq.rfl]
 refine (zps B hW.Fixed w.drew v 2 (by decide)).mono ?_
 rintro r1 w2 ⟨o2, m2⟩
 have m02 := md.trans' m2
 refine ⟨m02, ?_⟩
 rw [zdy hW.Write.has]
 simp +decide only [bK, bE, Nat.reduceBeqDiff, BEq.rfl]
 refine (sp_Write B S hW h1 hok (hf.stay m02) (RepA.stay m02 _ ht) hwf hbig).mono ?_
 rintro r5 w3 ⟨o3, m3⟩
 have m03 := m02.trans' m3
 refine ⟨m03, ?_⟩
 have hs := md.size
 have hs2 := m2.size
 have hs3 := m3.size
 obtain ⟨v6, w4, h6, o6, m6, _⟩ := zee (ty := N.za) B (Own.stay m3 (fun _ _ _ h => h) o2 : OwnB w3 w.drew.heap.size r1 (fixB v 2)) o3.octA (by omega) (by rw [zdr]; omega)
 simp +decide only [bK, h6]
 have m04 : Mod w w4 zw := m03.fresh m6 fun k o h => by have := (o2.blk h).1; omega
 refine ⟨m04, ?_⟩
 try simp +decide only [bK, bE, zmi, Nat.reduceBeqDiff, decide_true, decide_false, BEq.rfl, beq_self_eq_true, reduceIte, Nat.reduceAdd, Nat.reduceSub, Nat.reduceLT, Nat.reduceEqDiff, Nat.reduceLeDiff, Nat.reduceMul, Nat.add_sub_cancel, Int.reduceToNat, Nat.add_zero, Nat.zero_add, Nat.mul_one, Nat.reduceBEq, reduceCtorEq, Nat.zero_ne_one, Nat.one_ne_zero, Nat.lt_irrefl, if_false, if_true, List.take_succ_cons, List.take_zero, List.drop_succ_cons, List.drop_zero, true_and, Option.map_some, Option.map_none]
 refine zd fun σ' hσ => hQ σ' w4 ?_
 have g5 := hσ 5
 simp +decide only [bE, BEq.rfl, Nat.reduceAdd] at g5
 rw [g5]
 exact ⟨o6, m04⟩
theorem sp_Kept (B : Base P N) (S : SpT P N M) (hW : SW P N M) {kp : FuncId} (hF : FOk P kp 3 (c_Kept N M) [.var 5]) {w : World} {fv : Value} {fl v : Int} {fs : List Fld} {t : Tr} {cs : List Value} (h1 : fs.length < 1000) (hok : zkq fs = true) (hf : zgd w fv fs) (ht : RepA w t cs) (hwf : wfT t)
  (hbig : (zeh (zkc fl v) v fs t).length < 549755813888) : Call P kp #[.agg [fv, .int .i64 fl].toArray, .int .i64 v, .agg cs.toArray] w (Gave w (fixB v 2 ++ zeh (zkc fl v) v fs t)) := by
 refine hF.call rfl fun loc N' hlo => ?_
 unfold c_Kept
 refine zif (by simp) ?_
 refine zau fun K hK => zn fun τ => ?_
 simp +decide only [bK, bE, Nat.reduceBeqDiff, Nat.reduceAdd, Nat.zero_add]
 obtain ⟨w1, hw1⟩ : ∃ w1, w1 = w.alloc (.cells (Value.cells (.agg [fv, .int .i64 fl].toArray)) M.zac) := ⟨_, rfl⟩
 have m1 : Mod w w1 zw := by rw [hw1]; exact Mod.alloc _ _ _
 have r1 : w1.rangeAt w.heap.size 0 [fv, .int .i64 fl] := by rw [hw1]; exact zu w _ _ _
 have s1 : w1.heap.size = w.heap.size + 1 := by rw [hw1]; exact zae _ _
 rw [← hw1]
 clear hw1
 obtain ⟨w2, hw2⟩ : ∃ w2, w2 = w1.alloc (.cells (Value.cells (.agg cs.toArray)) N.zb) := ⟨_, rfl⟩
 have m2 : Mod w1 w2 zw := by rw [hw2]; exact Mod.alloc _ _ _
 have r2 : w2.rangeAt w1.heap.size 0 cs := by rw [hw2]; exact zu w1 _ _ _
 rw [← hw2]
 clear hw2
 have m02 := m1.trans' m2
 refine hK _ _ (zd fun σ1 hσ => ?_)
 have a1 := hσ 1
 have a3 := hσ 3
 have a4 := hσ 4
 simp +decide only [bE, Nat.reduceBeqDiff, BEq.rfl, Nat.reduceAdd, zgt] at a1 a3 a4
 clear hσ hK K
 refine zau fun K hK => W_kept B S hW h1 hok a1 a3 a4 (zh m2 r1) r2 (hf.stay m02) (RepA.stay m02 _ ht) hwf hbig fun σ' w' hg => hK _ _ (zau fun K2 hK2 => zbl ⟨.inr rfl, _, rfl, ?_⟩)
 have hs := m02.size
 exact ⟨Own.mono_lo hs hg.1, m02.trans' hg.2⟩
end
section
variable (N : Nums) (A : zck)
def Msg.appCV (m : Msg) : C := seqs ([.ops [⟨some 102, .assign (.const (.slice none 0 0)), 0, none, []⟩],
 .ops [⟨some 0, .move (V 0), 0, none, []⟩, ⟨some 1, .nilCheck (T 0), 0, none, []⟩, ⟨some 2, .fieldAddr m.tT (T 1) 0, 0, none, []⟩, ⟨some 3, .load N.zbd (T 2), 0, none, []⟩, ⟨some 103, .assign (T 3), 0, none, []⟩],
 .ops [⟨some 0, .move (V 3), 0, none, []⟩],
 .ops [⟨some 0, .move (V 3), 0, none, []⟩, ⟨some 1, .binOp .geq N.zbd (T 0) (.const (.int .i16 m.fl)) N.zbd, 0, none, []⟩, ⟨some 104, .assign (T 1), 0, none, []⟩],
 .ops [⟨some 0, .move (V 4), 0, none, []⟩]] ++ (Fds.cons .all (.pr .i16 none) m.fs).agen N A 0 m.tT 0 5 0 ++ [.ops [⟨some 0, .move (V 1), 0, none, []⟩, ⟨some 102, .assign (T 0), 0, none, []⟩], .ret])
end
section
variable {P : Program} {N : Nums} {A : zck}
theorem zrs (B : Base P N) (F : Fns P N) (C : ApC P N A) {m : Msg} (ha : m.fs.aok P N A) (hhf : m.fs.hf P m.tT 1 1) (hv0 : HF P m.tT 0 0) {f : FuncId} (hI : A.zbx ≠ 0) (hF : FOk P f 2 (m.appCV N A) [.var 2])
  {w : World} {G : Nat → Prop} {M lo : Nat} {ver : Int} {d : Value} {l : List UInt8} {vs : List Val} {css : List (List Value)} (hver : 0 ≤ ver) (hvs : ver < 32768) (hc : w.cell? ⟨M, 0, none⟩ = some (.int .i16 ver)) (hv : m.fs.okV vs) (hsm : smL vs) (hrep : RepL w G vs css) (hr : w.rangeAt M 1 css.flatten)
  (hG : ∀ k, G k → k < lo) (hM : M < lo) (hlo : lo ≤ w.heap.size) (ho : OwnB w lo d l) (hlen : l.length + (fixB ver 2 ++ m.fs.wr ver (decide (ver ≥ m.fl)) vs).length < 1099511627776) :
  Call P f #[.pointer (some ⟨M, 0, none⟩), d] w fun v' w' => OwnB w' lo v' (l ++ (fixB ver 2 ++ m.fs.wr ver (decide (ver ≥ m.fl)) vs)) ∧ Mod w w' (fun k _ => lo ≤ k) := by
 refine hF.call rfl fun loc N' hloc => ?_
 unfold Msg.appCV
 rw [List.append_assoc]
 refine zif (by simp) ?_
 simp only [List.cons_append, List.nil_append]
 refine zau fun K hK => zn fun τ => ?_
 simp +decide only [bK]
 refine hK _ _ (zd fun σ1 hσ => ?_)
 have a0 := hσ 0
 have a1 := hσ 1
 simp +decide only [bE, Nat.reduceBeqDiff, Nat.reduceAdd, Nat.zero_add, zbm, zcc] at a0 a1
 clear hσ hK K
 refine zau fun K hK => zn fun τ => ?_
 simp +decide only [bK, bE, BEq.rfl, Nat.zero_add, a0]
 rw [zat rfl]
 simp +decide only [bK, bE, BEq.rfl, Nat.add_zero, hv0.run, B.int16.run_load1 rfl, hc]
 refine hK _ _ (zd fun σ2 hσ => ?_)
 have b0 := hσ 0
 have b1 := hσ 1
 have b3 := hσ 3
 simp +decide only [bE, Nat.reduceBeqDiff, BEq.rfl, Nat.reduceAdd, Nat.zero_add, a0, a1] at b0 b1 b3
 clear hσ hK K
 refine zau fun K hK => zn fun τ => ?_
 simp +decide only [bK, bE, Nat.reduceAdd]
 refine hK _ _ (zd fun σ3 hσ => ?_)
 have c0 := hσ 0
 have c1 := hσ 1
 have c3 := hσ 3
 simp +decide only [bE, Nat.reduceBeqDiff, Nat.reduceAdd, Nat.zero_add, b0, b1, b3] at c0 c1 c3
 clear hσ hK K
 refine zau fun K hK => zn fun τ => ?_
 simp +decide only [bK, bE, BEq.rfl, Nat.reduceAdd, c3]
 refine hK _ _ (zd fun σ4 hσ => ?_)
 have d0 := hσ 0
 have d1 := hσ 1
 have d3 := hσ 3
 have d4 := hσ 4
 simp +decide only [bE, Nat.reduceBeqDiff, BEq.rfl, Nat.reduceAdd, Nat.zero_add, c0, c1, c3] at d0 d1 d3 d4
 clear hσ hK K
 refine zau fun K hK => zn fun τ => ?_
 simp +decide only [bK, bE, Nat.reduceAdd]
 refine hK _ _ (zd fun σ5 hσ => ?_)
 have e0 := hσ 0
 have e1 := hσ 1
 have e3 := hσ 3
 have e4 := hσ 4
 simp +decide only [bE, Nat.reduceBeqDiff, Nat.reduceAdd, Nat.zero_add, d0, d1, d3, d4] at e0 e1 e3 e4
 clear hσ hK K
 have hwr : (Fds.cons .all (.pr .i16 none) m.fs).wr ver (decide (ver ≥ m.fl)) (.num (.int .i16 ver) :: vs) = fixB ver 2 ++ m.fs.wr ver (decide (ver ≥ m.fl)) vs := rfl
 rw [← hwr] at hlen ⊢
 refine Fds.wW B F C hver (.cons .all (.pr .i16 none) m.fs) ⟨⟨hI, (fun h => nomatch h), fun h => absurd h (by decide)⟩, ha⟩ (idx := 0) (off := 0) (oo := 0) (vv := 0) (q := 5) (kk := 0) (.num (.int .i16 ver) :: vs) ([.int .i16 ver] :: css) hloc ⟨⟨ver, rfl, zge (by omega) (by omega)⟩, hv⟩ ⟨by show (zhn (.int .i16 ver)).length < _; simp [zhn], hsm⟩ ⟨_, _, rfl, rfl, hrep⟩ (by
  show w.rangeAt M 0 ([.int .i16 ver] ++ css.flatten)
  exact zx.2 ⟨zha.2 hc, hr⟩) hG hM hlo ⟨hv0, hhf⟩ e0 (by decide) (by decide) (by decide) ⟨e1, e3, e4, ho, .refl _ _⟩ hlen fun σ6 w6 d6 h6 _ => ?_
 refine zau fun K hK => zn fun τ => ?_
 simp +decide only [bK, bE, BEq.rfl, Nat.reduceAdd, h6.f1]
 refine hK _ _ (zd fun σ7 hσ => zau fun K2 hK2 => zbl ?_)
 have g2 := hσ 2
 simp +decide only [bE, BEq.rfl, Nat.reduceAdd] at g2
 exact ⟨.inr rfl, _, rfl, by rw [g2]; exact h6.own, h6.mod⟩
end
section
variable (N : Nums)
def c_doorMV (tT pT fill app : Nat) : C := seqs [.ops [⟨some 102, .box N.zaa (V 1), 0, none, []⟩, ⟨some 103, .assign (.const (.slice none 0 0)), 0, none, []⟩],
 .ops [⟨some 0, .move (V 0), 0, none, []⟩, ⟨some 1, .convert N.ze N.zbd (T 0), 0, none, []⟩, ⟨some 2, .build tT #[(0, T 1)], 0, none, []⟩, ⟨some 3, .box tT (T 2), 0, none, []⟩, ⟨some 104, .assign (T 3), 0, none, []⟩],
 .ops [⟨some 0, .move (V 4), 0, none, []⟩, ⟨some 1, .load N.zaa (V 2), 0, none, []⟩, ⟨some 2, .call ⟨.value (.func fill), #[T 0, T 1], #[pT, N.zaa]⟩, N.t_, none, []⟩],
 .ops [⟨some 0, .move (V 4), 0, none, []⟩, ⟨some 1, .call ⟨.value (.func app), #[T 0, .const (.slice none 0 0)], #[pT, N.za]⟩, N.za, none, []⟩, ⟨some 103, .assign (T 1), 0, none, []⟩], .ret]
end
structure MkDV (P : Program) (N : Nums) (M : zaz) (A : zck) (L : zen) (mf : TypeId → FuncId) (m : Msg) (d : MkN) : Prop where
 ti : ∃ pl by', SF P m.tT ((0, 1) :: pl) by' (.int .i16 0 :: m.fs.zero)
 z1 : ∀ c ∈ m.fs.zero, c.oneCell' = true
 hf : m.fs.hf P m.tT 1 1
 v0 : HF P m.tT 0 0
 fill : FOk P d.fillI 2 (m.fillC N L mf) []
 fok : m.fs.fok P N L mf .fill
 i16 : A.zbx ≠ 0
 app : FOk P d.app 2 (m.appCV N A) [.var 2]
 aok : m.fs.aok P N A
 door : FOk P d.mkI 2 (c_doorMV N m.tT m.pT d.fillI d.app) [.var 3]
section
variable {P : Program} {N : Nums} {M : zaz} {A : zck} {L : zen} {mf : TypeId → FuncId}
theorem zwq (n : Int) : IntKind.i16.wrap n < 32768 := by
 simp [IntKind.wrap, IntKind.bits, IntKind.signed]; omega
theorem zxv (B : Base P N) (F : Fns P N) (S : SpT P N M) (hI : zct P N N.zaa N.zcr N.zbh N.zbt) (T : TrF P N) (G : SMg P N M L) (C : ApC P N A) {m : Msg} {d : MkN} (D : MkDV P N M A L mf m d) {w : World} {t : Tr} {ct : List Value} {n : Int} (hr : RepA w t ct) (hb : bdT t) (hver : 0 ≤ IntKind.i16.wrap n)
  (hlen : (fixB (IntKind.i16.wrap n) 2 ++ m.fs.wr (IntKind.i16.wrap n) (decide (IntKind.i16.wrap n ≥ m.fl)) (m.fs.ofT 0 t)).length < 1099511627776) :
  Call P d.mkI #[.int .i64 n, .agg ct.toArray] w fun r w' => OctA w' r (fixB (IntKind.i16.wrap n) 2 ++ m.fs.wr (IntKind.i16.wrap n) (decide (IntKind.i16.wrap n ≥ m.fl)) (m.fs.ofT 0 t)) ∧ Mod w w' zw := by
 obtain ⟨pl, by', hSF⟩ := D.ti
 have hzl := Fds.zero_length m.fs
 refine D.door.call rfl fun loc N' hlo => ?_
 unfold c_doorMV
 refine zif (by simp) ?_
 obtain ⟨w1, hw1⟩ : ∃ w1, w1 = w.alloc (.cells (Value.cells (.agg ct.toArray)) N.zaa) := ⟨_, rfl⟩
 have m1 : Mod w w1 zw := by rw [hw1]; exact Mod.alloc _ _ _
 have s1 : w1.heap.size = w.heap.size + 1 := by rw [hw1]; exact zae _ _
 have r1 : w1.rangeAt w.heap.size 0 ct := by rw [hw1]; exact zu w _ _ _
 refine zau fun K hK => zn fun τ => ?_
 simp +decide only [bK, bE, Nat.reduceAdd]
 rw [← hw1]
 refine hK _ _ (zd fun σ1 hσ => ?_)
 have a0 := hσ 0
 have a2 := hσ 2
 simp +decide only [bE, Nat.reduceBeqDiff, BEq.rfl, Nat.reduceAdd, Nat.zero_add, zbm] at a0 a2
 clear hσ hK K hw1
 obtain ⟨x, hx⟩ : ∃ x, x = IntKind.i16.wrap n := ⟨_, rfl⟩
 have hbu : (Instr.build m.tT #[(0, .int .i16 x)]).run P w1 = .ok (.agg (.int .i16 x :: m.fs.zero).toArray) w1 := hSF.run_build (by simp [Instr.fill, Value.cells])
 obtain ⟨w2, hw2⟩ : ∃ w2, w2 = w1.alloc (.cells (Value.cells (.agg (.int .i16 x :: m.fs.zero).toArray)) m.tT) := ⟨_, rfl⟩
 have m2 : Mod w1 w2 zw := by rw [hw2]; exact Mod.alloc _ _ _
 have s2 : w2.heap.size = w1.heap.size + 1 := by rw [hw2]; exact zae _ _
 have r2 : w2.rangeAt w1.heap.size 0 ([.int .i16 x] ++ m.fs.zero) := by rw [hw2]; exact zu w1 (.int .i16 x :: m.fs.zero).toArray _ _
 have t2 : w2.there w1.heap.size 0 (m.fs.sz + 1) := by
  have := zbe w1 (.int .i16 x :: m.fs.zero).toArray m.tT
  have e : (Value.int .i16 x :: m.fs.zero).toArray.size = m.fs.sz + 1 := by simp [Fds.zero_length]
  rw [e] at this
  rw [hw2]; exact this
 have e0 : ∀ ρ : Env, (#[(0, Go.Kf.T 1)] : Array (Nat × Operand)).map (fun p => (p.1, ev ρ p.2)) = #[(0, ρ 1)] := fun ρ => by simp [ev]
 refine zau fun K hK => zn fun τ => ?_
 have hcv := fun {w : World} => zax (P := P) (w := w) (k' := .i64) B.int B.int16 (n := n) ⟨_, rfl⟩
 rw [← hx] at hcv
 simp +decide only [bK, bE, BEq.rfl, Nat.zero_add, a0, hcv, e0, hbu]
 rw [← hw2]
 refine hK _ _ (zd fun σ3 hσ => ?_)
 have c2 := hσ 2
 have c4 := hσ 4
 simp +decide only [bE, Nat.reduceBeqDiff, BEq.rfl, Nat.reduceAdd, a2] at c2 c4
 clear hσ hK K a0 a2 hw2 hbu
 obtain ⟨Mb, hMb⟩ : ∃ M, M = w1.heap.size := ⟨_, rfl⟩
 rw [← hMb] at r2 t2 c4
 have q2 := zx.1 r2
 have m03 : Mod w w2 zw := m1.trans' m2
 have hv3 : w2.cell? ⟨Mb, 0, none⟩ = some (.int .i16 (IntKind.i16.wrap n)) := by rw [← hx]; exact q2.1 0 _ rfl
 have r3 : w2.rangeAt Mb 1 m.fs.zero := by simpa using q2.2
 have t3 := t2
 have rT3 : w2.rangeAt w.heap.size 0 ct := zh m2 r1
 refine zau fun K hK => zn fun τ => ?_
 simp +decide only [bK, bE, Nat.reduceBeqDiff, Nat.reduceAdd, c2, c4, hI.loadT rT3 hr.len]
 rw [zah D.fill.has]
 simp +decide only [bK, bE, Nat.reduceBeqDiff, BEq.rfl]
 refine (zvx B F S hI T G D.fok D.fill D.hf m03 hr hb (b := Mb) (by omega) (by omega) (fun j hj => by
  have := t3 (1 + j) (by omega)
  rwa [Nat.zero_add] at this) r3).mono ?_
 rintro v4 w4 ⟨css, hrep, r4, m4⟩
 refine hK _ _ (zd fun σ4 hσ => ?_)
 have d4 := hσ 4
 simp +decide only [bE, Nat.reduceBeqDiff, Nat.reduceAdd, c4] at d4
 clear hσ hK K c2 c4
 have s4 := m4.size
 have s03 := m03.size
 have m04 : Mod w w4 zw := m03.fresh m4 fun k o h => by have := h.1; omega
 have hv4 : w4.cell? ⟨Mb, 0, none⟩ = some (.int .i16 (IntKind.i16.wrap n)) := by rw [m4.cell _ _ (by omega) (fun h => by have := h.2; omega)]; exact hv3
 have hok := Fds.ofOk m.fs 0 hb
 refine zau fun K hK => zn fun τ => ?_
 simp +decide only [bK, bE, Nat.reduceAdd, d4]
 rw [zah D.app.has]
 simp +decide only [bK, bE, BEq.rfl]
 refine (zrs B F C D.aok D.hf D.v0 D.i16 D.app (G := GV w w2 w4) (lo := w4.heap.size) (l := []) (d := .slice none 0 0) hver (by have := zwq n; omega) hv4 hok.1 hok.2 hrep r4 (fun k hk => by
  rcases hk with hk | hk
  ·have hk : k < w.heap.size := hk
   omega
  ·exact hk.2) (by omega) (Nat.le_refl _) zkp (by simpa using hlen)).mono ?_
 rintro v5 w5 ⟨ho5, m5⟩
 rw [List.nil_append] at ho5
 refine hK _ _ (zd fun σ5 hσ => zau fun K2 hK2 => zbl ⟨.inr rfl, _, rfl, ?_⟩)
 have g3 := hσ 3
 simp +decide only [bE, BEq.rfl, Nat.reduceAdd] at g3
 rw [g3]
 exact ⟨ho5.octA, m04.fresh m5 fun k o h => by have := m04.size; omega⟩
end
structure LawMV (P : Program) (N : Nums) (M : zaz) (A : zck) (L : zen) (mf : TypeId → FuncId) (m : Msg) (d : MkN) (mk : Nat) (kp : Nat) (sc : List SC) (fl : Int) : Prop where
 D : MkDV P N M A L mf m d
 kp : FOk P kp 3 (c_Kept N M) [.var 5]
 md : FOk P mk 0 (c_msg M sc fl) [.cell 0 M.zac]
 scb : scB sc = true
 sco : scOk P sc
 okf : zkq (SC.flds sc) = true
 ofb : zxj (SC.flds sc) = true
 ver : verW m (SC.flds sc) fl 0 = true
def dMakeV (N : Nums) (M : zaz) (L : zen) (mkI kp : Nat) : List ROp := [
 ⟨some 0, .move (V 6), 0, none, []⟩, ⟨some 1, .fieldAddr M.zac (V 5) 0, 0, none, []⟩, ⟨some 2, .load M.zab (T 1), 0, none, [1]⟩, ⟨some 3, .move (V 6), 0, none, []⟩, ⟨some 4, .load N.zb (V 2), 0, none, []⟩,
 ⟨some 5, .call ⟨.value (.func L.zkf), #[T 2, T 3, T 4], #[M.zab, N.ze, N.zb]⟩, N.zb, none, [2, 3, 4]⟩, ⟨some 6, .call ⟨.value (.func L.zll), #[T 5], #[N.zb]⟩, N.zaa, none, [5, 5]⟩,
 ⟨some 7, .call ⟨.value (.func mkI), #[T 0, T 6], #[N.ze, N.zaa]⟩, N.za, none, [0, 6, 6]⟩, ⟨some 8, .load M.zac (V 5), 0, none, []⟩, ⟨some 9, .move (V 6), 0, none, []⟩, ⟨some 10, .load N.zb (V 2), 0, none, []⟩,
 ⟨some 11, .call ⟨.value (.func kp), #[T 8, T 9, T 10], #[M.zac, N.ze, N.zb]⟩, N.za, none, [8, 9, 10, 7]⟩, ⟨some 12, .call ⟨.value (.func N.zec), #[T 7, T 11], #[N.za, N.za]⟩, N.zaq, none, [7, 11, 11]⟩,
 ⟨some 103, .assign (T 12), 0, none, [12, 12, 0, 1, 2, 3, 4, 5, 6, 7, 8, 9, 10, 11, 12]⟩]
def c_lawMV (N : Nums) (M : zaz) (L : zen) (mkI mk kp : Nat) : C := seqs [
 .ops [⟨some 102, .box N.zb (V 1), 0, none, []⟩, ⟨some 103, .assign (.const (.bool false)), 0, none, []⟩],
 .seq (.ops [⟨some 0, .load N.zb (V 2), 0, none, []⟩, ⟨some 1, .call ⟨.value (.func M.znn), #[T 0], #[N.zb]⟩, N.zaq, none, []⟩, ⟨some 104, .unOp .not N.zaq (T 1), 0, none, []⟩]) (.cond 4 (.seq (zgr 3 (.bool true)) .ret) .skip),
 .ops [⟨some 0, .call ⟨.value (.func mk), #[], #[]⟩, M.zac, none, []⟩, ⟨some 1, .move (V 0), 0, none, []⟩, ⟨some 2, .convert N.zk N.ze (T 1), 0, none, []⟩, ⟨some 3, .binOp .rem N.ze (T 2) (.const (.int .i64 1)) N.ze, 0, none, []⟩,
  ⟨some 105, .alloc M.zac, 0, none, []⟩, ⟨none, .store M.zac (V 5) (T 0), 0, none, []⟩, ⟨some 106, .assign (T 3), 0, none, []⟩],
 .draw (dMakeV N M L mkI kp), .ret]
section
variable {P : Program} {N : Nums} {M : zaz} {A : zck} {L : zen} {mf : TypeId → FuncId}
theorem call_lawMV (B : Base P N) (F : Fns P N) (S : SpT P N M) (hI : zct P N N.zaa N.zcr N.zbh N.zbt) (T : TrF P N) (hZ : SZ P N M) (hW : SW P N M) (C : ApC P N A) (hL : SMk P N M L) (G : SMg P N M L) (hgv : L.zll ≠ 0) (hN : N.zec ≠ 0) {m : Msg} {d : MkN} {mk kp : Nat} {sc : List SC} {fl : Int} (Lw : LawMV P N M A L mf m d mk kp sc fl) {f : Nat}
  (hf : FOk P f 2 (c_lawMV N M L d.mkI mk kp) [.var 3]) {w : World} {t : Tr} {ct : List Value} {n : Int} (hn : 0 ≤ n ∧ n ≤ 255) (ht : RepA w t ct) (hwf : wfT t) (hsz : szT t ≤ 1048576) :
  Call P f #[.int .u8 n, .agg ct.toArray] w fun v' w' => v' = .bool true ∧ Mod w w' zw := by
 refine hf.call rfl fun loc N' hlo => ?_
 unfold c_lawMV
 refine zif (by simp) ?_
 refine zau fun K hK => zn fun τ => ?_
 simp +decide only [bK, bE, Nat.reduceAdd]
 obtain ⟨w1, hw1⟩ : ∃ w1, w1 = w.alloc (.cells (Value.cells (.agg ct.toArray)) N.zb) := ⟨_, rfl⟩
 have m1 : Mod w w1 zw := by rw [hw1]; exact Mod.alloc _ _ _
 have r1 : w1.rangeAt w.heap.size 0 ct := by rw [hw1]; exact zu w _ _ _
 have s1 : w1.heap.size = w.heap.size + 1 := by rw [hw1]; exact zae _ _
 rw [← hw1]
 clear hw1
 refine hK _ _ (zd fun σ1 hσ => ?_)
 have a0 := hσ 0
 have a2 := hσ 2
 simp +decide only [bE, Nat.reduceBeqDiff, BEq.rfl, Nat.reduceAdd, Nat.zero_add, zbm] at a0 a2
 clear hσ hK K
 obtain ⟨bT, hbT⟩ : ∃ b, b = w.heap.size := ⟨_, rfl⟩
 rw [← hbT] at a2 r1
 have ht1 := RepA.stay m1 _ ht
 refine zau fun K hK => zf fun K1 hK1 => zn fun τ => ?_
 simp +decide only [bK, bE, Nat.reduceAdd, a2, zbo S.tr r1 ht.len]
 rw [zbb hZ.zzFits1.has]
 simp +decide only [bK, bE, BEq.rfl]
 refine (sp_fits1 B S hZ ht1 (fits_of hsz)).mono ?_
 rintro _ w2 ⟨rfl, m2⟩
 simp +decide only [bK]
 refine hK1 _ _ (zd fun σ2 hσ => ?_)
 have b0 := hσ 0
 have b2 := hσ 2
 have b4 := hσ 4
 simp +decide only [bE, Nat.reduceBeqDiff, BEq.rfl, Nat.reduceAdd, Nat.zero_add, a0, a2] at b0 b2 b4
 clear hσ hK1 K1 a0 a2
 refine W_if hlo b4 ?_
 simp only [Bool.not_true, Bool.false_eq_true, if_false]
 refine zbv (hK _ _ ?_)
 clear hK K b4
 have m02 := m1.trans' m2
 obtain ⟨v, hv⟩ : ∃ v : Nat, v = 0 := ⟨0, rfl⟩
 obtain ⟨fsM, htM, _⟩ := S.msg.out
 refine zau fun K hK => zn fun τ => ?_
 simp +decide only [bK, bE, Nat.reduceBeqDiff, BEq.rfl, Nat.reduceAdd, Nat.zero_add]
 rw [zjy Lw.md.has]
 refine (mk_msg S Lw.scb Lw.sco Lw.md w2).mono ?_
 rintro _ w4 ⟨fv, rfl, hfv, m4⟩
 have hcv := fun {w : World} => zax (P := P) (w := w) (k' := .u8) B.uint8 B.int (n := n) ⟨_, rfl⟩
 have hz : (IntKind.i64.wrap n).tmod 1 = (v : Int) := by rw [hv, Int.tmod_one]; rfl
 simp +decide only [bK, bE, Nat.reduceBeqDiff, BEq.rfl, b0, hcv, run_rem (show (1 : Int) ≠ 0 by decide), hz]
 obtain ⟨w5, w6, hal, hst, _, m46, s6, r6, _⟩ := zgs (cs := [fv, .int .i64 fl]) htM (by decide) rfl rfl (by
  intro c hc; simp at hc; rcases hc with rfl | rfl
  ·exact hfv.one
  ·rfl) w4
 simp +decide only [bK, hal, hst]
 refine hK _ _ (zd fun σ5 hσ => ?_)
 have e2 := hσ 2
 have e5 := hσ 5
 have e6 := hσ 6
 simp +decide only [bE, Nat.reduceBeqDiff, BEq.rfl, Nat.reduceAdd, b2] at e2 e5 e6
 clear hσ hK K b0 b2 hal hst
 obtain ⟨bM, hbM⟩ : ∃ b, b = w4.heap.size := ⟨_, rfl⟩
 rw [← hbM] at e5 r6
 have m06 := (m02.trans' m4).trans' m46
 have m16 := (m2.trans' m4).trans' m46
 have hf6 := hfv.stay m46
 have rT6 := zh m16 r1
 obtain ⟨g1, g3⟩ := verW_at Lw.ver (v := v) (by omega)
 have hfl : (SC.flds sc).length < 1000 := by rw [SC.flds_len]; exact (ztk Lw.scb).2.2.2
 have hbl : (zeh (zkc fl v) v (SC.flds sc) t).length ≤ K0 * szT t := zvh Lw.okf hfl hwf
 have hK0 : K0 * szT t ≤ 40000 * 1048576 := Nat.mul_le_mul (Nat.le_refl _) hsz
 have hbl2 : (zeh (zkc fl v) v (SC.flds sc) t).length < 549755813888 := by omega
 have hbd := fitP_bd (v := v) Lw.okf hfl (bdT_of t hwf hsz)
 have hi16 : IntKind.i16.wrap (v : Int) = v := zuo (by omega)
 have hfx : zkc fl v = decide ((v : Int) ≥ m.fl) := by rw [g3, Bool.true_and]
 have hwr := msg_wrF (m := m) (t := t) g1
 rw [Bool.true_and, ← hfx] at hwr
 have md : Mod w6 w6.drew zw := Mod.drew _ _
 refine zau fun K hK => zky B.mixed [true, true, true, true, true, false, false, false, true, true, true, false, false, false] (by kernel_rfl) (fun w' => Mod w6 w' zw) md fun τ => ?_
 have hlM : bM < w6.heap.size := by omega
 have q8 : zia σ5 τ 106 = .int .i64 v := by rw [← e6]; exact envOf_var σ5 τ 6
 refine zp (.int .i64 v) (fun w' _ => by rw [zby, ev_tmp, q8]) rfl ?_
 refine zp (.pointer (some ⟨bM, 0, none⟩)) (fun w' _ => zap (by simp +decide only [bE, Nat.reduceBeqDiff, Nat.reduceAdd, Nat.zero_add, ev_tmp, e5, S.m0.run])) rfl ?_
 refine zp fv (fun w' hw => zap (by
  have : w'.cell? ⟨bM, 0, none⟩ = some fv := zh hw r6 0 _ rfl
  simp +decide only [bE, BEq.rfl, ev_tmp, S.lf.run_load1 rfl, this, ldc_some])) rfl ?_
 refine zp (.int .i64 v) (fun w' _ => by
  rw [zby, ev_tmp]
  simp +decide only [bE, Nat.reduceBeqDiff, Nat.reduceAdd, e6]) rfl ?_
 refine zp (.agg ct.toArray) (fun w' hw => zap (by
  simp +decide only [bE, Nat.reduceBeqDiff, Nat.reduceAdd, ev_tmp, e2]
  exact zbo S.tr (zh hw rT6) ht.len)) rfl ?_
 show zeb P _ _ ((_, false) :: (_, false) :: (_, false) :: _) _
 rw [zeb, zeb, zeb]
 refine zp (.agg [fv, .int .i64 fl].toArray) (fun w' hw => zap (by
  have hld := htM.run_load (w := w') (b := bM) (o := 0) (zh hw r6) rfl (fun h => by cases h)
  have hlv : ldv (.struct fsM) [fv, .int .i64 fl] = .agg [fv, .int .i64 fl].toArray := rfl
  rw [hlv] at hld
  simp +decide only [bE, Nat.reduceBeqDiff, Nat.reduceAdd, ev_tmp, e5, hld])) rfl ?_
 refine zp (.int .i64 v) (fun w' _ => by
  rw [zby, ev_tmp]
  simp +decide only [bE, Nat.reduceBeqDiff, Nat.reduceAdd, e6]) rfl ?_
 refine zp (.agg ct.toArray) (fun w' hw => zap (by
  simp +decide only [bE, Nat.reduceBeqDiff, Nat.reduceAdd, ev_tmp, e2]
  exact zbo S.tr (zh hw rT6) ht.len)) rfl ?_
 simp only [zeb, dMakeV, zer, List.zip_cons_cons, List.zip_nil_right, List.zipWith_cons_cons, List.zipWith_nil_right, List.filter, Bool.not_true, Bool.not_false, List.map, zgq]
 rw [zdy hL.fit.has]
 simp +decide only [bK, bE, Nat.reduceBeqDiff, BEq.rfl]
 refine (fitP_of B S hW hL hfl Lw.okf Lw.ofb w w6.drew fv t ct (m06.trans' md) (hf6.stay md) ht).mono ?_
 rintro _ w7 ⟨c7, rfl, hr7, m7⟩
 have m67 := md.trans' m7
 refine ⟨m67, ?_⟩
 rw [zbb G.given.has]
 simp +decide only [bK, bE, BEq.rfl]
 have s7 := m7.size
 have s06 := m06.size
 refine (zst B S hI G hgv (zqn _ hbd) (fun k hk => by
  rcases hk with hk | hk
  ·have hk : k < w.heap.size := hk
   have : w6.drew.heap.size = w6.heap.size := rfl
   omega
  ·exact hk.2) hr7).mono ?_
 rintro _ w8 ⟨c8, rfl, hr8, m8⟩
 have m68 := m67.trans' m8
 refine ⟨m68, ?_⟩
 rw [zah Lw.D.door.has]
 simp +decide only [bK, bE, Nat.reduceBeqDiff, BEq.rfl]
 refine (zxv B F S hI T G C Lw.D (n := v) hr8 hbd (by rw [hi16]; omega) (by rw [hi16, ← hfx, hwr, List.length_append, zdr]; omega)).mono ?_
 rintro v9 w9 ⟨ho9, m9⟩
 rw [hi16, ← hfx, hwr] at ho9
 have m69 := m68.trans' m9
 refine ⟨m69, ?_⟩
 rw [zdy Lw.kp.has]
 simp +decide only [bK, bE, Nat.reduceBeqDiff, BEq.rfl]
 refine (sp_Kept B S hW Lw.kp hfl Lw.okf (hf6.stay m69) (RepA.stay (m06.trans' m69) _ ht) hwf hbl2).mono ?_
 rintro r w10 ⟨ho10, m10⟩
 have m610 := m69.trans' m10
 refine ⟨m610, ?_⟩
 rw [zah (F.spec_Same hN).has]
 simp +decide only [bK, bE, Nat.reduceBeqDiff, BEq.rfl]
 refine (zsu B F hN (ho9.stay m10) ho10.octA (by rw [List.length_append, zdr]; omega)).mono ?_
 rintro _ w11 ⟨rfl, m11⟩
 have m611 := m610.trans' m11
 refine ⟨m611, ?_⟩
 refine zd (K := fun σ' w' => zgw K _ .normal σ' w') fun σ9 hσ => hK _ _ ?_
 have q3 := hσ 3
 simp +decide only [bE, BEq.rfl, Nat.reduceAdd] at q3
 exact zau fun K2 hK2 => zbl ⟨.inr rfl, _, rfl, q3, m06.trans' m611⟩
end
section
end
end Go.Kf
